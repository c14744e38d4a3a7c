import JvmDerived
import JvmDerived.Pilot.@@N@@Statement
import JvmDerived.Pilot.@@N@@Code
set_option linter.unusedVariables false
set_option linter.unusedSimpArgs false
namespace Jvm.Pilot.@@N@@
open Jvm Jvm.ClassFile Sem Op Lib Jvm.Free Jvm.Stand Jvm.LawKit Jvm.RoadKit Bundle Jvm.Pilot.@@N@@.Jvm.D
section OwnHead
variable {p : Program} {l : Launch} {e : Env} {R : Room} {s : State} {m : MethodId} {args : Array Value} {below : List Frame} {meth : Method} {c : Code} {T T' : State} {Z : State} {own : String} {h h' : Heap} {n0 k n C S : Nat} {a0 : Array Value} {P : Option Value → Heap → Prop} {g g' : JFrame} {pc : Nat} {Ls : Array Slot} {st rest : List Value} {vm0 : Vm} {locs : List Loc}
theorem nfOf {args : Array Value} {s : State} {D : String} {x' z' y : MethodName} (h : (Cond.selects D x' z').before args s = true) (hc : z'.cls = y.cls) : NotFace s y := fun r0 h0 => by
  obtain ⟨c2, r2, m2, q1, q2, q3, q4, kP, hkP, hkPi⟩ := Cond.selects_spec h
  have e1 := findClass_of_methodNamed q3
  have e2 := findClass_of_methodNamed h0
  rw [hc] at e1
  have e3 : m2.cls = r0.cls := Option.some.inj (e1.symm.trans e2)
  exact ⟨kP, e3 ▸ hkP, hkPi⟩
/-- the tables over which the walk stands, and how it ends: wide (String constants may have been interned) -/
def Bk (s : State) (vm : Vm) (n : Nat) : Prop := ∃ k0, s.Since vm k0 ∧ k0 ≤ n
theorem Bk.mono {vm : Vm} {n n' : Nat} (h : Bk s vm n) (q : n ≤ n') : Bk s vm n' := by obtain ⟨k0, h1, h2⟩ := h; exact ⟨k0, h1, Nat.le_trans h2 q⟩
theorem Bk.start : Bk s s.vm n := ⟨0, (State.WarmedH.refl s).since 0, Nat.zero_le _⟩
abbrev EndF (s : State) (o : Outcome) (t : State) (L : List Loc) (k n : Nat) : Prop := ReturnedEndW s o t L k n
theorem EndF.mono {o : Outcome} {t : State} {L : List Loc} {k' n' : Nat} (h : EndF s o t L k n) (hk : k ≤ k') (hn : n ≤ n') : EndF s o t L k' n' := ⟨h.1, h.2.1, h.2.2.1, h.2.2.2.mono hk hn⟩
theorem Bk.leave (X : Stand p l e R (s.setVm vm0) m args below meth c T locs k n) (hB : Bk s vm0 T.heap.size) {v : Option Value} (hv : meth.sig.returnType = none → v = none) (hlk : meth.locks = false) :
    ∃ fs, (∀ (f : JFrame) (acts : List Action), f.method = m → f.locked = none → f.entered = [] → (doReturn e (T.setTop f) acts v).1 = T.setFrames fs) ∧ (T.setFrames fs).status = .running ∧ Ended (T.setFrames fs) below (.returned v) ∧ EndF s (.returned v) (T.setFrames fs) locs k n := by
  obtain ⟨k0, hS, hk⟩ := hB
  exact X.leaveW hS hk hv hlk
/-- a body's contract -/
def Met (l : Launch) (Z : State) (n0 : Nat) (y : MethodName) (bytes : ByteArray) (maxL : Nat) (ret : Option FieldType) (rm : Room) (as' : Array Value) (h0 : Heap) (Q : Option Value → Heap → Prop) : Prop :=
  MetFree l y (head1 [Cond.code y bytes maxL ret] rm) (fun a U => a = as' ∧ Z.Warmed39 U.vm ∧ U.heap = h0) (fun _ _ _ _ _ => True) (fun _ U o U' => ∃ v L, o = .returned v ∧ (Fr n0 L ∧ Q v U'.heap) ∧ EndF U o U' L rm.cells rm.slots)
theorem Bk.callS (X : Stand p l e R (s.setVm vm0) m args below meth c T locs k n) (hx : p.tables.exec = Jvm.exec) (hB : Bk s vm0 T.heap.size) (hZ : Z.Warmed39 vm0) (hown : vm0.findClass own = some m.cls) {index : Nat} {y : MethodName} {bytes : ByteArray} {maxL : Nat} {ret : Option FieldType} {rm : Room} {argsL : List Value} {Q : Option Value → Heap → Prop} {ps : List FieldType} {r : Option FieldType} (w1 : (Cond.methodLink own index y).before a0 Z = true) (w2 : (Cond.static y).before a0 Z = true) (wz : (Cond.initialized y.cls).before a0 Z = true) (wc : (Cond.code y bytes maxL ret).before a0 Z = true) (hy : y.cls ≠ "java/lang/invoke/MethodHandle" ∧ y.cls ≠ "java/lang/invoke/VarHandle")
    (hpd : parseMethodDescriptor y.desc = some ⟨ps, r⟩) (hlen : argsL.length = ps.length) (M : Met l Z n0 y bytes maxL ret rm argsL.toArray T.heap Q) (hsz : Ls.size = c.maxLocals) (hstk : st = argsL.reverse ++ rest) (hf : rm.frames + 1 ≤ R.frames) (hl : (rest.map fun v => v.category).sum + (maxL + 11) + rm.locals ≤ R.locals) (hd : decode c.code pc = .ok (.invokestatic index, 3)) (hc : k + rm.cells ≤ R.cells) (hs : n + rm.slots ≤ R.slots) :
    ∃ (v : Option Value) (vm1 : Vm) (T1 : State) (L2 : List Loc), Stand p l e R (s.setVm vm1) m args below meth c T1 (locs ++ L2) (k + rm.cells) (n + rm.slots) ∧ Bk s vm1 T1.heap.size ∧ Z.Warmed39 vm1 ∧ vm1.findClass own = some m.cls ∧ Fr n0 L2 ∧ Q v T1.heap ∧ ∀ t, Steps p.tables e below (T1.setTop (mkF m (pc + 3) Ls (v.toList ++ rest))) t → Steps p.tables e below (T.setTop (mkF m pc Ls st)) t := by
  obtain ⟨k0, hS, hk⟩ := hB
  have hZ' : Z.Warmed39 (s.setVm vm0).vm := hZ
  obtain ⟨v, vm1, ⟨T1, L1, k1, n1⟩, -, X1, hS1, hgr, ⟨L2, ⟨N2, hQ⟩, l1, y1, z1⟩, st1⟩ := Jvm.RoadKit.callSS X hx (y := y) hown (mvT (s := s.setVm vm0) hZ w1) (mvT (s := s.setVm vm0) hZ w2) (mvT (s := s.setVm vm0) hZ wz) (mvT (s := s.setVm vm0) hZ wc) hy (backOfS (Q := fun v h' L => Fr n0 L ∧ Q v h') (W := (rest.map fun v => v.category).sum) M hZ' wc wz hf hl) (g := mkF m pc Ls st) rfl hsz (argsL := argsL) (rest := rest) (lenOf hpd hlen) hstk (by show 2 * 0 + _ ≤ _; omega) hd (fun _ _ => ⟨rfl, rfl, hc, hs⟩)
  dsimp only [Pt.U, Pt.locs, Pt.cells, Pt.slots] at X1 l1 y1 z1 st1 hQ hS1 hgr
  subst l1 y1 z1
  have hA := hS1.1.alike
  exact ⟨v, T1.vm, T1, L2, X1, ⟨_, foldS hS hk hS1 hgr, Nat.le_refl _⟩, State.Warmed39.trans (t := s.setVm vm0) hZ hS1.1, by rw [hA.findClass]; exact hown, N2, hQ, fun _ q => st1.trans q⟩
theorem Bk.callSN (X : Stand p l e R (s.setVm vm0) m args below meth c T locs k n) (hx : p.tables.exec = Jvm.exec) (hB : Bk s vm0 T.heap.size) (hZ : Z.Warmed39 vm0) (hown : vm0.findClass own = some m.cls) {index : Nat} {y : MethodName} {bytes : ByteArray} {maxL : Nat} {ret : Option FieldType} {rm : Room} {argsL : List Value} {Q : Option Value → Heap → Prop} {ps : List FieldType} {r : Option FieldType} {host : String} (w1 : (Cond.methodLinkNest own index y host).before a0 Z = true) (w2 : (Cond.static y).before a0 Z = true) (wz : (Cond.initialized y.cls).before a0 Z = true) (wc : (Cond.code y bytes maxL ret).before a0 Z = true) (hy : y.cls ≠ "java/lang/invoke/MethodHandle" ∧ y.cls ≠ "java/lang/invoke/VarHandle")
    (hpd : parseMethodDescriptor y.desc = some ⟨ps, r⟩) (hlen : argsL.length = ps.length) (M : Met l Z n0 y bytes maxL ret rm argsL.toArray T.heap Q) (hsz : Ls.size = c.maxLocals) (hstk : st = argsL.reverse ++ rest) (hf : rm.frames + 1 ≤ R.frames) (hl : (rest.map fun v => v.category).sum + (maxL + 11) + rm.locals ≤ R.locals) (hd : decode c.code pc = .ok (.invokestatic index, 3)) (hc : k + rm.cells ≤ R.cells) (hs : n + rm.slots ≤ R.slots) :
    ∃ (v : Option Value) (vm1 : Vm) (T1 : State) (L2 : List Loc), Stand p l e R (s.setVm vm1) m args below meth c T1 (locs ++ L2) (k + rm.cells) (n + rm.slots) ∧ Bk s vm1 T1.heap.size ∧ Z.Warmed39 vm1 ∧ vm1.findClass own = some m.cls ∧ Fr n0 L2 ∧ Q v T1.heap ∧ ∀ t, Steps p.tables e below (T1.setTop (mkF m (pc + 3) Ls (v.toList ++ rest))) t → Steps p.tables e below (T.setTop (mkF m pc Ls st)) t := by
  obtain ⟨k0, hS, hk⟩ := hB
  have hZ' : Z.Warmed39 (s.setVm vm0).vm := hZ
  obtain ⟨v, vm1, ⟨T1, L1, k1, n1⟩, -, X1, hS1, hgr, ⟨L2, ⟨N2, hQ⟩, l1, y1, z1⟩, st1⟩ := Jvm.RoadKit.callSNS X hx (y := y) (host := host) hown ((Cond.methodLinkNest_wide hZ w1 :)) (mvT (s := s.setVm vm0) hZ w2) (mvT (s := s.setVm vm0) hZ wz) (mvT (s := s.setVm vm0) hZ wc) hy (backOfS (Q := fun v h' L => Fr n0 L ∧ Q v h') (W := (rest.map fun v => v.category).sum) M hZ' wc wz hf hl) (g := mkF m pc Ls st) rfl hsz (argsL := argsL) (rest := rest) (lenOf hpd hlen) hstk (by show 2 * 0 + _ ≤ _; omega) hd (fun _ _ => ⟨rfl, rfl, hc, hs⟩)
  dsimp only [Pt.U, Pt.locs, Pt.cells, Pt.slots] at X1 l1 y1 z1 st1 hQ hS1 hgr
  subst l1 y1 z1
  have hA := hS1.1.alike
  exact ⟨v, T1.vm, T1, L2, X1, ⟨_, foldS hS hk hS1 hgr, Nat.le_refl _⟩, State.Warmed39.trans (t := s.setVm vm0) hZ hS1.1, by rw [hA.findClass]; exact hown, N2, hQ, fun _ q => st1.trans q⟩
theorem Bk.callV (X : Stand p l e R (s.setVm vm0) m args below meth c T locs k n) (hx : p.tables.exec = Jvm.exec) (hB : Bk s vm0 T.heap.size) (hZ : Z.Warmed39 vm0) (hown : vm0.findClass own = some m.cls) {index : Nat} {y : MethodName} {bytes : ByteArray} {maxL : Nat} {ret : Option FieldType} {rm : Room} {argsL : List Value} {Q : Option Value → Heap → Prop} {ps : List FieldType} {r : Option FieldType} {z : MethodName} {K : String} {b : Addr} (E : Exa Z T.heap b K) (w1 : (Cond.methodLink own index y).before a0 Z = true) (w2 : (Cond.declares y).before a0 Z = true) (w3 : (Cond.selects K y z).before a0 Z = true) {D : String} {x' z' : MethodName} (w5 : (Cond.selects D x' z').before a0 Z = true) (h5 : z'.cls = y.cls) (w4 : (Cond.instanceMethod z).before a0 Z = true) (wz : (Cond.initialized z.cls).before a0 Z = true) (wc : (Cond.code z bytes maxL ret).before a0 Z = true) (hy : y.cls ≠ "java/lang/invoke/MethodHandle" ∧ y.cls ≠ "java/lang/invoke/VarHandle")
    (hpd : parseMethodDescriptor y.desc = some ⟨ps, r⟩) (hlen : argsL.length = ps.length) (M : Met l Z n0 z bytes maxL ret rm (.ref b :: argsL).toArray T.heap Q) (hsz : Ls.size = c.maxLocals) (hstk : st = argsL.reverse ++ .ref b :: rest) (hf : rm.frames + 1 ≤ R.frames) (hl : (rest.map fun v => v.category).sum + (maxL + 11) + rm.locals ≤ R.locals) (hd : decode c.code pc = .ok (.invokevirtual index, 3)) (hc : k + rm.cells ≤ R.cells) (hs : n + rm.slots ≤ R.slots) :
    ∃ (v : Option Value) (vm1 : Vm) (T1 : State) (L2 : List Loc), Stand p l e R (s.setVm vm1) m args below meth c T1 (locs ++ L2) (k + rm.cells) (n + rm.slots) ∧ Bk s vm1 T1.heap.size ∧ Z.Warmed39 vm1 ∧ vm1.findClass own = some m.cls ∧ Fr n0 L2 ∧ Q v T1.heap ∧ ∀ t, Steps p.tables e below (T1.setTop (mkF m (pc + 3) Ls (v.toList ++ rest))) t → Steps p.tables e below (T.setTop (mkF m pc Ls st)) t := by
  obtain ⟨k0, hS, hk⟩ := hB
  have hZ' : Z.Warmed39 (s.setVm vm0).vm := hZ
  obtain ⟨cq, kq, qa, qb, qc⟩ := isOf (s := s.setVm vm0) hZ' rfl E
  obtain ⟨v, vm1, ⟨T1, L1, k1, n1⟩, -, X1, hS1, hgr, ⟨L2, ⟨N2, hQ⟩, l1, y1, z1⟩, st1⟩ := X.virtualBackS hx (y := y) (z := z) hown (mvT (s := s.setVm vm0) hZ w1) (mvT (s := s.setVm vm0) hZ w2) (nfOf (args := #[]) (mvT (s := s.setVm vm0) hZ w5) h5) (mvT (s := s.setVm vm0) hZ w3) (mvT (s := s.setVm vm0) hZ w4) hy (backOfS (Q := fun v h' L => Fr n0 L ∧ Q v h') (W := (rest.map fun v => v.category).sum) M hZ' wc wz hf hl) qa qc (g := mkF m pc Ls st) rfl hsz (Steps.refl _) (argsL := argsL) (rest := rest) (lenOf hpd hlen) hstk (by show 2 * 0 + _ ≤ _; omega) hd (fun _ _ => ⟨rfl, rfl, hc, hs⟩)
  dsimp only [Pt.U, Pt.locs, Pt.cells, Pt.slots] at X1 l1 y1 z1 st1 hQ hS1 hgr
  subst l1 y1 z1
  have hA := hS1.1.alike
  exact ⟨v, T1.vm, T1, L2, X1, ⟨_, foldS hS hk hS1 hgr, Nat.le_refl _⟩, State.Warmed39.trans (t := s.setVm vm0) hZ hS1.1, by rw [hA.findClass]; exact hown, N2, hQ, fun _ q => st1.trans q⟩
theorem Bk.callU (X : Stand p l e R (s.setVm vm0) m args below meth c T locs k n) (hx : p.tables.exec = Jvm.exec) (hB : Bk s vm0 T.heap.size) (hZ : Z.Warmed39 vm0) (hown : vm0.findClass own = some m.cls) {index : Nat} {y : MethodName} {bytes : ByteArray} {maxL : Nat} {ret : Option FieldType} {rm : Room} {argsL : List Value} {Q : Option Value → Heap → Prop} {ps : List FieldType} {r : Option FieldType} {z : MethodName} {owner K : String} {b : Addr} (E : Exa Z T.heap b K) (w1 : (Cond.methodLink own index y).before a0 Z = true) (wsm : (Cond.sameMethod y.cls owner y.name y.desc).before a0 Z = true) (w2 : (Cond.declares ⟨owner, y.name, y.desc⟩).before a0 Z = true) (ho : owner ≠ "java/lang/invoke/MethodHandle" ∧ owner ≠ "java/lang/invoke/VarHandle") (w3 : (Cond.selects K y z).before a0 Z = true) (w4 : (Cond.instanceMethod z).before a0 Z = true) (wz : (Cond.initialized z.cls).before a0 Z = true) (wc : (Cond.code z bytes maxL ret).before a0 Z = true)
    (hpd : parseMethodDescriptor y.desc = some ⟨ps, r⟩) (hlen : argsL.length = ps.length) (M : Met l Z n0 z bytes maxL ret rm (.ref b :: argsL).toArray T.heap Q) (hsz : Ls.size = c.maxLocals) (hstk : st = argsL.reverse ++ .ref b :: rest) (hf : rm.frames + 1 ≤ R.frames) (hl : (rest.map fun v => v.category).sum + (maxL + 11) + rm.locals ≤ R.locals) (hd : decode c.code pc = .ok (.invokevirtual index, 3)) (hc : k + rm.cells ≤ R.cells) (hs : n + rm.slots ≤ R.slots) :
    ∃ (v : Option Value) (vm1 : Vm) (T1 : State) (L2 : List Loc), Stand p l e R (s.setVm vm1) m args below meth c T1 (locs ++ L2) (k + rm.cells) (n + rm.slots) ∧ Bk s vm1 T1.heap.size ∧ Z.Warmed39 vm1 ∧ vm1.findClass own = some m.cls ∧ Fr n0 L2 ∧ Q v T1.heap ∧ ∀ t, Steps p.tables e below (T1.setTop (mkF m (pc + 3) Ls (v.toList ++ rest))) t → Steps p.tables e below (T.setTop (mkF m pc Ls st)) t := by
  obtain ⟨k0, hS, hk⟩ := hB
  have hZ' : Z.Warmed39 (s.setVm vm0).vm := hZ
  obtain ⟨cq, kq, qa, qb, qc⟩ := isOf (s := s.setVm vm0) hZ' rfl E
  obtain ⟨v, vm1, ⟨T1, L1, k1, n1⟩, -, X1, hS1, hgr, ⟨L2, ⟨N2, hQ⟩, l1, y1, z1⟩, st1⟩ := X.virtualBackUpS hx (x := y) (y := z) hown (mvT (s := s.setVm vm0) hZ w1) (mvT (s := s.setVm vm0) hZ wsm) (mvT (s := s.setVm vm0) hZ w2) ho (mvT (s := s.setVm vm0) hZ w3) (mvT (s := s.setVm vm0) hZ w4) (backOfS (Q := fun v h' L => Fr n0 L ∧ Q v h') (W := (rest.map fun v => v.category).sum) M hZ' wc wz hf hl) qa qc (g := mkF m pc Ls st) rfl hsz (Steps.refl _) (argsL := argsL) (rest := rest) (lenOf hpd hlen) hstk (by show 2 * 0 + _ ≤ _; omega) hd (fun _ _ => ⟨rfl, rfl, hc, hs⟩)
  dsimp only [Pt.U, Pt.locs, Pt.cells, Pt.slots] at X1 l1 y1 z1 st1 hQ hS1 hgr
  subst l1 y1 z1
  have hA := hS1.1.alike
  exact ⟨v, T1.vm, T1, L2, X1, ⟨_, foldS hS hk hS1 hgr, Nat.le_refl _⟩, State.Warmed39.trans (t := s.setVm vm0) hZ hS1.1, by rw [hA.findClass]; exact hown, N2, hQ, fun _ q => st1.trans q⟩
theorem Bk.callN (X : Stand p l e R (s.setVm vm0) m args below meth c T locs k n) (hx : p.tables.exec = Jvm.exec) (hB : Bk s vm0 T.heap.size) (hZ : Z.Warmed39 vm0) (hown : vm0.findClass own = some m.cls) {index : Nat} {y : MethodName} {bytes : ByteArray} {maxL : Nat} {rm : Room} {argsL : List Value} {Q : Option Value → Heap → Prop} {ps : List FieldType} {r : Option FieldType} {b : Addr} (hin : y.name = "<init>") (w1 : (Cond.methodLink own index y).before a0 Z = true) (w4 : (Cond.instanceMethod y).before a0 Z = true) (wz : (Cond.initialized y.cls).before a0 Z = true) (wc : (Cond.code y bytes maxL none).before a0 Z = true) (hy : y.cls ≠ "java/lang/invoke/MethodHandle" ∧ y.cls ≠ "java/lang/invoke/VarHandle")
    (hpd : parseMethodDescriptor y.desc = some ⟨ps, r⟩) (hlen : argsL.length = ps.length) (M : Met l Z n0 y bytes maxL none rm (.ref b :: argsL).toArray T.heap Q) (hsz : Ls.size = c.maxLocals) (hstk : st = argsL.reverse ++ .ref b :: rest) (hf : rm.frames + 1 ≤ R.frames) (hl : (rest.map fun v => v.category).sum + (maxL + 11) + rm.locals ≤ R.locals) (hd : decode c.code pc = .ok (.invokespecial index, 3)) (hc : k + rm.cells ≤ R.cells) (hs : n + rm.slots ≤ R.slots) :
    ∃ (v : Option Value) (vm1 : Vm) (T1 : State) (L2 : List Loc), Stand p l e R (s.setVm vm1) m args below meth c T1 (locs ++ L2) (k + rm.cells) (n + rm.slots) ∧ Bk s vm1 T1.heap.size ∧ Z.Warmed39 vm1 ∧ vm1.findClass own = some m.cls ∧ Fr n0 L2 ∧ Q v T1.heap ∧ ∀ t, Steps p.tables e below (T1.setTop (mkF m (pc + 3) Ls (v.toList ++ rest))) t → Steps p.tables e below (T.setTop (mkF m pc Ls st)) t := by
  obtain ⟨k0, hS, hk⟩ := hB
  have hZ' : Z.Warmed39 (s.setVm vm0).vm := hZ
  obtain ⟨v, vm1, ⟨T1, L1, k1, n1⟩, -, X1, hS1, hgr, ⟨L2, ⟨N2, hQ⟩, l1, y1, z1⟩, st1⟩ := X.specialBackS hx (y := y) hin hown (mvT (s := s.setVm vm0) hZ w1) (mvT (s := s.setVm vm0) hZ w4) (mvT (s := s.setVm vm0) hZ wc) hy (backOfS (Q := fun v h' L => Fr n0 L ∧ Q v h') (W := (rest.map fun v => v.category).sum) M hZ' wc wz hf hl) (g := mkF m pc Ls st) rfl hsz (Steps.refl _) (a := b) (argsL := argsL) (rest := rest) (lenOf hpd hlen) hstk (by show 2 * 0 + _ ≤ _; omega) hd (fun _ _ => ⟨rfl, rfl, hc, hs⟩)
  dsimp only [Pt.U, Pt.locs, Pt.cells, Pt.slots] at X1 l1 y1 z1 st1 hQ hS1 hgr
  subst l1 y1 z1
  have hA := hS1.1.alike
  exact ⟨v, T1.vm, T1, L2, X1, ⟨_, foldS hS hk hS1 hgr, Nat.le_refl _⟩, State.Warmed39.trans (t := s.setVm vm0) hZ hS1.1, by rw [hA.findClass]; exact hown, N2, hQ, fun _ q => st1.trans q⟩
end OwnHead
/-! own layer: a walk in continuation form over the library's laws -/
section OwnKit
variable {p : Program} {l : Launch} {e : Env} {R : Room} {s : State} {m : MethodId} {args : Array Value} {below : List Frame} {meth : Method} {c : Code} {T T' : State} {Z : State} {own : String} {h h' : Heap} {n0 k n C S : Nat} {a0 : Array Value} {P : Option Value → Heap → Prop} {g g' : JFrame} {pc : Nat} {Ls : Array Slot} {st rest : List Value}
/-- where the walk stands: nothing but new cells written, n0 the first new address -/
def Std (p : Program) (l : Launch) (e : Env) (R : Room) (s : State) (m : MethodId) (args : Array Value) (below : List Frame) (meth : Method) (c : Code) (Z : State) (own : String) (n0 : Nat) (T : State) (h : Heap) (k n : Nat) : Prop :=
  ∃ vm0, (∃ locs, Stand p l e R (s.setVm vm0) m args below meth c T locs k n ∧ Fr n0 locs) ∧ T.heap = h ∧ p.tables.exec = Jvm.exec ∧ Z.Warmed39 vm0 ∧ vm0.findClass own = some m.cls ∧ Bk s vm0 h.size ∧ n0 ≤ s.heap.size ∧ meth.locks = false
/-- from here the method returns, and P holds of what it returns and of the heap -/
def Goes (p : Program) (e : Env) (below : List Frame) (s : State) (n0 C S : Nat) (P : Option Value → Heap → Prop) (T : State) (g : JFrame) : Prop :=
  ∃ (s₂ : State) (v : Option Value) (L : List Loc), Steps p.tables e below (T.setTop g) s₂ ∧ s₂.status = .running ∧ Ended s₂ below (.returned v) ∧ (Fr n0 L ∧ P v s₂.heap) ∧ EndF s (.returned v) s₂ L C S
theorem Std.here (X : Std p l e R s m args below meth c Z own n0 T h k n) : At T m c below := by obtain ⟨vm0, ⟨L, X, -⟩, -⟩ := X; exact X.here
theorem Std.hx (X : Std p l e R s m args below meth c Z own n0 T h k n) : p.tables.exec = Jvm.exec := by obtain ⟨vm0, -, -, h, -⟩ := X; exact h
theorem Std.n0le (X : Std p l e R s m args below meth c Z own n0 T h k n) : n0 ≤ h.size := by
  obtain ⟨vm0, ⟨L, X, -⟩, rfl, -, -, -, -, q, -⟩ := X
  exact Nat.le_trans q X.same.2.1
theorem Goes.by (st : ∀ t, Steps p.tables e below (T'.setTop g') t → Steps p.tables e below (T.setTop g) t) (G : Goes p e below s n0 C S P T' g') : Goes p e below s n0 C S P T g := by
  obtain ⟨s₂, v, L, h1, r⟩ := G
  exact ⟨s₂, v, L, st _ h1, r⟩
theorem Goes.mono {P' : Option Value → Heap → Prop} (G : Goes p e below s n0 C S P T g) (q : ∀ v h, P v h → P' v h) : Goes p e below s n0 C S P' T g := by
  obtain ⟨s₂, v, L, h1, h2, h3, ⟨h4, h5⟩, h6⟩ := G
  exact ⟨s₂, v, L, h1, h2, h3, ⟨h4, q _ _ h5⟩, h6⟩
theorem Std.retOut (X : Std p l e R s m args below meth c Z own n0 T h k n) {w : Value} {t : FieldType} {i : Instr} (hret : meth.sig.returnType = some t) (hn : narrow t w = w)
    (hi : (i = .ireturn ∧ (t = .int ∨ t = .boolean ∨ t = .byte ∨ t = .char ∨ t = .short) ∧ ∃ z, w = .int z) ∨ (i = .lreturn ∧ t = .long ∧ ∃ z, w = .long z) ∨ (i = .dreturn ∧ t = .double ∧ ∃ z, w = .double z) ∨ (i = .freturn ∧ t = .float ∧ ∃ z, w = .float z) ∨ (i = .areturn ∧ t.isReference = true ∧ w.isRef = true))
    (hd : decode c.code pc = .ok (i, 1)) (hc : k ≤ C) (hs : n ≤ S) (hP : P (some w) h) : Goes p e below s n0 C S P T (mkF m pc Ls (w :: rest)) := by
  obtain ⟨vm0, ⟨L, X, N⟩, rfl, hx, -, -, hB, -, hlk⟩ := X
  obtain ⟨fs, hr, hrun, hended, hE⟩ := Bk.leave X hB (v := some w) (fun q => by rw [hret] at q; cases q) hlk
  exact ⟨_, _, L, Jvm.RoadKit.retOut X hx hret hn hi hd hr, hrun, hended, ⟨N, hP⟩, EndF.mono hE hc hs⟩
theorem Std.retI (X : Std p l e R s m args below meth c Z own n0 T h k n) {z : Int32} (hret : meth.sig.returnType = some .int) (hd : decode c.code pc = .ok (.ireturn, 1)) (hc : k ≤ C) (hs : n ≤ S) (hP : P (some (.int z)) h) : Goes p e below s n0 C S P T (mkF m pc Ls (.int z :: rest)) :=
  X.retOut hret rfl (Or.inl ⟨rfl, Or.inl rfl, z, rfl⟩) hd hc hs hP
theorem Std.retA (X : Std p l e R s m args below meth c Z own n0 T h k n) {w : Value} {t : FieldType} (hret : meth.sig.returnType = some t) (ht : t.isReference = true) (hw : w.isRef = true) (hd : decode c.code pc = .ok (.areturn, 1)) (hc : k ≤ C) (hs : n ≤ S) (hP : P (some w) h) : Goes p e below s n0 C S P T (mkF m pc Ls (w :: rest)) :=
  X.retOut hret (by rcases ref_cases hw with rfl | ⟨a, rfl⟩ <;> cases t <;> rfl) (Or.inr (Or.inr (Or.inr (Or.inr ⟨rfl, ht, hw⟩)))) hd hc hs hP
theorem Std.retJ (X : Std p l e R s m args below meth c Z own n0 T h k n) {z : Int64} (hret : meth.sig.returnType = some .long) (hd : decode c.code pc = .ok (.lreturn, 1)) (hc : k ≤ C) (hs : n ≤ S) (hP : P (some (.long z)) h) : Goes p e below s n0 C S P T (mkF m pc Ls (.long z :: rest)) :=
  X.retOut hret rfl (Or.inr (Or.inl ⟨rfl, rfl, z, rfl⟩)) hd hc hs hP
theorem Std.retN (X : Std p l e R s m args below meth c Z own n0 T h k n) {z : Int32} {t : FieldType} (hret : meth.sig.returnType = some t) (ht : t = .boolean ∨ t = .byte ∨ t = .char ∨ t = .short) (hd : decode c.code pc = .ok (.ireturn, 1)) (hc : k ≤ C) (hs : n ≤ S) (hP : P (some (.int (nar t z))) h) : Goes p e below s n0 C S P T (mkF m pc Ls (.int z :: rest)) := by
  obtain ⟨vm0, ⟨L, X, N⟩, rfl, hx, -, -, hB, -, hlk⟩ := X
  obtain ⟨fs, hr, hrun, hended, hE⟩ := Bk.leave X hB (v := some (.int (nar t z))) (fun q => by rw [hret] at q; cases q) hlk
  exact ⟨_, _, L, Jvm.RoadKit.retN X hx hret ht hd hr, hrun, hended, ⟨N, hP⟩, EndF.mono hE hc hs⟩
theorem Std.retZ (X : Std p l e R s m args below meth c Z own n0 T h k n) {z : Int32} (hret : meth.sig.returnType = some .boolean) (hd : decode c.code pc = .ok (.ireturn, 1)) (hc : k ≤ C) (hs : n ≤ S) (hP : P (some (.int (nar .boolean z))) h) : Goes p e below s n0 C S P T (mkF m pc Ls (.int z :: rest)) :=
  X.retN hret (Or.inl rfl) hd hc hs hP
theorem Std.retV (X : Std p l e R s m args below meth c Z own n0 T h k n) (hret : meth.sig.returnType = none) (hd : decode c.code pc = .ok (.return_, 1)) (hc : k ≤ C) (hs : n ≤ S) (hP : P none h) : Goes p e below s n0 C S P T (mkF m pc Ls []) := by
  obtain ⟨vm0, ⟨L, X, N⟩, rfl, hx, -, -, hB, -, hlk⟩ := X
  obtain ⟨fs, hr, hrun, hended, hE⟩ := Bk.leave X hB (v := none) (fun _ => rfl) hlk
  exact ⟨_, _, L, X.returnOut hx hret hd hr, hrun, hended, ⟨N, hP⟩, EndF.mono hE hc hs⟩
theorem Std.ldcI (X : Std p l e R s m args below meth c Z own n0 T h k n) {index : Nat} {v : Int32} (w : (Cond.constant own index v).before a0 Z = true) (hd : decode c.code pc = .ok (.ldc index, 2)) (G : Goes p e below s n0 C S P T (mkF m (pc + 2) Ls (.int v :: st))) : Goes p e below s n0 C S P T (mkF m pc Ls st) := by
  obtain ⟨vm0, ⟨L, X, N⟩, -, hx, hZ, hown, -⟩ := X
  exact Goes.by (fun _ q => X.ldcI hx hown (mvT (s := s.setVm vm0) hZ w) rfl hd q) G
theorem Std.ldcWI (X : Std p l e R s m args below meth c Z own n0 T h k n) {index : Nat} {v : Int32} (w : (Cond.constant own index v).before a0 Z = true) (hd : decode c.code pc = .ok (.ldc_w index, 3)) (G : Goes p e below s n0 C S P T (mkF m (pc + 3) Ls (.int v :: st))) : Goes p e below s n0 C S P T (mkF m pc Ls st) := by
  obtain ⟨vm0, ⟨L, X, N⟩, -, hx, hZ, hown, -⟩ := X
  exact Goes.by (fun _ q => X.ldcWI hx hown (mvT (s := s.setVm vm0) hZ w) rfl hd q) G
theorem Std.getS (X : Std p l e R s m args below meth c Z own n0 T h k n) {index : Nat} {R0 O nm d host : String} {v : Value} (w : (Cond.fieldLink own index R0 nm d).before a0 Z = true ∨ (Cond.fieldLinkNest own index R0 nm d host).before a0 Z = true) (via : Via Z R0 O nm d) (F : Sta Z h O nm d v) (hd : decode c.code pc = .ok (.getstatic index, 3))
    (G : ∀ T, Std p l e R s m args below meth c Z own n0 T h k n → Goes p e below s n0 C S P T (mkF m (pc + 3) Ls (v :: st))) : Goes p e below s n0 C S P T (mkF m pc Ls st) := by
  obtain ⟨vm0, ⟨L, X, N⟩, eT, hx, hZ, hown, r⟩ := X
  obtain ⟨T1, X1, e1, st1⟩ := Jvm.RoadKit.getS2 X hx hZ hown w via eT F (g := mkF m pc Ls st) rfl hd
  exact Goes.by st1 (G T1 ⟨vm0, ⟨L, X1, N⟩, e1, hx, hZ, hown, r⟩)
theorem Std.getF (X : Std p l e R s m args below meth c Z own n0 T h k n) {index : Nat} {R0 O nm d host : String} {a : Addr} {v : Value} (w : (Cond.fieldLink own index R0 nm d).before a0 Z = true ∨ (Cond.fieldLinkNest own index R0 nm d host).before a0 Z = true) (via : Via Z R0 O nm d) (F : Fld Z h a O nm d v) (hd : decode c.code pc = .ok (.getfield index, 3))
    (G : ∀ T, Std p l e R s m args below meth c Z own n0 T h k n → Goes p e below s n0 C S P T (mkF m (pc + 3) Ls (v :: rest))) : Goes p e below s n0 C S P T (mkF m pc Ls (.ref a :: rest)) := by
  obtain ⟨vm0, ⟨L, X, N⟩, eT, hx, hZ, hown, r⟩ := X
  obtain ⟨T1, X1, e1, st1⟩ := Jvm.RoadKit.getF X hx hZ hown w via eT F (g := mkF m pc Ls (.ref a :: rest)) rfl rfl hd
  exact Goes.by st1 (G T1 ⟨vm0, ⟨L, X1, N⟩, e1, hx, hZ, hown, r⟩)
theorem Std.putF (X : Std p l e R s m args below meth c Z own n0 T h k n) {index kk : Nat} {R0 O nm d host K : String} {ty : FieldType} {a : Addr} {v old : Value} (w : (Cond.fieldLink own index R0 nm d).before a0 Z = true ∨ (Cond.fieldLinkNest own index R0 nm d host).before a0 Z = true) (via : Via Z R0 O nm d) (F : Fld Z h a O nm d old) (E : Exa Z h a K)
    (L : (Cond.lays K O nm d).before a0 Z = true ∨ ((Cond.laysFinal K O nm d).before a0 Z = true ∧ own = O ∧ meth.name = "<init>")) (wi : (Cond.instantiable K kk).before a0 Z = true) (hty : parseFieldDescriptor d = some ty) (hn : narrow ty v = v) (hf : fits ty v = true) (ha : n0 ≤ a) (hd : decode c.code pc = .ok (.putfield index, 3))
    (G : ∀ T h', Std p l e R s m args below meth c Z own n0 T h' k n → Wr h h' a (Jvm.RoadKit.slotOf Z O nm d) v → Goes p e below s n0 C S P T (mkF m (pc + 3) Ls rest)) : Goes p e below s n0 C S P T (mkF m pc Ls (v :: .ref a :: rest)) := by
  obtain ⟨vm0, ⟨L0, X, N⟩, eT, hx, hZ, hown, hB, r⟩ := X
  obtain ⟨T1, h1, X1, e1, W1, st1⟩ := Jvm.RoadKit.putF X hx hZ hown w via eT F E L wi hty hn hf (g := mkF m pc Ls (v :: .ref a :: rest)) rfl rfl hd
  exact Goes.by st1 (G T1 h1 ⟨vm0, ⟨_, X1, Fr.snoc X1 N ha⟩, e1, hx, hZ, hown, hB.mono (Nat.le_of_eq W1.size.symm), r⟩ W1)
theorem Std.newO (X : Std p l e R s m args below meth c Z own n0 T h k n) {index j : Nat} {K : String} (w : (Cond.classLink own index K).before a0 Z = true) (wi : (Cond.instantiable K j).before a0 Z = true) (wz : (Cond.initialized K).before a0 Z = true) (hd : decode c.code pc = .ok (.new index, 3)) (hc : k + 1 ≤ R.cells) (hl : n + j ≤ R.slots)
    (G : ∀ T h' a, Std p l e R s m args below meth c Z own n0 T h' (k + 1) (n + j) → a = h.size → n0 ≤ a → Ext h h' → Exa Z h' a K → (∀ {O nm d : String} {ty : FieldType}, Laid Z a0 K O nm d → parseFieldDescriptor d = some ty → Fld Z h' a O nm d (defaultValue ty)) → Goes p e below s n0 C S P T (mkF m (pc + 3) Ls (.ref a :: st))) : Goes p e below s n0 C S P T (mkF m pc Ls st) := by
  have q := X.n0le
  obtain ⟨vm0, ⟨L0, X, N⟩, eT, hx, hZ, hown, hB, r⟩ := X
  obtain ⟨T1, h1, X1, e1, E1, A1, D1, -, st1⟩ := Jvm.RoadKit.newO X hx hZ hown w wi wz eT (g := mkF m pc Ls st) rfl hd hc hl
  exact Goes.by st1 (G T1 h1 h.size ⟨vm0, ⟨_, X1, N⟩, e1, hx, hZ, hown, hB.mono E1.1, r⟩ rfl q E1 A1 D1)
theorem Std.initO (X : Std p l e R s m args below meth c Z own n0 T h k n) {index : Nat} {a : Addr} (w1 : (Cond.methodLink own index Lib.objectInit).before a0 Z = true) (w2 : (Cond.instanceMethod Lib.objectInit).before a0 Z = true) (w3 : (Cond.code Lib.objectInit object_method_1_code 1 none).before a0 Z = true) (hsz : Ls.size = c.maxLocals) (hd : decode c.code pc = .ok (.invokespecial index, 3)) (hf : 1 ≤ R.frames) (hl : (rest.map fun v => v.category).sum + 12 ≤ R.locals)
    (G : ∀ T, Std p l e R s m args below meth c Z own n0 T h k n → Goes p e below s n0 C S P T (mkF m (pc + 3) Ls rest)) : Goes p e below s n0 C S P T (mkF m pc Ls (.ref a :: rest)) := by
  obtain ⟨vm0, ⟨L, X, N⟩, eT, hx, hZ, hown, r⟩ := X
  obtain ⟨T1, X1, e1, st1⟩ := Jvm.RoadKit.initO X hx hZ hown w1 w2 w3 eT (g := mkF m pc Ls (.ref a :: rest)) rfl hsz rfl hd hf (W := (rest.map fun v => v.category).sum) (by show 2 * 0 + _ ≤ _; omega) hl
  exact Goes.by st1 (G T1 ⟨vm0, ⟨L, X1, N⟩, e1, hx, hZ, hown, r⟩)
theorem Std.irem (X : Std p l e R s m args below meth c Z own n0 T h k n) {x y : Int32} (hd : decode c.code pc = .ok (.irem, 1)) (hy : y ≠ 0) (G : Goes p e below s n0 C S P T (mkF m (pc + 1) Ls (.int (x % y) :: rest))) : Goes p e below s n0 C S P T (mkF m pc Ls (.int y :: .int x :: rest)) := by
  obtain ⟨vm0, ⟨L, X, N⟩, eT, hx, r⟩ := X
  exact Goes.by (fun _ q => iremM X hx rfl hd rfl hy q) G
theorem Std.acmp (X : Std p l e R s m args below meth c Z own n0 T h k n) {cd : ACond} {x y : Value} (h1 : x.isRef = true) (h2 : y.isRef = true) {o : Int} {pc' : Nat} {same : Bool} (hd : decode c.code pc = .ok (.if_acmp cd o, 3)) (hq : decide (x = y) = same) (ho : 0 ≤ (pc : Int) + o) (hp : pc' = if acV cd same = true then ((pc : Int) + o).toNat else pc + 3) (G : Goes p e below s n0 C S P T (mkF m pc' Ls rest)) : Goes p e below s n0 C S P T (mkF m pc Ls (y :: x :: rest)) := by
  obtain ⟨vm0, ⟨L, X, N⟩, eT, hx, r⟩ := X
  exact Goes.by (fun _ q => Jvm.RoadKit.acmp X hx rfl h1 h2 rfl hd rfl hq ho hp q) G
theorem metW {ws : List Jvm.Cond} {y : MethodName} {bytes : ByteArray} {maxL : Nat} {ret : Option FieldType} {rm : Room} {as' : Array Value} {h0 : Heap} {Q : Option Value → Heap → Prop} (hpl : plainFor y = true) (hn0 : n0 ≤ h0.size)
    (body : ∀ p e s m below meth c s₁, Std p l e rm s m as' below meth c Z y.cls n0 s₁ h0 0 0 → c.code = bytes → c.maxLocals = maxL → meth.sig.returnType = ret → meth.name = y.name → Goes p e below s n0 rm.cells rm.slots Q s₁ (entryFrame m as' maxL)) :
    MetFree l y (head1 (Cond.code y bytes maxL ret :: ws) rm) (fun a U => a = as' ∧ Z.Warmed39 U.vm ∧ U.heap = h0) (fun _ _ _ _ _ => True) (fun _ U o U' => ∃ v L, o = .returned v ∧ (Fr n0 L ∧ Q v U'.heap) ∧ EndF U o U' L rm.cells rm.slots) := by
  refine MetFree.of_bodySF hpl hisR ?_
  intro p e s m args below meth c s₁ Bd hml hP hK
  obtain ⟨rfl, hZ, hh⟩ := hP
  have e0 : s₁.heap = h0 := by rw [← hh, Bd.state]; rfl
  obtain ⟨s₂, v, L, h1, h2, h3, h4, h5⟩ := body p e s m below meth c s₁ ⟨s.vm, ⟨[], Stand.of_body Bd, Fr.nil n0⟩, e0, Bd.exec, hZ, findClass_of_methodNamed Bd.named, Bk.start, by rw [hh]; exact hn0, Bd.notSynchronized⟩ Bd.bytes hml Bd.returns (name_of_methodNamed Bd.named Bd.method).1
  exact ⟨s₂, _, h1, h2, h3, v, L, rfl, h4, h5⟩
theorem Std.callS (X : Std p l e R s m args below meth c Z own n0 T h k n) {index : Nat} {y : MethodName} {bytes : ByteArray} {maxL : Nat} {ret : Option FieldType} {rm : Room} {argsL : List Value} {Q : Option Value → Heap → Prop} {ps : List FieldType} {r : Option FieldType} (w1 : (Cond.methodLink own index y).before a0 Z = true) (w2 : (Cond.static y).before a0 Z = true) (wz : (Cond.initialized y.cls).before a0 Z = true) (wc : (Cond.code y bytes maxL ret).before a0 Z = true) (hy : y.cls ≠ "java/lang/invoke/MethodHandle" ∧ y.cls ≠ "java/lang/invoke/VarHandle")
    (hpd : parseMethodDescriptor y.desc = some ⟨ps, r⟩) (hlen : argsL.length = ps.length) (M : Met l Z n0 y bytes maxL ret rm argsL.toArray h Q) (hsz : Ls.size = c.maxLocals) (hstk : st = argsL.reverse ++ rest) (hf : rm.frames + 1 ≤ R.frames) (hl : (rest.map fun v => v.category).sum + (maxL + 11) + rm.locals ≤ R.locals) (hd : decode c.code pc = .ok (.invokestatic index, 3)) (hc : k + rm.cells ≤ R.cells) (hs : n + rm.slots ≤ R.slots)
    (G : ∀ T h' v, Std p l e R s m args below meth c Z own n0 T h' (k + rm.cells) (n + rm.slots) → Q v h' → Goes p e below s n0 C S P T (mkF m (pc + 3) Ls (v.toList ++ rest))) : Goes p e below s n0 C S P T (mkF m pc Ls st) := by
  obtain ⟨vm0, ⟨L0, X, N⟩, eT, hx, hZ, hown, hB, r⟩ := X
  subst eT
  obtain ⟨v, vm1, T1, L2, X1, hB1, hZ1, hown1, N2, hQ, st1⟩ := Bk.callS X hx hB hZ hown w1 w2 wz wc hy hpd hlen M hsz hstk hf hl hd hc hs
  exact Goes.by st1 (G T1 _ v ⟨vm1, ⟨_, X1, Fr.app N N2⟩, rfl, hx, hZ1, hown1, hB1, r⟩ hQ)
theorem Std.callSN (X : Std p l e R s m args below meth c Z own n0 T h k n) {index : Nat} {y : MethodName} {bytes : ByteArray} {maxL : Nat} {ret : Option FieldType} {rm : Room} {argsL : List Value} {Q : Option Value → Heap → Prop} {ps : List FieldType} {r : Option FieldType} {host : String} (w1 : (Cond.methodLinkNest own index y host).before a0 Z = true) (w2 : (Cond.static y).before a0 Z = true) (wz : (Cond.initialized y.cls).before a0 Z = true) (wc : (Cond.code y bytes maxL ret).before a0 Z = true) (hy : y.cls ≠ "java/lang/invoke/MethodHandle" ∧ y.cls ≠ "java/lang/invoke/VarHandle")
    (hpd : parseMethodDescriptor y.desc = some ⟨ps, r⟩) (hlen : argsL.length = ps.length) (M : Met l Z n0 y bytes maxL ret rm argsL.toArray h Q) (hsz : Ls.size = c.maxLocals) (hstk : st = argsL.reverse ++ rest) (hf : rm.frames + 1 ≤ R.frames) (hl : (rest.map fun v => v.category).sum + (maxL + 11) + rm.locals ≤ R.locals) (hd : decode c.code pc = .ok (.invokestatic index, 3)) (hc : k + rm.cells ≤ R.cells) (hs : n + rm.slots ≤ R.slots)
    (G : ∀ T h' v, Std p l e R s m args below meth c Z own n0 T h' (k + rm.cells) (n + rm.slots) → Q v h' → Goes p e below s n0 C S P T (mkF m (pc + 3) Ls (v.toList ++ rest))) : Goes p e below s n0 C S P T (mkF m pc Ls st) := by
  obtain ⟨vm0, ⟨L0, X, N⟩, eT, hx, hZ, hown, hB, r⟩ := X
  subst eT
  obtain ⟨v, vm1, T1, L2, X1, hB1, hZ1, hown1, N2, hQ, st1⟩ := Bk.callSN X hx hB hZ hown w1 w2 wz wc hy hpd hlen M hsz hstk hf hl hd hc hs
  exact Goes.by st1 (G T1 _ v ⟨vm1, ⟨_, X1, Fr.app N N2⟩, rfl, hx, hZ1, hown1, hB1, r⟩ hQ)
theorem Std.callV (X : Std p l e R s m args below meth c Z own n0 T h k n) {index : Nat} {y : MethodName} {bytes : ByteArray} {maxL : Nat} {ret : Option FieldType} {rm : Room} {argsL : List Value} {Q : Option Value → Heap → Prop} {ps : List FieldType} {r : Option FieldType} {z : MethodName} {K : String} {b : Addr} (E : Exa Z h b K) (w1 : (Cond.methodLink own index y).before a0 Z = true) (w2 : (Cond.declares y).before a0 Z = true) (w3 : (Cond.selects K y z).before a0 Z = true) {D : String} {x' z' : MethodName} (w5 : (Cond.selects D x' z').before a0 Z = true) (h5 : z'.cls = y.cls) (w4 : (Cond.instanceMethod z).before a0 Z = true) (wz : (Cond.initialized z.cls).before a0 Z = true) (wc : (Cond.code z bytes maxL ret).before a0 Z = true) (hy : y.cls ≠ "java/lang/invoke/MethodHandle" ∧ y.cls ≠ "java/lang/invoke/VarHandle")
    (hpd : parseMethodDescriptor y.desc = some ⟨ps, r⟩) (hlen : argsL.length = ps.length) (M : Met l Z n0 z bytes maxL ret rm (.ref b :: argsL).toArray h Q) (hsz : Ls.size = c.maxLocals) (hstk : st = argsL.reverse ++ .ref b :: rest) (hf : rm.frames + 1 ≤ R.frames) (hl : (rest.map fun v => v.category).sum + (maxL + 11) + rm.locals ≤ R.locals) (hd : decode c.code pc = .ok (.invokevirtual index, 3)) (hc : k + rm.cells ≤ R.cells) (hs : n + rm.slots ≤ R.slots)
    (G : ∀ T h' v, Std p l e R s m args below meth c Z own n0 T h' (k + rm.cells) (n + rm.slots) → Q v h' → Goes p e below s n0 C S P T (mkF m (pc + 3) Ls (v.toList ++ rest))) : Goes p e below s n0 C S P T (mkF m pc Ls st) := by
  obtain ⟨vm0, ⟨L0, X, N⟩, eT, hx, hZ, hown, hB, r⟩ := X
  subst eT
  obtain ⟨v, vm1, T1, L2, X1, hB1, hZ1, hown1, N2, hQ, st1⟩ := Bk.callV X hx hB hZ hown E w1 w2 w3 w5 h5 w4 wz wc hy hpd hlen M hsz hstk hf hl hd hc hs
  exact Goes.by st1 (G T1 _ v ⟨vm1, ⟨_, X1, Fr.app N N2⟩, rfl, hx, hZ1, hown1, hB1, r⟩ hQ)
theorem Std.callU (X : Std p l e R s m args below meth c Z own n0 T h k n) {index : Nat} {y : MethodName} {bytes : ByteArray} {maxL : Nat} {ret : Option FieldType} {rm : Room} {argsL : List Value} {Q : Option Value → Heap → Prop} {ps : List FieldType} {r : Option FieldType} {z : MethodName} {owner K : String} {b : Addr} (E : Exa Z h b K) (w1 : (Cond.methodLink own index y).before a0 Z = true) (wsm : (Cond.sameMethod y.cls owner y.name y.desc).before a0 Z = true) (w2 : (Cond.declares ⟨owner, y.name, y.desc⟩).before a0 Z = true) (ho : owner ≠ "java/lang/invoke/MethodHandle" ∧ owner ≠ "java/lang/invoke/VarHandle") (w3 : (Cond.selects K y z).before a0 Z = true) (w4 : (Cond.instanceMethod z).before a0 Z = true) (wz : (Cond.initialized z.cls).before a0 Z = true) (wc : (Cond.code z bytes maxL ret).before a0 Z = true)
    (hpd : parseMethodDescriptor y.desc = some ⟨ps, r⟩) (hlen : argsL.length = ps.length) (M : Met l Z n0 z bytes maxL ret rm (.ref b :: argsL).toArray h Q) (hsz : Ls.size = c.maxLocals) (hstk : st = argsL.reverse ++ .ref b :: rest) (hf : rm.frames + 1 ≤ R.frames) (hl : (rest.map fun v => v.category).sum + (maxL + 11) + rm.locals ≤ R.locals) (hd : decode c.code pc = .ok (.invokevirtual index, 3)) (hc : k + rm.cells ≤ R.cells) (hs : n + rm.slots ≤ R.slots)
    (G : ∀ T h' v, Std p l e R s m args below meth c Z own n0 T h' (k + rm.cells) (n + rm.slots) → Q v h' → Goes p e below s n0 C S P T (mkF m (pc + 3) Ls (v.toList ++ rest))) : Goes p e below s n0 C S P T (mkF m pc Ls st) := by
  obtain ⟨vm0, ⟨L0, X, N⟩, eT, hx, hZ, hown, hB, r⟩ := X
  subst eT
  obtain ⟨v, vm1, T1, L2, X1, hB1, hZ1, hown1, N2, hQ, st1⟩ := Bk.callU X hx hB hZ hown E w1 wsm w2 ho w3 w4 wz wc hpd hlen M hsz hstk hf hl hd hc hs
  exact Goes.by st1 (G T1 _ v ⟨vm1, ⟨_, X1, Fr.app N N2⟩, rfl, hx, hZ1, hown1, hB1, r⟩ hQ)
theorem Std.callN (X : Std p l e R s m args below meth c Z own n0 T h k n) {index : Nat} {y : MethodName} {bytes : ByteArray} {maxL : Nat} {rm : Room} {argsL : List Value} {Q : Option Value → Heap → Prop} {ps : List FieldType} {r : Option FieldType} {b : Addr} (hin : y.name = "<init>") (w1 : (Cond.methodLink own index y).before a0 Z = true) (w4 : (Cond.instanceMethod y).before a0 Z = true) (wz : (Cond.initialized y.cls).before a0 Z = true) (wc : (Cond.code y bytes maxL none).before a0 Z = true) (hy : y.cls ≠ "java/lang/invoke/MethodHandle" ∧ y.cls ≠ "java/lang/invoke/VarHandle")
    (hpd : parseMethodDescriptor y.desc = some ⟨ps, r⟩) (hlen : argsL.length = ps.length) (M : Met l Z n0 y bytes maxL none rm (.ref b :: argsL).toArray h Q) (hsz : Ls.size = c.maxLocals) (hstk : st = argsL.reverse ++ .ref b :: rest) (hf : rm.frames + 1 ≤ R.frames) (hl : (rest.map fun v => v.category).sum + (maxL + 11) + rm.locals ≤ R.locals) (hd : decode c.code pc = .ok (.invokespecial index, 3)) (hc : k + rm.cells ≤ R.cells) (hs : n + rm.slots ≤ R.slots)
    (G : ∀ T h' v, Std p l e R s m args below meth c Z own n0 T h' (k + rm.cells) (n + rm.slots) → Q v h' → Goes p e below s n0 C S P T (mkF m (pc + 3) Ls (v.toList ++ rest))) : Goes p e below s n0 C S P T (mkF m pc Ls st) := by
  obtain ⟨vm0, ⟨L0, X, N⟩, eT, hx, hZ, hown, hB, r⟩ := X
  subst eT
  obtain ⟨v, vm1, T1, L2, X1, hB1, hZ1, hown1, N2, hQ, st1⟩ := Bk.callN X hx hB hZ hown hin w1 w4 wz wc hy hpd hlen M hsz hstk hf hl hd hc hs
  exact Goes.by st1 (G T1 _ v ⟨vm1, ⟨_, X1, Fr.app N N2⟩, rfl, hx, hZ1, hown1, hB1, r⟩ hQ)
theorem fldEq {args : Array Value} {s : State} {t : Term} {a : Addr} {C n d : String} {k : Int32} (ht : t.eval args s none [] s = some (.ref a)) (h : (Jvm.Cond.eq (.field t C n d) (.int k)).value args s none s [] = some true) : Fld s s.heap a C n d (.int k) := by
  obtain ⟨x, y, ex, ey, kx, ky⟩ := cmp_v (Or.inl h)
  have hy : y = .int k := Option.some.inj (ey.symm.trans (Term.int_eval k))
  subst hy
  obtain ⟨z, rfl⟩ : ∃ z, x = .int z := ky
  have q := gotT (Cond.eq_ints ex (Term.int_eval k)) h
  subst q
  exact Fld.start ((fld_at ht).symm.trans ex)
theorem fldEqS {args : Array Value} {s : State} {t u : Term} {a b : Addr} {C n d : String} (ht : t.eval args s none [] s = some (.ref a)) (hu : u.eval args s none [] s = some (.ref b)) (h : (Jvm.Cond.eq (.field t C n d) u).value args s none s [] = some true) : Fld s s.heap a C n d (.ref b) := by
  obtain ⟨x, y, ex, ey, kx, ky⟩ := cmp_v (Or.inl h)
  have hy : y = .ref b := Option.some.inj (ey.symm.trans hu)
  subst hy
  have hx : x.isRef = true := (show (Value.ref b).isRef = true ∧ x.isRef = true from ky).2
  have q := gotT (eq_R ex hu hx rfl) h
  subst q
  exact Fld.start ((fld_at ht).symm.trans ex)
theorem staEq {args : Array Value} {s : State} {C n d : String} {k : Int32} (h : (Jvm.Cond.eq (.static C n d) (.int k)).value args s none s [] = some true) (hi : (Jvm.Cond.initializedFor C n d).before args s = true ∨ ((Jvm.Cond.initialized C).before args s = true ∧ (Jvm.Cond.laysStatic C n d).before args s = true)) : Sta s s.heap C n d (.int k) := by
  obtain ⟨x, y, ex, ey, kx, ky⟩ := cmp_v (Or.inl h)
  have hy : y = .int k := Option.some.inj (ey.symm.trans (Term.int_eval k))
  subst hy
  obtain ⟨z, rfl⟩ : ∃ z, x = .int z := ky
  have q := gotT (Cond.eq_ints ex (Term.int_eval k)) h
  subst q
  exact Sta.start ex hi
/-- the law's masks -/
theorem maskR (x n : Int32) (N : Int) (hn : n.toInt = N) (hp : 0 < N) : 0 ≤ ((x &&& 2147483647) % n).toInt ∧ ((x &&& 2147483647) % n).toInt < N := by
  have h1 := (c_and x 2147483647 (by decide)).1
  have h2 := (c_irem (x &&& 2147483647) n N hn).1 h1
  rw [h2]
  exact ⟨Int.emod_nonneg _ (by omega), Int.emod_lt_of_pos _ hp⟩
theorem i32_eq {x y : Int32} (h : x.toInt = y.toInt) : x = y := Int32.toInt_inj.mp h
theorem Sta.keep' {C nm d : String} {v : Value} {ws : List Addr} (F : Sta Z h C nm d v) (K : Keep h h' ws) (q : ∀ x ∈ ws, ∃ D, Exa Z h x D) : Sta Z h' C nm d v := by
  obtain ⟨cf, i, k, f, st, cell, h1, h2, h3, h4, h5, h6, h7⟩ := F
  refine ⟨cf, i, k, f, st, cell, h1, h2, h3, h4, K.2.1 st cell h5 fun r => ?_, h6, h7⟩
  obtain ⟨D, c2, _, e1, -, -, e4, -⟩ := q st r
  cases h5.symm.trans e1
  rw [h6] at e4
  cases e4
theorem leB {a b : Nat} (h : Nat.ble a b = true) : a ≤ b := Nat.le_of_ble_eq_true h
theorem addI {x y : Int32} (h1 : -2147483648 ≤ x.toInt + y.toInt) (h2 : x.toInt + y.toInt < 2147483648) : (x + y).toInt = x.toInt + y.toInt := by
  have q1 := c_iadd x y
  have q2 := rng32 (x + y)
  omega
theorem subI {x y : Int32} (h1 : -2147483648 ≤ x.toInt - y.toInt) (h2 : x.toInt - y.toInt < 2147483648) : (x - y).toInt = x.toInt - y.toInt := by
  have q1 := c_isub x y
  have q2 := rng32 (x - y)
  omega
def cI (x : Int32) : Int32 := x
theorem ltI {x y : Int32} : x < y ↔ x.toInt < y.toInt := Int32.lt_iff_toInt_lt
theorem eqI {x y : Int32} : x = y ↔ x.toInt = y.toInt := Int32.toInt_inj.symm
end OwnKit
section OwnArr
variable {p : Program} {l : Launch} {e : Env} {R : Room} {s : State} {m : MethodId} {args : Array Value} {below : List Frame} {meth : Method} {c : Code} {T T' : State} {Z : State} {own : String} {h h' : Heap} {n0 k n C S : Nat} {a0 : Array Value} {P : Option Value → Heap → Prop} {g g' : JFrame} {pc : Nat} {Ls : Array Slot} {st rest : List Value}
/-- an array of N values -/
def PArr (Z : State) (h : Heap) (a : Addr) (ty : FieldType) (N : Nat) (f : Nat → Value) : Prop := ∃ c : Cell, Arr Z h a c ty ∧ c.slots.size = N ∧ N < 2 ^ 31 ∧ ∀ i, i < N → c.slots[i]? = some (f i)
variable {a b : Addr} {ty : FieldType} {N sl : Nat} {f : Nat → Value} {v : Value} {ws : List Addr}
theorem PArr.lt (F : PArr Z h a ty N f) : a < h.size := by obtain ⟨c, A, -⟩ := F; exact A.lt
theorem PArr.ext (F : PArr Z h a ty N f) (E : Ext h h') : PArr Z h' a ty N f := by obtain ⟨c, A, r⟩ := F; exact ⟨c, A.ext E, r⟩
theorem PArr.other (F : PArr Z h b ty N f) (W : Wr h h' a sl v) (q : b ≠ a) : PArr Z h' b ty N f := by obtain ⟨c, A, r⟩ := F; exact ⟨c, A.other W q, r⟩
theorem PArr.keep (F : PArr Z h a ty N f) (K : Keep h h' ws) (q : a ∉ ws) : PArr Z h' a ty N f := by obtain ⟨c, A, r⟩ := F; exact ⟨c, ⟨K.2.1 a c A.1 q, A.2⟩, r⟩
theorem PArr.congr {f' : Nat → Value} (F : PArr Z h a ty N f) (q : ∀ i, i < N → f i = f' i) : PArr Z h a ty N f' := by obtain ⟨c, A, r1, r2, r3⟩ := F; exact ⟨c, A, r1, r2, fun i hi => by rw [← q i hi]; exact r3 i hi⟩
theorem PArr.small (F : PArr Z h a ty N f) : N < 2 ^ 31 := by obtain ⟨c, A, r1, r2, r3⟩ := F; exact r2
theorem PArr.set (F : PArr Z h a ty N f) (W : Wr h h' a sl v) : PArr Z h' a ty N (fun i => if i = sl then v else f i) := by
  obtain ⟨c, A, r1, r2, r3⟩ := F
  obtain ⟨cell, q1, q2, q3, q4⟩ := id W
  cases q1.symm.trans A.1
  refine ⟨_, A.same W, by rw [sz_set]; exact r1, r2, fun i hi => ?_⟩
  show (c.slots.setIfInBounds sl v)[i]? = some (if i = sl then v else f i)
  by_cases e : i = sl
  · subst e
    rw [if_pos rfl]
    simp [q3]
  · rw [if_neg e, Array.getElem?_setIfInBounds_ne (Ne.symm e)]
    exact r3 i hi
theorem idxN {j : Int32} {i : Nat} (hj : j.toInt = i) : j.toNatClampNeg = i ∧ ¬ j < 0 := by
  constructor
  · show j.toInt.toNat = i
    omega
  · rw [Int32.lt_iff_toInt_lt]
    show ¬ j.toInt < 0
    omega
theorem idxI {c : Cell} {j : Int32} {i : Nat} (hs : c.slots.size = N) (hj : j.toInt = i) (hi : i < N) : ¬ (j < 0 ∨ c.slots.size ≤ j.toNatClampNeg) := by
  rw [(idxN hj).1, hs]
  rintro (q | q)
  · exact (idxN hj).2 q
  · omega
theorem Std.iaload (X : Std p l e R s m args below meth c Z own n0 T h k n) (F : PArr Z h a .int N f) {j : Int32} {i : Nat} (hj : j.toInt = i) (hi : i < N) (hd : decode c.code pc = .ok (.iaload, 1)) (G : Goes p e below s n0 C S P T (mkF m (pc + 1) Ls (f i :: rest))) : Goes p e below s n0 C S P T (mkF m pc Ls (.int j :: .ref a :: rest)) := by
  obtain ⟨vm0, ⟨L, X, -⟩, eT, hx, hZ, -⟩ := X
  obtain ⟨cl, A, r1, r2, r3⟩ := F
  exact Goes.by (fun t q => X.iaload hx (g := mkF m pc Ls (.int j :: .ref a :: rest)) (by rw [eT]; exact A.1) (State.isArrayOf_alike hZ.alike A.2.1) A.2.2 (idxI r1 hj hi) (v := f i) (by rw [(idxN hj).1]; exact r3 i hi) rfl rfl hd t q) G
theorem Std.laload (X : Std p l e R s m args below meth c Z own n0 T h k n) (F : PArr Z h a .long N f) {j : Int32} {i : Nat} (hj : j.toInt = i) (hi : i < N) (hd : decode c.code pc = .ok (.laload, 1)) (G : Goes p e below s n0 C S P T (mkF m (pc + 1) Ls (f i :: rest))) : Goes p e below s n0 C S P T (mkF m pc Ls (.int j :: .ref a :: rest)) := by
  obtain ⟨vm0, ⟨L, X, -⟩, eT, hx, hZ, -⟩ := X
  obtain ⟨cl, A, r1, r2, r3⟩ := F
  exact Goes.by (fun t q => X.laload hx (g := mkF m pc Ls (.int j :: .ref a :: rest)) (by rw [eT]; exact A.1) (State.isArrayOf_alike hZ.alike A.2.1) A.2.2 (idxI r1 hj hi) (v := f i) (by rw [(idxN hj).1]; exact r3 i hi) rfl rfl hd t q) G
theorem Std.baloadB (X : Std p l e R s m args below meth c Z own n0 T h k n) (F : PArr Z h a .byte N f) {j : Int32} {i : Nat} (hj : j.toInt = i) (hi : i < N) (hd : decode c.code pc = .ok (.baload, 1)) (G : Goes p e below s n0 C S P T (mkF m (pc + 1) Ls (f i :: rest))) : Goes p e below s n0 C S P T (mkF m pc Ls (.int j :: .ref a :: rest)) := by
  obtain ⟨vm0, ⟨L, X, -⟩, eT, hx, hZ, -⟩ := X
  obtain ⟨cl, A, r1, r2, r3⟩ := F
  exact Goes.by (fun t q => X.baloadBytes hx (g := mkF m pc Ls (.int j :: .ref a :: rest)) (by rw [eT]; exact A.1) (State.isArrayOf_alike hZ.alike A.2.1) A.2.2 (idxI r1 hj hi) (v := f i) (by rw [(idxN hj).1]; exact r3 i hi) rfl rfl hd t q) G
theorem Std.baloadZ (X : Std p l e R s m args below meth c Z own n0 T h k n) (F : PArr Z h a .boolean N f) {j : Int32} {i : Nat} (hj : j.toInt = i) (hi : i < N) (hd : decode c.code pc = .ok (.baload, 1)) (G : Goes p e below s n0 C S P T (mkF m (pc + 1) Ls (f i :: rest))) : Goes p e below s n0 C S P T (mkF m pc Ls (.int j :: .ref a :: rest)) := by
  obtain ⟨vm0, ⟨L, X, -⟩, eT, hx, hZ, -⟩ := X
  obtain ⟨cl, A, r1, r2, r3⟩ := F
  exact Goes.by (fun t q => X.baloadBooleans hx (g := mkF m pc Ls (.int j :: .ref a :: rest)) (by rw [eT]; exact A.1) (State.isArrayOf_alike hZ.alike A.2.1) A.2.2 (idxI r1 hj hi) (v := f i) (by rw [(idxN hj).1]; exact r3 i hi) rfl rfl hd t q) G
theorem Std.alen (X : Std p l e R s m args below meth c Z own n0 T h k n) (F : PArr Z h a ty N f) {z : Int32} (hz : z.toInt = N) (hd : decode c.code pc = .ok (.arraylength, 1)) (G : Goes p e below s n0 C S P T (mkF m (pc + 1) Ls (.int z :: rest))) : Goes p e below s n0 C S P T (mkF m pc Ls (.ref a :: rest)) := by
  obtain ⟨vm0, ⟨L, X, -⟩, eT, hx, hZ, -⟩ := X
  obtain ⟨cl, A, r1, r2, r3⟩ := F
  have q : cl.slots.size.toInt32 = z := Int32.toInt_inj.mp (by rw [r1, hz]; exact len_toInt r2)
  refine Goes.by (fun t q => X.arraylength hx (g := mkF m pc Ls (.ref a :: rest)) (by rw [eT]; exact A.1) (State.isArrayOf_alike hZ.alike A.2.1) rfl rfl hd t q) ?_
  rw [q]
  exact G
theorem Std.iastore (X : Std p l e R s m args below meth c Z own n0 T h k n) (F : PArr Z h a .int N f) {j x : Int32} {i : Nat} (hj : j.toInt = i) (hi : i < N) (ha : n0 ≤ a) (hd : decode c.code pc = .ok (.iastore, 1))
    (G : ∀ T h', Std p l e R s m args below meth c Z own n0 T h' k n → Wr h h' a i (.int x) → Goes p e below s n0 C S P T (mkF m (pc + 1) Ls rest)) : Goes p e below s n0 C S P T (mkF m pc Ls (.int x :: .int j :: .ref a :: rest)) := by
  obtain ⟨vm0, ⟨L, X, M⟩, eT, hx, hZ, hown, hB, r⟩ := X
  obtain ⟨cl, A, r1, r2, r3⟩ := F
  obtain ⟨T1, h1, X1, e1, W1, st1⟩ := stI X hx hZ eT A (x := x) (idxI r1 hj hi) (g := mkF m pc Ls (.int x :: .int j :: .ref a :: rest)) rfl rfl hd
  refine Goes.by st1 (G T1 h1 ⟨vm0, ⟨_, X1, Fr.snoc X1 M ha⟩, e1, hx, hZ, hown, hB.mono (Nat.le_of_eq W1.size.symm), r⟩ ?_)
  rw [← (idxN hj).1]
  exact W1
theorem Std.bastoreB (X : Std p l e R s m args below meth c Z own n0 T h k n) (F : PArr Z h a .byte N f) {j x : Int32} {i : Nat} (hj : j.toInt = i) (hi : i < N) (ha : n0 ≤ a) (hd : decode c.code pc = .ok (.bastore, 1))
    (G : ∀ T h', Std p l e R s m args below meth c Z own n0 T h' k n → Wr h h' a i (.int (nar .byte x)) → Goes p e below s n0 C S P T (mkF m (pc + 1) Ls rest)) : Goes p e below s n0 C S P T (mkF m pc Ls (.int x :: .int j :: .ref a :: rest)) := by
  obtain ⟨vm0, ⟨L, X, M⟩, eT, hx, hZ, hown, hB, r⟩ := X
  obtain ⟨cl, A, r1, r2, r3⟩ := F
  obtain ⟨T1, h1, X1, e1, W1, st1⟩ := stB X hx hZ eT A (x := x) (idxI r1 hj hi) (g := mkF m pc Ls (.int x :: .int j :: .ref a :: rest)) rfl rfl hd
  refine Goes.by st1 (G T1 h1 ⟨vm0, ⟨_, X1, Fr.snoc X1 M ha⟩, e1, hx, hZ, hown, hB.mono (Nat.le_of_eq W1.size.symm), r⟩ ?_)
  rw [← (idxN hj).1]
  exact W1
theorem Std.bastoreZ (X : Std p l e R s m args below meth c Z own n0 T h k n) (F : PArr Z h a .boolean N f) {j x : Int32} {i : Nat} (hj : j.toInt = i) (hi : i < N) (ha : n0 ≤ a) (hd : decode c.code pc = .ok (.bastore, 1))
    (G : ∀ T h', Std p l e R s m args below meth c Z own n0 T h' k n → Wr h h' a i (.int (nar .boolean x)) → Goes p e below s n0 C S P T (mkF m (pc + 1) Ls rest)) : Goes p e below s n0 C S P T (mkF m pc Ls (.int x :: .int j :: .ref a :: rest)) := by
  obtain ⟨vm0, ⟨L, X, M⟩, eT, hx, hZ, hown, hB, r⟩ := X
  obtain ⟨cl, A, r1, r2, r3⟩ := F
  obtain ⟨T1, h1, X1, e1, W1, st1⟩ := stZ X hx hZ eT A (x := x) (idxI r1 hj hi) (g := mkF m pc Ls (.int x :: .int j :: .ref a :: rest)) rfl rfl hd
  refine Goes.by st1 (G T1 h1 ⟨vm0, ⟨_, X1, Fr.snoc X1 M ha⟩, e1, hx, hZ, hown, hB.mono (Nat.le_of_eq W1.size.symm), r⟩ ?_)
  rw [← (idxN hj).1]
  exact W1
theorem Std.newA (X : Std p l e R s m args below meth c Z own n0 T h k n) {aty : ArrayType} {ad : String} (had : "[" ++ (newarray.typeOf aty).toString = ad) (w : (Cond.arrayClass (newarray.typeOf aty)).before a0 Z = true) (hd : decode c.code pc = .ok (.newarray aty, 2)) {z : Int32} (hz : z.toInt = N) {cap : Nat} (hcap : N ≤ cap) (hb : cap * 8 ≤ 536870912) (hc : k + 1 ≤ R.cells) (hl : n + cap ≤ R.slots)
    (G : ∀ T h' a, Std p l e R s m args below meth c Z own n0 T h' (k + 1) (n + cap) → a = h.size → n0 ≤ a → Ext h h' → Exa Z h' a ad → PArr Z h' a (newarray.typeOf aty) N (fun _ => defaultValue (newarray.typeOf aty)) → Goes p e below s n0 C S P T (mkF m (pc + 2) Ls (.ref a :: rest))) : Goes p e below s n0 C S P T (mkF m pc Ls (.int z :: rest)) := by
  have q := X.n0le
  obtain ⟨vm0, ⟨L0, X, M⟩, eT, hx, hZ, hown, hB, r⟩ := X
  obtain ⟨T1, h1, cA, X1, e1, E1, A1, B1, st1⟩ := newPE X hx hZ w eT (g := mkF m pc Ls (.int z :: rest)) rfl hd rfl (idxN hz).2 (cap := cap) (by rw [(idxN hz).1]; exact hcap) hb hc hl had
  have hN : N < 2 ^ 31 := by have := Int32.toInt_lt z; omega
  refine Goes.by st1 (G T1 h1 h.size ⟨vm0, ⟨_, X1, M⟩, e1, hx, hZ, hown, hB.mono E1.1, r⟩ rfl q E1 B1 ⟨_, A1, by rw [sz_new]; exact (idxN hz).1, hN, fun i hi => ?_⟩)
  show (Array.replicate z.toNatClampNeg _)[i]? = _
  rw [(idxN hz).1]
  simp [hi]
end OwnArr
section OwnMore
variable {p : Program} {l : Launch} {e : Env} {R : Room} {s : State} {m : MethodId} {args : Array Value} {below : List Frame} {meth : Method} {c : Code} {T T' : State} {Z : State} {own : String} {h h' : Heap} {n0 k n C S : Nat} {a0 : Array Value} {P : Option Value → Heap → Prop} {g g' : JFrame} {pc : Nat} {Ls : Array Slot} {st rest : List Value} {a b : Addr} {ty : FieldType} {N sl : Nat} {f : Nat → Value} {v : Value} {ws : List Addr}
theorem Std.castY (X : Std p l e R s m args below meth c Z own n0 T h k n) {index : Nat} {K : String} (w : (Cond.classLink own index K).before a0 Z = true) (F : Ins Z h a K true) (hd : decode c.code pc = .ok (.checkcast index, 3))
    (G : ∀ T, Std p l e R s m args below meth c Z own n0 T h k n → Goes p e below s n0 C S P T (mkF m (pc + 3) Ls (.ref a :: rest))) : Goes p e below s n0 C S P T (mkF m pc Ls (.ref a :: rest)) := by
  obtain ⟨vm0, ⟨L, X, M⟩, eT, hx, hZ, hown, hB, r⟩ := X
  obtain ⟨T1, X1, e1, st1⟩ := Jvm.RoadKit.castY X hx hZ hown w eT F (g := mkF m pc Ls (.ref a :: rest)) rfl rfl hd
  exact Goes.by st1 (G T1 ⟨vm0, ⟨L, X1, M⟩, e1, hx, hZ, hown, hB, r⟩)
theorem Std.instY (X : Std p l e R s m args below meth c Z own n0 T h k n) {index : Nat} {K : String} (w : (Cond.classLink own index K).before a0 Z = true) (F : Ins Z h a K true) (hd : decode c.code pc = .ok (.instanceof index, 3))
    (G : ∀ T, Std p l e R s m args below meth c Z own n0 T h k n → Goes p e below s n0 C S P T (mkF m (pc + 3) Ls (.int 1 :: rest))) : Goes p e below s n0 C S P T (mkF m pc Ls (.ref a :: rest)) := by
  obtain ⟨vm0, ⟨L, X, M⟩, eT, hx, hZ, hown, hB, r⟩ := X
  obtain ⟨T1, X1, e1, st1⟩ := Jvm.RoadKit.instY X hx hZ hown w eT F (g := mkF m pc Ls (.ref a :: rest)) rfl rfl hd
  exact Goes.by st1 (G T1 ⟨vm0, ⟨L, X1, M⟩, e1, hx, hZ, hown, hB, r⟩)
theorem Std.more (X : Std p l e R s m args below meth c Z own n0 T h k n) {k' n' : Nat} (hk : k ≤ k') (hn : n ≤ n') : Std p l e R s m args below meth c Z own n0 T h k' n' := by
  obtain ⟨vm0, ⟨L, X, M⟩, r⟩ := X
  exact ⟨vm0, ⟨L, X.more hk hn, M⟩, r⟩
theorem Std.clone (X : Std p l e R s m args below meth c Z own n0 T h k n) {ad : String} {index : Nat} (w1 : (Cond.methodLink own index ⟨ad, "clone", "()Ljava/lang/Object;"⟩).before a0 Z = true) (w2 : (Cond.sameMethod ad "java/lang/Object" "clone" "()Ljava/lang/Object;").before a0 Z = true) (w3 : (Cond.native ⟨"java/lang/Object", "clone", "()Ljava/lang/Object;"⟩).before a0 Z = true)
    (w4 : (Cond.instanceMethod ⟨"java/lang/Object", "clone", "()Ljava/lang/Object;"⟩).before a0 Z = true) (w5 : (Cond.selects ad ⟨ad, "clone", "()Ljava/lang/Object;"⟩ ⟨"java/lang/Object", "clone", "()Ljava/lang/Object;"⟩).before a0 Z = true) (w6 : (Cond.castable ad "java/lang/Cloneable").before a0 Z = true)
    (F : PArr Z h a ty N f) (hfit : ∀ i, i < N → fits ty (f i) = true) (E : Exa Z h a ad) (hsz : Ls.size = c.maxLocals) (hd : decode c.code pc = .ok (.invokevirtual index, 3)) (hf : 1 ≤ R.frames) (hl : (rest.map fun v => v.category).sum + 14 ≤ R.locals) {cap : Nat} (hcap : N ≤ cap) (hc : k + 1 ≤ R.cells) (hs : n + cap ≤ R.slots)
    (G : ∀ T h' b, Std p l e R s m args below meth c Z own n0 T h' (k + 1) (n + cap) → b = h.size → n0 ≤ b → Ext h h' → Exa Z h' b ad → PArr Z h' b ty N f → Goes p e below s n0 C S P T (mkF m (pc + 3) Ls (.ref b :: rest))) : Goes p e below s n0 C S P T (mkF m pc Ls (.ref a :: rest)) := by
  have q := X.n0le
  obtain ⟨vm0, ⟨L, X, M⟩, eT, hx, hZ, hown, hB, r⟩ := X
  obtain ⟨cl, A, r1, r2, r3⟩ := F
  have FC : FitC Z cl := fitC_of A fun i hi v hv => by rw [r1] at hi; rw [r3 i hi] at hv; cases hv; exact hfit i hi
  obtain ⟨T1, h1, X1, e1, E1, A1, B1, st1⟩ := cloneA X hx hZ hown w1 w2 w3 w4 w5 w6 eT A E FC (g := mkF m pc Ls (.ref a :: rest)) rfl hsz rfl hd hf (W := (rest.map fun v => v.category).sum) (cap := cap) (by show 2 * 0 + _ ≤ _; omega) hl (by rw [r1]; exact hcap) hc hs
  exact Goes.by st1 (G T1 h1 h.size ⟨vm0, ⟨_, X1, M⟩, e1, hx, hZ, hown, hB.mono E1.1, r⟩ rfl q E1 B1 ⟨cloneOf cl, A1, r1, r2, r3⟩)
theorem Std.grid (X : Std p l e R s m args below meth c Z own n0 T h k n) {K ad : String} {index : Nat} (hC : (FieldType.array ty).toString = K) (had : "[" ++ K = ad) (w1 : (Cond.classLink own index ad).before a0 Z = true) (w2 : (Cond.arrayOver (.array ty)).before a0 Z = true) (w3 : (Cond.arrayClass ty).before a0 Z = true) (hd : decode c.code pc = .ok (.multianewarray index 2, 4)) {z y : Int32} {Y : Nat} (hz : z.toInt = N) (hy : y.toInt = Y) {capN cap : Nat} (hcN : N ≤ capN) (hcap : Y ≤ cap) (hb : cap * 8 ≤ 536870912) (hb1 : capN ≤ 1000) (hdf : fits ty (defaultValue ty) = true) (hdd : (defaultValue ty).isDefault = true) (hc : k + (1 + capN) ≤ R.cells) (hl : n + (capN + capN * cap) ≤ R.slots)
    (G : ∀ T h' b, Std p l e R s m args below meth c Z own n0 T h' (k + (1 + capN)) (n + (capN + capN * cap)) → b = h.size → n0 ≤ b → Ext h h' → Exa Z h' b ad → Goes p e below s n0 C S P T (mkF m (pc + 4) Ls (.ref b :: rest))) : Goes p e below s n0 C S P T (mkF m pc Ls (.int y :: .int z :: rest)) := by
  have q := X.n0le
  have m1 : N * cap ≤ capN * cap := Nat.mul_le_mul_right _ hcN
  obtain ⟨vm0, ⟨L, X, M⟩, eT, hx, hZ, hown, hB, r⟩ := X
  obtain ⟨T1, h1, cA, comp, X1, e1, E1, A1, O1, B1, I1, st1⟩ := gridM X hx hZ hown hC had w1 w2 w3 eT (g := mkF m pc Ls (.int y :: .int z :: rest)) rfl hd rfl (idxN hz).2 (idxN hy).2 (N := N) (idxN hz).1 rfl (cap := cap) (by rw [(idxN hy).1]; exact hcap) hb (by omega) hdf hdd (by omega) (by omega)
  exact Goes.by st1 (G T1 h1 h.size ⟨vm0, ⟨_, X1.more (by omega) (by omega), M⟩, e1, hx, hZ, hown, hB.mono E1.1, r⟩ rfl q E1 B1)
end OwnMore
theorem pf_7 : plainFor (⟨"java/util/AbstractCollection", "<init>", "()V"⟩ : MethodName) = true := by first | exact plainFor_of_name (by first | (simp [plainName, overriddenIn]; done) | decide +kernel) | decide +kernel
theorem d7_0 : decode jdk_22_method_1_code 0 = .ok (.aload_n 0, 1) := by decide +kernel
theorem d7_1 : decode jdk_22_method_1_code 1 = .ok (.invokespecial 1, 3) := by decide +kernel
theorem d7_4 : decode jdk_22_method_1_code 4 = .ok (.return_, 1) := by decide +kernel
theorem pf_6 : plainFor (⟨"java/util/AbstractSet", "<init>", "()V"⟩ : MethodName) = true := by first | exact plainFor_of_name (by first | (simp [plainName, overriddenIn]; done) | decide +kernel) | decide +kernel
theorem d6_0 : decode jdk_91_method_1_code 0 = .ok (.aload_n 0, 1) := by decide +kernel
theorem pd_193421996 : parseMethodDescriptor "()V" = some ⟨[], none⟩ := by decide +kernel
theorem d6_1 : decode jdk_91_method_1_code 1 = .ok (.invokespecial 1, 3) := by decide +kernel
theorem d6_4 : decode jdk_91_method_1_code 4 = .ok (.return_, 1) := by decide +kernel
theorem pf_10 : plainFor (⟨"java/util/AbstractMap", "<init>", "()V"⟩ : MethodName) = true := by first | exact plainFor_of_name (by first | (simp [plainName, overriddenIn]; done) | decide +kernel) | decide +kernel
theorem d10_0 : decode jdk_71_method_1_code 0 = .ok (.aload_n 0, 1) := by decide +kernel
theorem d10_1 : decode jdk_71_method_1_code 1 = .ok (.invokespecial 1, 3) := by decide +kernel
theorem d10_4 : decode jdk_71_method_1_code 4 = .ok (.return_, 1) := by decide +kernel
theorem pf_13 : plainFor (⟨"java/lang/Integer", "numberOfLeadingZeros", "(I)I"⟩ : MethodName) = true := by first | exact plainFor_of_name (by first | (simp [plainName, overriddenIn]; done) | decide +kernel) | decide +kernel
theorem d13_0 : decode jdk_33_method_47_code 0 = .ok (.iload_n 0, 1) := by decide +kernel
theorem d13_1 : decode jdk_33_method_47_code 1 = .ok (.ifCond .gt 14, 3) := by decide +kernel
theorem d13_15 : decode jdk_33_method_47_code 15 = .ok (.bipush 31, 2) := by decide +kernel
theorem d13_17 : decode jdk_33_method_47_code 17 = .ok (.istore_n 1, 1) := by decide +kernel
theorem d13_18 : decode jdk_33_method_47_code 18 = .ok (.iload_n 0, 1) := by decide +kernel
theorem d13_19 : decode jdk_33_method_47_code 19 = .ok (.ldc_w 264, 3) := by decide +kernel
theorem d13_22 : decode jdk_33_method_47_code 22 = .ok (.if_icmp .lt 11, 3) := by decide +kernel
theorem d13_33 : decode jdk_33_method_47_code 33 = .ok (.iload_n 0, 1) := by decide +kernel
theorem d13_34 : decode jdk_33_method_47_code 34 = .ok (.sipush 256, 3) := by decide +kernel
theorem d13_37 : decode jdk_33_method_47_code 37 = .ok (.if_icmp .lt 11, 3) := by decide +kernel
theorem d13_48 : decode jdk_33_method_47_code 48 = .ok (.iload_n 0, 1) := by decide +kernel
theorem d13_49 : decode jdk_33_method_47_code 49 = .ok (.bipush 16, 2) := by decide +kernel
theorem d13_51 : decode jdk_33_method_47_code 51 = .ok (.if_icmp .lt 10, 3) := by decide +kernel
theorem d13_61 : decode jdk_33_method_47_code 61 = .ok (.iload_n 0, 1) := by decide +kernel
theorem d13_62 : decode jdk_33_method_47_code 62 = .ok (.iconst 4, 1) := by decide +kernel
theorem d13_63 : decode jdk_33_method_47_code 63 = .ok (.if_icmp .lt 10, 3) := by decide +kernel
theorem d13_66 : decode jdk_33_method_47_code 66 = .ok (.iinc 1 (-2), 3) := by decide +kernel
theorem d13_69 : decode jdk_33_method_47_code 69 = .ok (.iload_n 0, 1) := by decide +kernel
theorem d13_70 : decode jdk_33_method_47_code 70 = .ok (.iconst 2, 1) := by decide +kernel
theorem d13_71 : decode jdk_33_method_47_code 71 = .ok (.iushr, 1) := by decide +kernel
theorem d13_72 : decode jdk_33_method_47_code 72 = .ok (.istore_n 0, 1) := by decide +kernel
theorem d13_73 : decode jdk_33_method_47_code 73 = .ok (.iload_n 1, 1) := by decide +kernel
theorem d13_74 : decode jdk_33_method_47_code 74 = .ok (.iload_n 0, 1) := by decide +kernel
theorem d13_75 : decode jdk_33_method_47_code 75 = .ok (.iconst 1, 1) := by decide +kernel
theorem d13_76 : decode jdk_33_method_47_code 76 = .ok (.iushr, 1) := by decide +kernel
theorem d13_77 : decode jdk_33_method_47_code 77 = .ok (.isub, 1) := by decide +kernel
theorem d13_78 : decode jdk_33_method_47_code 78 = .ok (.ireturn, 1) := by decide +kernel
theorem pf_12 : plainFor (⟨"java/util/HashMap", "tableSizeFor", "(I)I"⟩ : MethodName) = true := by first | exact plainFor_of_name (by first | (simp [plainName, overriddenIn]; done) | decide +kernel) | decide +kernel
theorem d12_0 : decode jdk_69_method_4_code 0 = .ok (.iconst (-1), 1) := by decide +kernel
theorem d12_1 : decode jdk_69_method_4_code 1 = .ok (.iload_n 0, 1) := by decide +kernel
theorem d12_2 : decode jdk_69_method_4_code 2 = .ok (.iconst 1, 1) := by decide +kernel
theorem d12_3 : decode jdk_69_method_4_code 3 = .ok (.isub, 1) := by decide +kernel
theorem pd_2087992008 : parseMethodDescriptor "(I)I" = some ⟨[.int], some .int⟩ := by decide +kernel
theorem d12_4 : decode jdk_69_method_4_code 4 = .ok (.invokestatic 34, 3) := by decide +kernel
theorem d12_7 : decode jdk_69_method_4_code 7 = .ok (.iushr, 1) := by decide +kernel
theorem d12_8 : decode jdk_69_method_4_code 8 = .ok (.istore_n 1, 1) := by decide +kernel
theorem d12_9 : decode jdk_69_method_4_code 9 = .ok (.iload_n 1, 1) := by decide +kernel
theorem d12_10 : decode jdk_69_method_4_code 10 = .ok (.ifCond .ge 7, 3) := by decide +kernel
theorem d12_17 : decode jdk_69_method_4_code 17 = .ok (.iload_n 1, 1) := by decide +kernel
theorem d12_18 : decode jdk_69_method_4_code 18 = .ok (.ldc 42, 2) := by decide +kernel
theorem d12_20 : decode jdk_69_method_4_code 20 = .ok (.if_icmp .lt 8, 3) := by decide +kernel
theorem d12_28 : decode jdk_69_method_4_code 28 = .ok (.iload_n 1, 1) := by decide +kernel
theorem d12_29 : decode jdk_69_method_4_code 29 = .ok (.iconst 1, 1) := by decide +kernel
theorem d12_30 : decode jdk_69_method_4_code 30 = .ok (.iadd, 1) := by decide +kernel
theorem d12_31 : decode jdk_69_method_4_code 31 = .ok (.ireturn, 1) := by decide +kernel
theorem pf_11 : plainFor (⟨"java/lang/Float", "isNaN", "(F)Z"⟩ : MethodName) = true := by first | exact plainFor_of_name (by first | (simp [plainName, overriddenIn]; done) | decide +kernel) | decide +kernel
theorem d11_0 : decode jdk_118_method_6_code 0 = .ok (.fload_n 0, 1) := by decide +kernel
theorem d11_1 : decode jdk_118_method_6_code 1 = .ok (.fload_n 0, 1) := by decide +kernel
theorem d11_2 : decode jdk_118_method_6_code 2 = .ok (.fcmp .l, 1) := by decide +kernel
theorem d11_3 : decode jdk_118_method_6_code 3 = .ok (.ifCond .eq 7, 3) := by decide +kernel
theorem d11_10 : decode jdk_118_method_6_code 10 = .ok (.iconst 0, 1) := by decide +kernel
theorem d11_11 : decode jdk_118_method_6_code 11 = .ok (.ireturn, 1) := by decide +kernel
theorem pf_9 : plainFor (⟨"java/util/HashMap", "<init>", "(IF)V"⟩ : MethodName) = true := by first | exact plainFor_of_name (by first | (simp [plainName, overriddenIn]; done) | decide +kernel) | decide +kernel
theorem d9_0 : decode jdk_69_method_5_code 0 = .ok (.aload_n 0, 1) := by decide +kernel
theorem d9_1 : decode jdk_69_method_5_code 1 = .ok (.invokespecial 43, 3) := by decide +kernel
theorem d9_4 : decode jdk_69_method_5_code 4 = .ok (.iload_n 1, 1) := by decide +kernel
theorem d9_5 : decode jdk_69_method_5_code 5 = .ok (.ifCond .ge 30, 3) := by decide +kernel
theorem d9_35 : decode jdk_69_method_5_code 35 = .ok (.iload_n 1, 1) := by decide +kernel
theorem d9_36 : decode jdk_69_method_5_code 36 = .ok (.ldc 42, 2) := by decide +kernel
theorem d9_38 : decode jdk_69_method_5_code 38 = .ok (.if_icmp .le 6, 3) := by decide +kernel
theorem d9_44 : decode jdk_69_method_5_code 44 = .ok (.fload_n 2, 1) := by decide +kernel
theorem d9_45 : decode jdk_69_method_5_code 45 = .ok (.fconst 0, 1) := by decide +kernel
theorem d9_46 : decode jdk_69_method_5_code 46 = .ok (.fcmp .g, 1) := by decide +kernel
theorem d9_47 : decode jdk_69_method_5_code 47 = .ok (.ifCond .le 10, 3) := by decide +kernel
theorem d9_50 : decode jdk_69_method_5_code 50 = .ok (.fload_n 2, 1) := by decide +kernel
theorem pd_2087988758 : parseMethodDescriptor "(F)Z" = some ⟨[.float], some .boolean⟩ := by decide +kernel
theorem d9_51 : decode jdk_69_method_5_code 51 = .ok (.invokestatic 70, 3) := by decide +kernel
theorem d9_54 : decode jdk_69_method_5_code 54 = .ok (.ifCond .eq 30, 3) := by decide +kernel
theorem d9_84 : decode jdk_69_method_5_code 84 = .ok (.aload_n 0, 1) := by decide +kernel
theorem d9_85 : decode jdk_69_method_5_code 85 = .ok (.fload_n 2, 1) := by decide +kernel
theorem d9_86 : decode jdk_69_method_5_code 86 = .ok (.putfield 81, 3) := by decide +kernel
theorem d9_89 : decode jdk_69_method_5_code 89 = .ok (.aload_n 0, 1) := by decide +kernel
theorem d9_90 : decode jdk_69_method_5_code 90 = .ok (.iload_n 1, 1) := by decide +kernel
theorem d9_91 : decode jdk_69_method_5_code 91 = .ok (.invokestatic 85, 3) := by decide +kernel
theorem d9_94 : decode jdk_69_method_5_code 94 = .ok (.putfield 88, 3) := by decide +kernel
theorem d9_97 : decode jdk_69_method_5_code 97 = .ok (.return_, 1) := by decide +kernel
theorem pf_8 : plainFor (⟨"java/util/LinkedHashMap", "<init>", "(IF)V"⟩ : MethodName) = true := by first | exact plainFor_of_name (by first | (simp [plainName, overriddenIn]; done) | decide +kernel) | decide +kernel
theorem d8_0 : decode jdk_94_method_14_code 0 = .ok (.aload_n 0, 1) := by decide +kernel
theorem d8_1 : decode jdk_94_method_14_code 1 = .ok (.iload_n 1, 1) := by decide +kernel
theorem d8_2 : decode jdk_94_method_14_code 2 = .ok (.fload_n 2, 1) := by decide +kernel
theorem pd_184290139 : parseMethodDescriptor "(IF)V" = some ⟨[.int, .float], none⟩ := by decide +kernel
theorem d8_3 : decode jdk_94_method_14_code 3 = .ok (.invokespecial 81, 3) := by decide +kernel
theorem d8_6 : decode jdk_94_method_14_code 6 = .ok (.aload_n 0, 1) := by decide +kernel
theorem d8_7 : decode jdk_94_method_14_code 7 = .ok (.iconst 0, 1) := by decide +kernel
theorem d8_8 : decode jdk_94_method_14_code 8 = .ok (.putfield 1, 3) := by decide +kernel
theorem d8_11 : decode jdk_94_method_14_code 11 = .ok (.aload_n 0, 1) := by decide +kernel
theorem d8_12 : decode jdk_94_method_14_code 12 = .ok (.iconst 0, 1) := by decide +kernel
theorem d8_13 : decode jdk_94_method_14_code 13 = .ok (.putfield 64, 3) := by decide +kernel
theorem d8_16 : decode jdk_94_method_14_code 16 = .ok (.return_, 1) := by decide +kernel
theorem pf_5 : plainFor (⟨"java/util/HashSet", "<init>", "(IFZ)V"⟩ : MethodName) = true := by first | exact plainFor_of_name (by first | (simp [plainName, overriddenIn]; done) | decide +kernel) | decide +kernel
theorem d5_0 : decode jdk_93_method_5_code 0 = .ok (.aload_n 0, 1) := by decide +kernel
theorem d5_1 : decode jdk_93_method_5_code 1 = .ok (.invokespecial 1, 3) := by decide +kernel
theorem d5_4 : decode jdk_93_method_5_code 4 = .ok (.aload_n 0, 1) := by decide +kernel
theorem d5_5 : decode jdk_93_method_5_code 5 = .ok (.new 42, 3) := by decide +kernel
theorem d5_8 : decode jdk_93_method_5_code 8 = .ok (.dup, 1) := by decide +kernel
theorem d5_9 : decode jdk_93_method_5_code 9 = .ok (.iload_n 1, 1) := by decide +kernel
theorem d5_10 : decode jdk_93_method_5_code 10 = .ok (.fload_n 2, 1) := by decide +kernel
theorem d5_11 : decode jdk_93_method_5_code 11 = .ok (.invokespecial 44, 3) := by decide +kernel
theorem d5_14 : decode jdk_93_method_5_code 14 = .ok (.putfield 10, 3) := by decide +kernel
theorem d5_17 : decode jdk_93_method_5_code 17 = .ok (.return_, 1) := by decide +kernel
theorem pf_4 : plainFor (⟨"java/util/LinkedHashSet", "<init>", "()V"⟩ : MethodName) = true := by first | exact plainFor_of_name (by first | (simp [plainName, overriddenIn]; done) | decide +kernel) | decide +kernel
theorem d4_0 : decode jdk_2620_method_3_code 0 = .ok (.aload_n 0, 1) := by decide +kernel
theorem d4_1 : decode jdk_2620_method_3_code 1 = .ok (.bipush 16, 2) := by decide +kernel
theorem d4_3 : decode jdk_2620_method_3_code 3 = .ok (.ldc 7, 2) := by decide +kernel
theorem d4_5 : decode jdk_2620_method_3_code 5 = .ok (.iconst 1, 1) := by decide +kernel
theorem pd_1786659253 : parseMethodDescriptor "(IFZ)V" = some ⟨[.int, .float, .boolean], none⟩ := by decide +kernel
theorem d4_6 : decode jdk_2620_method_3_code 6 = .ok (.invokespecial 1, 3) := by decide +kernel
theorem d4_9 : decode jdk_2620_method_3_code 9 = .ok (.return_, 1) := by decide +kernel
theorem pf_3 : plainFor (⟨"com/example/hafiza/hafiza/Mutations", "<init>", "()V"⟩ : MethodName) = true := by first | exact plainFor_of_name (by first | (simp [plainName, overriddenIn]; done) | decide +kernel) | decide +kernel
theorem d3_0 : decode prog_16_method_1_code 0 = .ok (.aload_n 0, 1) := by decide +kernel
theorem d3_1 : decode prog_16_method_1_code 1 = .ok (.invokespecial 1, 3) := by decide +kernel
theorem d3_4 : decode prog_16_method_1_code 4 = .ok (.aload_n 0, 1) := by decide +kernel
theorem d3_5 : decode prog_16_method_1_code 5 = .ok (.new 7, 3) := by decide +kernel
theorem d3_8 : decode prog_16_method_1_code 8 = .ok (.dup, 1) := by decide +kernel
theorem d3_9 : decode prog_16_method_1_code 9 = .ok (.invokespecial 9, 3) := by decide +kernel
theorem d3_12 : decode prog_16_method_1_code 12 = .ok (.putfield 10, 3) := by decide +kernel
theorem d3_15 : decode prog_16_method_1_code 15 = .ok (.aload_n 0, 1) := by decide +kernel
theorem d3_16 : decode prog_16_method_1_code 16 = .ok (.new 7, 3) := by decide +kernel
theorem d3_19 : decode prog_16_method_1_code 19 = .ok (.dup, 1) := by decide +kernel
theorem d3_20 : decode prog_16_method_1_code 20 = .ok (.invokespecial 9, 3) := by decide +kernel
theorem d3_23 : decode prog_16_method_1_code 23 = .ok (.putfield 16, 3) := by decide +kernel
theorem d3_26 : decode prog_16_method_1_code 26 = .ok (.aload_n 0, 1) := by decide +kernel
theorem d3_27 : decode prog_16_method_1_code 27 = .ok (.new 7, 3) := by decide +kernel
theorem d3_30 : decode prog_16_method_1_code 30 = .ok (.dup, 1) := by decide +kernel
theorem d3_31 : decode prog_16_method_1_code 31 = .ok (.invokespecial 9, 3) := by decide +kernel
theorem d3_34 : decode prog_16_method_1_code 34 = .ok (.putfield 19, 3) := by decide +kernel
theorem d3_37 : decode prog_16_method_1_code 37 = .ok (.return_, 1) := by decide +kernel
theorem pf_1 : plainFor (⟨"com/example/hafiza/hafiza/StoreConfig", "<init>", "()V"⟩ : MethodName) = true := by first | exact plainFor_of_name (by first | (simp [plainName, overriddenIn]; done) | decide +kernel) | decide +kernel
theorem d1_0 : decode prog_24_method_1_code 0 = .ok (.aload_n 0, 1) := by decide +kernel
theorem d1_1 : decode prog_24_method_1_code 1 = .ok (.invokespecial 1, 3) := by decide +kernel
theorem d1_4 : decode prog_24_method_1_code 4 = .ok (.aload_n 0, 1) := by decide +kernel
theorem d1_5 : decode prog_24_method_1_code 5 = .ok (.new 7, 3) := by decide +kernel
theorem d1_8 : decode prog_24_method_1_code 8 = .ok (.dup, 1) := by decide +kernel
theorem d1_9 : decode prog_24_method_1_code 9 = .ok (.invokespecial 9, 3) := by decide +kernel
theorem d1_12 : decode prog_24_method_1_code 12 = .ok (.putfield 10, 3) := by decide +kernel
theorem d1_15 : decode prog_24_method_1_code 15 = .ok (.aload_n 0, 1) := by decide +kernel
theorem d1_16 : decode prog_24_method_1_code 16 = .ok (.getstatic 16, 3) := by decide +kernel
theorem d1_19 : decode prog_24_method_1_code 19 = .ok (.putfield 22, 3) := by decide +kernel
theorem d1_22 : decode prog_24_method_1_code 22 = .ok (.return_, 1) := by decide +kernel
theorem pf_16 : plainFor (⟨"java/util/Objects", "requireNonNull", "(Ljava/lang/Object;Ljava/lang/String;)Ljava/lang/Object;"⟩ : MethodName) = true := by first | exact plainFor_of_name (by first | (simp [plainName, overriddenIn]; done) | decide +kernel) | decide +kernel
theorem d16_0 : decode jdk_31_method_11_code 0 = .ok (.aload_n 0, 1) := by decide +kernel
theorem d16_1 : decode jdk_31_method_11_code 1 = .ok (.ifnonnull 12, 3) := by decide +kernel
theorem d16_13 : decode jdk_31_method_11_code 13 = .ok (.aload_n 0, 1) := by decide +kernel
theorem d16_14 : decode jdk_31_method_11_code 14 = .ok (.areturn, 1) := by decide +kernel
theorem pf_14 : plainFor (⟨"com/example/hafiza/hafiza/StoreConfig", "getMutations", "()Lcom/example/hafiza/hafiza/Mutations;"⟩ : MethodName) = true := by first | exact plainFor_of_name (by first | (simp [plainName, overriddenIn]; done) | decide +kernel) | decide +kernel
theorem d14_0 : decode prog_24_method_7_code 0 = .ok (.aload_n 0, 1) := by decide +kernel
theorem d14_1 : decode prog_24_method_7_code 1 = .ok (.getfield 10, 3) := by decide +kernel
theorem d14_4 : decode prog_24_method_7_code 4 = .ok (.areturn, 1) := by decide +kernel
theorem pf_18 : plainFor (⟨"com/example/hafiza/hafiza/StoreConfig", "getDurability", "()Lcom/example/hafiza/hafiza/Durability;"⟩ : MethodName) = true := by first | exact plainFor_of_name (by first | (simp [plainName, overriddenIn]; done) | decide +kernel) | decide +kernel
theorem d18_0 : decode prog_24_method_9_code 0 = .ok (.aload_n 0, 1) := by decide +kernel
theorem d18_1 : decode prog_24_method_9_code 1 = .ok (.getfield 22, 3) := by decide +kernel
theorem d18_4 : decode prog_24_method_9_code 4 = .ok (.areturn, 1) := by decide +kernel
theorem pf_15 : plainFor (⟨"com/example/hafiza/hafiza/StoreConfig", "setMutations", "(Lcom/example/hafiza/hafiza/Mutations;)V"⟩ : MethodName) = true := by first | exact plainFor_of_name (by first | (simp [plainName, overriddenIn]; done) | decide +kernel) | decide +kernel
theorem d15_0 : decode prog_24_method_6_code 0 = .ok (.aload_n 0, 1) := by decide +kernel
theorem d15_1 : decode prog_24_method_6_code 1 = .ok (.aload_n 1, 1) := by decide +kernel
theorem d15_2 : decode prog_24_method_6_code 2 = .ok (.ldc 32, 2) := by decide +kernel
theorem pd_3946442454 : parseMethodDescriptor "(Ljava/lang/Object;Ljava/lang/String;)Ljava/lang/Object;" = some ⟨[(.object "java/lang/Object"), (.object "java/lang/String")], some (.object "java/lang/Object")⟩ := by decide +kernel
theorem d15_4 : decode prog_24_method_6_code 4 = .ok (.invokestatic 33, 3) := by decide +kernel
theorem d15_7 : decode prog_24_method_6_code 7 = .ok (.checkcast 7, 3) := by decide +kernel
theorem d15_10 : decode prog_24_method_6_code 10 = .ok (.putfield 10, 3) := by decide +kernel
theorem d15_13 : decode prog_24_method_6_code 13 = .ok (.return_, 1) := by decide +kernel
theorem pf_20 : plainFor (⟨"com/example/hafiza/hafiza/StoreConfig", "setDurability", "(Lcom/example/hafiza/hafiza/Durability;)V"⟩ : MethodName) = true := by first | exact plainFor_of_name (by first | (simp [plainName, overriddenIn]; done) | decide +kernel) | decide +kernel
theorem d20_0 : decode prog_24_method_8_code 0 = .ok (.aload_n 0, 1) := by decide +kernel
theorem d20_1 : decode prog_24_method_8_code 1 = .ok (.aload_n 1, 1) := by decide +kernel
theorem d20_2 : decode prog_24_method_8_code 2 = .ok (.ldc 39, 2) := by decide +kernel
theorem d20_4 : decode prog_24_method_8_code 4 = .ok (.invokestatic 33, 3) := by decide +kernel
theorem d20_7 : decode prog_24_method_8_code 7 = .ok (.checkcast 17, 3) := by decide +kernel
theorem d20_10 : decode prog_24_method_8_code 10 = .ok (.putfield 22, 3) := by decide +kernel
theorem d20_13 : decode prog_24_method_8_code 13 = .ok (.return_, 1) := by decide +kernel
theorem pf_17 : plainFor (⟨"com/example/hafiza/hafiza/StoreConfig", "getAllowCreate", "()Z"⟩ : MethodName) = true := by first | exact plainFor_of_name (by first | (simp [plainName, overriddenIn]; done) | decide +kernel) | decide +kernel
theorem d17_0 : decode prog_24_method_3_code 0 = .ok (.aload_n 0, 1) := by decide +kernel
theorem d17_1 : decode prog_24_method_3_code 1 = .ok (.getfield 25, 3) := by decide +kernel
theorem d17_4 : decode prog_24_method_3_code 4 = .ok (.ireturn, 1) := by decide +kernel
theorem pf_19 : plainFor (⟨"com/example/hafiza/hafiza/StoreConfig", "setAllowCreate", "(Z)V"⟩ : MethodName) = true := by first | exact plainFor_of_name (by first | (simp [plainName, overriddenIn]; done) | decide +kernel) | decide +kernel
theorem d19_0 : decode prog_24_method_2_code 0 = .ok (.aload_n 0, 1) := by decide +kernel
theorem d19_1 : decode prog_24_method_2_code 1 = .ok (.iload_n 1, 1) := by decide +kernel
theorem d19_2 : decode prog_24_method_2_code 2 = .ok (.putfield 25, 3) := by decide +kernel
theorem d19_5 : decode prog_24_method_2_code 5 = .ok (.return_, 1) := by decide +kernel
theorem pf_0 : plainFor (⟨"com/example/hafiza/hafiza/StoreConfigSetMutationsPinLaw", "law", "(I)Z"⟩ : MethodName) = true := by first | exact plainFor_of_name (by first | (simp [plainName, overriddenIn]; done) | decide +kernel) | decide +kernel
theorem pd_2544813166 : parseMethodDescriptor "()Lcom/example/hafiza/hafiza/Mutations;" = some ⟨[], some (.object "com/example/hafiza/hafiza/Mutations")⟩ := by decide +kernel
theorem pd_2932898788 : parseMethodDescriptor "(Lcom/example/hafiza/hafiza/Mutations;)V" = some ⟨[(.object "com/example/hafiza/hafiza/Mutations")], none⟩ := by decide +kernel
theorem pd_193422000 : parseMethodDescriptor "()Z" = some ⟨[], some .boolean⟩ := by decide +kernel
theorem pd_2323304547 : parseMethodDescriptor "()Lcom/example/hafiza/hafiza/Durability;" = some ⟨[], some (.object "com/example/hafiza/hafiza/Durability")⟩ := by decide +kernel
theorem pd_2427134969 : parseMethodDescriptor "(Lcom/example/hafiza/hafiza/Durability;)V" = some ⟨[(.object "com/example/hafiza/hafiza/Durability")], none⟩ := by decide +kernel
theorem pd_2088010534 : parseMethodDescriptor "(Z)V" = some ⟨[.boolean], none⟩ := by decide +kernel
section OwnWide
variable {p : Program} {l : Launch} {e : Env} {R : Room} {s : State} {m : MethodId} {args : Array Value} {below : List Frame} {meth : Method} {c : Code} {T T' : State} {Z : State} {own : String} {h h' : Heap} {n0 k n C S : Nat} {a0 : Array Value} {P : Option Value → Heap → Prop} {g g' : JFrame} {pc : Nat} {Ls : Array Slot} {st rest : List Value}
theorem Std.ldcS (X : Std p l e R s m args below meth c Z own n0 T h k n) {index n' : Nat} {text : String} (w : (Cond.stringLink own index text).before a0 Z = true) (wS : ∀ a ∈ Bundle.stringAtoms, a.before a0 Z = true) (hd : decode c.code pc = .ok (.ldc index, 2)) (hn : 4 * text.toList.length ≤ n') (hbig : n' ≤ 536870912) (hc : k + 2 ≤ R.cells) (hl : n + (n' + 4) ≤ R.slots)
    (G : ∀ T h' a, Std p l e R s m args below meth c Z own n0 T h' (k + 2) (n + (n' + 4)) → Ext h h' → Goes p e below s n0 C S P T (mkF m (pc + 2) Ls (.ref a :: st))) : Goes p e below s n0 C S P T (mkF m pc Ls st) := by
  obtain ⟨vm0, ⟨L, X, N⟩, eT, hx, hZ, hown, ⟨k0, hS, hk⟩, r⟩ := X
  obtain ⟨a, T1, h1, k1, X1, e1, E1, hS1, hk1, hZ1, hown1, st1⟩ := Jvm.RoadKit.ldcS X hx hZ hown w wS eT hS hk (g := mkF m pc Ls st) rfl hd hn hbig hc hl
  exact Goes.by st1 (G T1 h1 a ⟨T1.vm, ⟨L, X1, N⟩, e1, hx, hZ1, hown1, ⟨k1, hS1, hk1⟩, r⟩ E1)
end OwnWide
section OwnFloat
variable {p : Program} {l : Launch} {e : Env} {R : Room} {s : State} {m : MethodId} {args : Array Value} {below : List Frame} {meth : Method} {c : Code} {T T' : State} {Z : State} {own : String} {h h' : Heap} {n0 k n C S : Nat} {a0 : Array Value} {P : Option Value → Heap → Prop} {pc : Nat} {Ls : Array Slot} {st rest : List Value}
theorem Std.ldcF (X : Std p l e R s m args below meth c Z own n0 T h k n) {index : Nat} {b : UInt32} (w : (Cond.constantFloat own index b).before a0 Z = true) (hd : decode c.code pc = .ok (.ldc index, 2)) (G : Goes p e below s n0 C S P T (mkF m (pc + 2) Ls (.float b :: st))) : Goes p e below s n0 C S P T (mkF m pc Ls st) := by
  obtain ⟨vm0, ⟨L, X, N⟩, -, hx, hZ, hown, -⟩ := X
  exact Goes.by (fun t q => X.ldcFloatC hx (g := mkF m pc Ls st) hown (mvT (s := s.setVm vm0) hZ w) rfl hd t q) G
end OwnFloat

theorem strAtoms : ∀ d ∈ Bundle.stringAtoms, d ∈ tables_1 := by decide +kernel
set_option maxRecDepth 65536 in
set_option maxHeartbeats 40000000 in
theorem rmAC (l : Launch) (Z : State) (a0 : Array Value) (hw : ∀ d ∈ tables_1, d.before a0 Z = true) (n0 : Nat) (h0 : Heap) (hn0 : n0 ≤ h0.size) (a : Addr) :
    Met l Z n0 (⟨"java/util/AbstractCollection", "<init>", "()V"⟩ : MethodName) jdk_22_method_1_code 1 (Option.none : Option FieldType) ({ frames := 1, cells := 0, slots := 0, locals := 12 } : Room) #[(.ref a)] h0 (fun (v : Option Value) (h' : Heap) => v = none ∧ h' = h0) := by
  refine metW (Q := fun (v : Option Value) (h' : Heap) => v = none ∧ h' = h0) pf_7 hn0 ?_
  intro p e s m below meth c T X hby hml hret hnm
  refine Goes.by (g' := (mkF m 0 #[.val (.ref a)] [])) (fun _ q => castTop (by first | rfl | (simp [entryFrame, mkF, argsToLocals, Value.category]; done)) q) ?_
  refine Goes.by (g' := (mkF m 1 #[.val (.ref a)] [(.ref a)])) (fun _ q => XS.aloadN X.here X.hx rfl (hb hby d7_0) rfl rfl q) ?_
  refine X.initO (hw _ (List.mem_of_getElem? (i := 41) rfl)) (hw _ (List.mem_of_getElem? (i := 7) rfl)) (hw _ (List.mem_of_getElem? (i := 8) rfl)) (by rw [hml]; rfl) (hb hby d7_1) (by decide) (leB rfl) (fun T X => ?_)
  show Goes _ _ _ _ _ _ _ _ T (mkF m 4 #[.val (.ref a)] [])
  exact X.retV hret (hb hby d7_4) (by decide) (by decide) ⟨rfl, rfl⟩
set_option maxRecDepth 65536 in
set_option maxHeartbeats 40000000 in
theorem rmAS (l : Launch) (Z : State) (a0 : Array Value) (hw : ∀ d ∈ tables_1, d.before a0 Z = true) (n0 : Nat) (h0 : Heap) (hn0 : n0 ≤ h0.size) (a : Addr) :
    Met l Z n0 (⟨"java/util/AbstractSet", "<init>", "()V"⟩ : MethodName) jdk_91_method_1_code 1 (Option.none : Option FieldType) ({ frames := 2, cells := 0, slots := 0, locals := 24 } : Room) #[(.ref a)] h0 (fun (v : Option Value) (h' : Heap) => v = none ∧ h' = h0) := by
  refine metW (Q := fun (v : Option Value) (h' : Heap) => v = none ∧ h' = h0) pf_6 hn0 ?_
  intro p e s m below meth c T X hby hml hret hnm
  refine Goes.by (g' := (mkF m 0 #[.val (.ref a)] [])) (fun _ q => castTop (by first | rfl | (simp [entryFrame, mkF, argsToLocals, Value.category]; done)) q) ?_
  refine Goes.by (g' := (mkF m 1 #[.val (.ref a)] [(.ref a)])) (fun _ q => XS.aloadN X.here X.hx rfl (hb hby d6_0) rfl rfl q) ?_
  have X_o := X
  refine X.callN rfl (hw _ (List.mem_of_getElem? (i := 35) rfl)) (hw _ (List.mem_of_getElem? (i := 36) rfl)) (hw _ (List.mem_of_getElem? (i := 39) rfl)) (hw _ (List.mem_of_getElem? (i := 40) rfl)) (by decide) pd_193421996 (argsL := []) rfl (rmAC l Z a0 hw n0 h0 X.n0le a) (by rw [hml]; rfl) rfl (by decide) (leB rfl) (hb hby d6_1) (by decide) (by decide) (fun T h1 v X hQ => ?_)
  obtain ⟨rfl, hh⟩ := hQ
  rw [hh] at X
  clear hh
  show Goes _ _ _ _ _ _ _ _ T (mkF m 4 #[.val (.ref a)] [])
  exact X.retV hret (hb hby d6_4) (by decide) (by decide) ⟨rfl, rfl⟩
set_option maxRecDepth 65536 in
set_option maxHeartbeats 40000000 in
theorem rmAM (l : Launch) (Z : State) (a0 : Array Value) (hw : ∀ d ∈ tables_1, d.before a0 Z = true) (n0 : Nat) (h0 : Heap) (hn0 : n0 ≤ h0.size) (a : Addr) :
    Met l Z n0 (⟨"java/util/AbstractMap", "<init>", "()V"⟩ : MethodName) jdk_71_method_1_code 1 (Option.none : Option FieldType) ({ frames := 1, cells := 0, slots := 0, locals := 12 } : Room) #[(.ref a)] h0 (fun (v : Option Value) (h' : Heap) => v = none ∧ h' = h0) := by
  refine metW (Q := fun (v : Option Value) (h' : Heap) => v = none ∧ h' = h0) pf_10 hn0 ?_
  intro p e s m below meth c T X hby hml hret hnm
  refine Goes.by (g' := (mkF m 0 #[.val (.ref a)] [])) (fun _ q => castTop (by first | rfl | (simp [entryFrame, mkF, argsToLocals, Value.category]; done)) q) ?_
  refine Goes.by (g' := (mkF m 1 #[.val (.ref a)] [(.ref a)])) (fun _ q => XS.aloadN X.here X.hx rfl (hb hby d10_0) rfl rfl q) ?_
  refine X.initO (hw _ (List.mem_of_getElem? (i := 61) rfl)) (hw _ (List.mem_of_getElem? (i := 7) rfl)) (hw _ (List.mem_of_getElem? (i := 8) rfl)) (by rw [hml]; rfl) (hb hby d10_1) (by decide) (leB rfl) (fun T X => ?_)
  show Goes _ _ _ _ _ _ _ _ T (mkF m 4 #[.val (.ref a)] [])
  exact X.retV hret (hb hby d10_4) (by decide) (by decide) ⟨rfl, rfl⟩
set_option maxRecDepth 65536 in
set_option maxHeartbeats 40000000 in
theorem rmNlz (l : Launch) (Z : State) (a0 : Array Value) (hw : ∀ d ∈ tables_1, d.before a0 Z = true) (n0 : Nat) (h0 : Heap) (hn0 : n0 ≤ h0.size)  :
    Met l Z n0 (⟨"java/lang/Integer", "numberOfLeadingZeros", "(I)I"⟩ : MethodName) jdk_33_method_47_code 2 (Option.some .int) ({ frames := 0, cells := 0, slots := 0, locals := 0 } : Room) #[(.int (15 : Int32))] h0 (fun (v : Option Value) (h' : Heap) => v = some (.int 28) ∧ h' = h0) := by
  refine metW (Q := fun (v : Option Value) (h' : Heap) => v = some (.int 28) ∧ h' = h0) pf_13 hn0 ?_
  intro p e s m below meth c T X hby hml hret hnm
  refine Goes.by (g' := (mkF m 0 #[.val (.int (15 : Int32)), .unset] [])) (fun _ q => castTop (by first | rfl | (simp [entryFrame, mkF, argsToLocals, Value.category]; done)) q) ?_
  refine Goes.by (g' := (mkF m 1 #[.val (.int (15 : Int32)), .unset] [(.int (15 : Int32))])) (fun _ q => XS.iloadN X.here X.hx rfl (hb hby d13_0) rfl q) ?_
  refine Goes.by (g' := (mkF m 15 #[.val (.int (15 : Int32)), .unset] [])) (fun _ q => XS.ifYes X.here X.hx rfl (pc0 := 1) (pc' := 15) rfl (hb hby d13_1) rfl ((if0 _ _).trans (tlt (show (0 : Int32) < (15 : Int32) from (by decide))).2.2.1) (by decide) (by decide) q) ?_
  refine Goes.by (g' := (mkF m 17 #[.val (.int (15 : Int32)), .unset] [(.int (31 : Int32))])) (fun _ q => XS.bipush X.here X.hx rfl (hb hby d13_15) q) ?_
  refine Goes.by (g' := (mkF m 18 #[.val (.int (15 : Int32)), .val (.int (31 : Int32))] [])) (fun _ q => XS.istoreN X.here X.hx rfl (hb hby d13_17) rfl (l' := #[.val (.int (15 : Int32)), .val (.int (31 : Int32))]) rfl q) ?_
  refine Goes.by (g' := (mkF m 19 #[.val (.int (15 : Int32)), .val (.int (31 : Int32))] [(.int (15 : Int32))])) (fun _ q => XS.iloadN X.here X.hx rfl (hb hby d13_18) rfl q) ?_
  refine X.ldcWI (hw _ (List.mem_of_getElem? (i := 76) rfl)) (hb hby d13_19) ?_
  show Goes _ _ _ _ _ _ _ _ T (mkF m 22 #[.val (.int (15 : Int32)), .val (.int (31 : Int32))] [(.int (65536 : Int32)), (.int (15 : Int32))])
  refine Goes.by (g' := (mkF m 33 #[.val (.int (15 : Int32)), .val (.int (31 : Int32))] [])) (fun _ q => XS.icmpYes X.here X.hx rfl (pc0 := 22) (pc' := 33) rfl (hb hby d13_22) rfl (tlt (show (15 : Int32) < (65536 : Int32) from (by decide))).1 (by decide) (by decide) q) ?_
  refine Goes.by (g' := (mkF m 34 #[.val (.int (15 : Int32)), .val (.int (31 : Int32))] [(.int (15 : Int32))])) (fun _ q => XS.iloadN X.here X.hx rfl (hb hby d13_33) rfl q) ?_
  refine Goes.by (g' := (mkF m 37 #[.val (.int (15 : Int32)), .val (.int (31 : Int32))] [(.int (256 : Int32)), (.int (15 : Int32))])) (fun _ q => XS.sipush X.here X.hx rfl (hb hby d13_34) q) ?_
  refine Goes.by (g' := (mkF m 48 #[.val (.int (15 : Int32)), .val (.int (31 : Int32))] [])) (fun _ q => XS.icmpYes X.here X.hx rfl (pc0 := 37) (pc' := 48) rfl (hb hby d13_37) rfl (tlt (show (15 : Int32) < (256 : Int32) from (by decide))).1 (by decide) (by decide) q) ?_
  refine Goes.by (g' := (mkF m 49 #[.val (.int (15 : Int32)), .val (.int (31 : Int32))] [(.int (15 : Int32))])) (fun _ q => XS.iloadN X.here X.hx rfl (hb hby d13_48) rfl q) ?_
  refine Goes.by (g' := (mkF m 51 #[.val (.int (15 : Int32)), .val (.int (31 : Int32))] [(.int (16 : Int32)), (.int (15 : Int32))])) (fun _ q => XS.bipush X.here X.hx rfl (hb hby d13_49) q) ?_
  refine Goes.by (g' := (mkF m 61 #[.val (.int (15 : Int32)), .val (.int (31 : Int32))] [])) (fun _ q => XS.icmpYes X.here X.hx rfl (pc0 := 51) (pc' := 61) rfl (hb hby d13_51) rfl (tlt (show (15 : Int32) < (16 : Int32) from (by decide))).1 (by decide) (by decide) q) ?_
  refine Goes.by (g' := (mkF m 62 #[.val (.int (15 : Int32)), .val (.int (31 : Int32))] [(.int (15 : Int32))])) (fun _ q => XS.iloadN X.here X.hx rfl (hb hby d13_61) rfl q) ?_
  refine Goes.by (g' := (mkF m 63 #[.val (.int (15 : Int32)), .val (.int (31 : Int32))] [(.int (4 : Int32)), (.int (15 : Int32))])) (fun _ q => XS.iconst X.here X.hx rfl (hb hby d13_62) q) ?_
  refine Goes.by (g' := (mkF m 66 #[.val (.int (15 : Int32)), .val (.int (31 : Int32))] [])) (fun _ q => XS.icmpNo X.here X.hx rfl (hb hby d13_63) rfl (flt (show ¬ (15 : Int32) < (4 : Int32) from (by decide))).1 q) ?_
  refine Goes.by (g' := (mkF m 69 #[.val (.int (15 : Int32)), .val (.int (29 : Int32))] [])) (fun _ q => XS.iinc X.here X.hx rfl (hb hby d13_66) rfl (l' := #[.val (.int (15 : Int32)), .val (.int (29 : Int32))]) rfl q) ?_
  refine Goes.by (g' := (mkF m 70 #[.val (.int (15 : Int32)), .val (.int (29 : Int32))] [(.int (15 : Int32))])) (fun _ q => XS.iloadN X.here X.hx rfl (hb hby d13_69) rfl q) ?_
  refine Goes.by (g' := (mkF m 71 #[.val (.int (15 : Int32)), .val (.int (29 : Int32))] [(.int (2 : Int32)), (.int (15 : Int32))])) (fun _ q => XS.iconst X.here X.hx rfl (hb hby d13_70) q) ?_
  refine Goes.by (g' := (mkF m 72 #[.val (.int (15 : Int32)), .val (.int (29 : Int32))] [(.int (3 : Int32))])) (fun _ q => XS.iushr X.here X.hx rfl (hb hby d13_71) rfl q) ?_
  refine Goes.by (g' := (mkF m 73 #[.val (.int (3 : Int32)), .val (.int (29 : Int32))] [])) (fun _ q => XS.istoreN X.here X.hx rfl (hb hby d13_72) rfl (l' := #[.val (.int (3 : Int32)), .val (.int (29 : Int32))]) rfl q) ?_
  refine Goes.by (g' := (mkF m 74 #[.val (.int (3 : Int32)), .val (.int (29 : Int32))] [(.int (29 : Int32))])) (fun _ q => XS.iloadN X.here X.hx rfl (hb hby d13_73) rfl q) ?_
  refine Goes.by (g' := (mkF m 75 #[.val (.int (3 : Int32)), .val (.int (29 : Int32))] [(.int (3 : Int32)), (.int (29 : Int32))])) (fun _ q => XS.iloadN X.here X.hx rfl (hb hby d13_74) rfl q) ?_
  refine Goes.by (g' := (mkF m 76 #[.val (.int (3 : Int32)), .val (.int (29 : Int32))] [(.int (1 : Int32)), (.int (3 : Int32)), (.int (29 : Int32))])) (fun _ q => XS.iconst X.here X.hx rfl (hb hby d13_75) q) ?_
  refine Goes.by (g' := (mkF m 77 #[.val (.int (3 : Int32)), .val (.int (29 : Int32))] [(.int (1 : Int32)), (.int (29 : Int32))])) (fun _ q => XS.iushr X.here X.hx rfl (hb hby d13_76) rfl q) ?_
  refine Goes.by (g' := (mkF m 78 #[.val (.int (3 : Int32)), .val (.int (29 : Int32))] [(.int (28 : Int32))])) (fun _ q => XS.isub X.here X.hx rfl (hb hby d13_77) rfl q) ?_
  exact X.retI hret (hb hby d13_78) (by decide) (by decide) ⟨rfl, rfl⟩
set_option maxRecDepth 65536 in
set_option maxHeartbeats 40000000 in
theorem rmTsf (l : Launch) (Z : State) (a0 : Array Value) (hw : ∀ d ∈ tables_1, d.before a0 Z = true) (n0 : Nat) (h0 : Heap) (hn0 : n0 ≤ h0.size)  :
    Met l Z n0 (⟨"java/util/HashMap", "tableSizeFor", "(I)I"⟩ : MethodName) jdk_69_method_4_code 2 (Option.some .int) ({ frames := 1, cells := 0, slots := 0, locals := 14 } : Room) #[(.int (16 : Int32))] h0 (fun (v : Option Value) (h' : Heap) => v = some (.int 16) ∧ h' = h0) := by
  refine metW (Q := fun (v : Option Value) (h' : Heap) => v = some (.int 16) ∧ h' = h0) pf_12 hn0 ?_
  intro p e s m below meth c T X hby hml hret hnm
  refine Goes.by (g' := (mkF m 0 #[.val (.int (16 : Int32)), .unset] [])) (fun _ q => castTop (by first | rfl | (simp [entryFrame, mkF, argsToLocals, Value.category]; done)) q) ?_
  refine Goes.by (g' := (mkF m 1 #[.val (.int (16 : Int32)), .unset] [(.int (-1 : Int32))])) (fun _ q => XS.iconst X.here X.hx rfl (hb hby d12_0) q) ?_
  refine Goes.by (g' := (mkF m 2 #[.val (.int (16 : Int32)), .unset] [(.int (16 : Int32)), (.int (-1 : Int32))])) (fun _ q => XS.iloadN X.here X.hx rfl (hb hby d12_1) rfl q) ?_
  refine Goes.by (g' := (mkF m 3 #[.val (.int (16 : Int32)), .unset] [(.int (1 : Int32)), (.int (16 : Int32)), (.int (-1 : Int32))])) (fun _ q => XS.iconst X.here X.hx rfl (hb hby d12_2) q) ?_
  refine Goes.by (g' := (mkF m 4 #[.val (.int (16 : Int32)), .unset] [(.int (15 : Int32)), (.int (-1 : Int32))])) (fun _ q => XS.isub X.here X.hx rfl (hb hby d12_3) rfl q) ?_
  have X_o := X
  refine X.callS (hw _ (List.mem_of_getElem? (i := 72) rfl)) (hw _ (List.mem_of_getElem? (i := 73) rfl)) (hw _ (List.mem_of_getElem? (i := 74) rfl)) (hw _ (List.mem_of_getElem? (i := 75) rfl)) (by decide) pd_2087992008 (argsL := [(.int (15 : Int32))]) rfl (rmNlz l Z a0 hw n0 h0 X.n0le) (by rw [hml]; rfl) rfl (by decide) (leB rfl) (hb hby d12_4) (by decide) (by decide) (fun T h2 v X hQ => ?_)
  obtain ⟨rfl, hh⟩ := hQ
  rw [hh] at X
  clear hh
  show Goes _ _ _ _ _ _ _ _ T (mkF m 7 #[.val (.int (16 : Int32)), .unset] [(.int (28 : Int32)), (.int (-1 : Int32))])
  refine Goes.by (g' := (mkF m 8 #[.val (.int (16 : Int32)), .unset] [(.int (15 : Int32))])) (fun _ q => XS.iushr X.here X.hx rfl (hb hby d12_7) rfl q) ?_
  refine Goes.by (g' := (mkF m 9 #[.val (.int (16 : Int32)), .val (.int (15 : Int32))] [])) (fun _ q => XS.istoreN X.here X.hx rfl (hb hby d12_8) rfl (l' := #[.val (.int (16 : Int32)), .val (.int (15 : Int32))]) rfl q) ?_
  refine Goes.by (g' := (mkF m 10 #[.val (.int (16 : Int32)), .val (.int (15 : Int32))] [(.int (15 : Int32))])) (fun _ q => XS.iloadN X.here X.hx rfl (hb hby d12_9) rfl q) ?_
  refine Goes.by (g' := (mkF m 17 #[.val (.int (16 : Int32)), .val (.int (15 : Int32))] [])) (fun _ q => XS.ifYes X.here X.hx rfl (pc0 := 10) (pc' := 17) rfl (hb hby d12_10) rfl ((if0 _ _).trans (flt (show ¬ (15 : Int32) < (0 : Int32) from (by decide))).2.1) (by decide) (by decide) q) ?_
  refine Goes.by (g' := (mkF m 18 #[.val (.int (16 : Int32)), .val (.int (15 : Int32))] [(.int (15 : Int32))])) (fun _ q => XS.iloadN X.here X.hx rfl (hb hby d12_17) rfl q) ?_
  refine X.ldcI (hw _ (List.mem_of_getElem? (i := 62) rfl)) (hb hby d12_18) ?_
  show Goes _ _ _ _ _ _ _ _ T (mkF m 20 #[.val (.int (16 : Int32)), .val (.int (15 : Int32))] [(.int (1073741824 : Int32)), (.int (15 : Int32))])
  refine Goes.by (g' := (mkF m 28 #[.val (.int (16 : Int32)), .val (.int (15 : Int32))] [])) (fun _ q => XS.icmpYes X.here X.hx rfl (pc0 := 20) (pc' := 28) rfl (hb hby d12_20) rfl (tlt (show (15 : Int32) < (1073741824 : Int32) from (by decide))).1 (by decide) (by decide) q) ?_
  refine Goes.by (g' := (mkF m 29 #[.val (.int (16 : Int32)), .val (.int (15 : Int32))] [(.int (15 : Int32))])) (fun _ q => XS.iloadN X.here X.hx rfl (hb hby d12_28) rfl q) ?_
  refine Goes.by (g' := (mkF m 30 #[.val (.int (16 : Int32)), .val (.int (15 : Int32))] [(.int (1 : Int32)), (.int (15 : Int32))])) (fun _ q => XS.iconst X.here X.hx rfl (hb hby d12_29) q) ?_
  refine Goes.by (g' := (mkF m 31 #[.val (.int (16 : Int32)), .val (.int (15 : Int32))] [(.int (16 : Int32))])) (fun _ q => XS.iadd X.here X.hx rfl (hb hby d12_30) rfl q) ?_
  exact X.retI hret (hb hby d12_31) (by decide) (by decide) ⟨rfl, rfl⟩
set_option maxRecDepth 65536 in
set_option maxHeartbeats 40000000 in
theorem rmNan (l : Launch) (Z : State) (a0 : Array Value) (hw : ∀ d ∈ tables_1, d.before a0 Z = true) (n0 : Nat) (h0 : Heap) (hn0 : n0 ≤ h0.size)  :
    Met l Z n0 (⟨"java/lang/Float", "isNaN", "(F)Z"⟩ : MethodName) jdk_118_method_6_code 1 (Option.some .boolean) ({ frames := 0, cells := 0, slots := 0, locals := 0 } : Room) #[(.float (1061158912 : UInt32))] h0 (fun (v : Option Value) (h' : Heap) => v = some (.int 0) ∧ h' = h0) := by
  refine metW (Q := fun (v : Option Value) (h' : Heap) => v = some (.int 0) ∧ h' = h0) pf_11 hn0 ?_
  intro p e s m below meth c T X hby hml hret hnm
  refine Goes.by (g' := (mkF m 0 #[.val (.float (1061158912 : UInt32))] [])) (fun _ q => castTop (by first | rfl | (simp [entryFrame, mkF, argsToLocals, Value.category]; done)) q) ?_
  refine Goes.by (g' := (mkF m 1 #[.val (.float (1061158912 : UInt32))] [(.float (1061158912 : UInt32))])) (fun _ q => XS.floadN X.here X.hx rfl (hb hby d11_0) rfl q) ?_
  refine Goes.by (g' := (mkF m 2 #[.val (.float (1061158912 : UInt32))] [(.float (1061158912 : UInt32)), (.float (1061158912 : UInt32))])) (fun _ q => XS.floadN X.here X.hx rfl (hb hby d11_1) rfl q) ?_
  refine Goes.by (g' := (mkF m 3 #[.val (.float (1061158912 : UInt32))] [(.int (0 : Int32))])) (fun _ q => XS.fcmpS X.here X.hx rfl (hb hby d11_2) rfl (by decide +kernel) q) ?_
  refine Goes.by (g' := (mkF m 10 #[.val (.float (1061158912 : UInt32))] [])) (fun _ q => XS.ifYes X.here X.hx rfl (pc0 := 3) (pc' := 10) rfl (hb hby d11_3) rfl ((if0 _ _).trans (teq (show (0 : Int32) = (0 : Int32) from (by decide))).1) (by decide) (by decide) q) ?_
  refine Goes.by (g' := (mkF m 11 #[.val (.float (1061158912 : UInt32))] [(.int (0 : Int32))])) (fun _ q => XS.iconst X.here X.hx rfl (hb hby d11_10) q) ?_
  exact X.retZ hret (hb hby d11_11) (by decide) (by decide) ⟨rfl, rfl⟩
set_option maxRecDepth 65536 in
set_option maxHeartbeats 40000000 in
theorem rmHM (l : Launch) (Z : State) (a0 : Array Value) (hw : ∀ d ∈ tables_1, d.before a0 Z = true) (n0 : Nat) (h0 : Heap) (hn0 : n0 ≤ h0.size) (a : Addr) (ga_a : n0 ≤ a) (E_a : Exa Z h0 a "java/util/LinkedHashMap") (F_a_loadFactor : Fld Z h0 a "java/util/HashMap" "loadFactor" "F" (.float (0 : UInt32))) (F_a_threshold : Fld Z h0 a "java/util/HashMap" "threshold" "I" (.int (0 : Int32))) (F_a_putMode : Fld Z h0 a "java/util/LinkedHashMap" "putMode" "I" (.int (0 : Int32))) (F_a_accessOrder : Fld Z h0 a "java/util/LinkedHashMap" "accessOrder" "Z" (.int (0 : Int32)))  :
    Met l Z n0 (⟨"java/util/HashMap", "<init>", "(IF)V"⟩ : MethodName) jdk_69_method_5_code 3 (Option.none : Option FieldType) ({ frames := 2, cells := 0, slots := 0, locals := 28 } : Room) #[(.ref a), (.int (16 : Int32)), (.float (1061158912 : UInt32))] h0 (fun (v : Option Value) (h' : Heap) => v = none ∧ Keep h0 h' [a] ∧ Fld Z h' a "java/util/LinkedHashMap" "putMode" "I" (.int (0 : Int32)) ∧ Fld Z h' a "java/util/LinkedHashMap" "accessOrder" "Z" (.int (0 : Int32))) := by
  refine metW (Q := fun (v : Option Value) (h' : Heap) => v = none ∧ Keep h0 h' [a] ∧ Fld Z h' a "java/util/LinkedHashMap" "putMode" "I" (.int (0 : Int32)) ∧ Fld Z h' a "java/util/LinkedHashMap" "accessOrder" "Z" (.int (0 : Int32))) pf_9 hn0 ?_
  intro p e s m below meth c T X hby hml hret hnm
  refine Goes.by (g' := (mkF m 0 #[.val (.ref a), .val (.int (16 : Int32)), .val (.float (1061158912 : UInt32))] [])) (fun _ q => castTop (by first | rfl | (simp [entryFrame, mkF, argsToLocals, Value.category]; done)) q) ?_
  have K0 := Keep.refl h0 [a]
  refine Goes.by (g' := (mkF m 1 #[.val (.ref a), .val (.int (16 : Int32)), .val (.float (1061158912 : UInt32))] [(.ref a)])) (fun _ q => XS.aloadN X.here X.hx rfl (hb hby d9_0) rfl rfl q) ?_
  have X_o := X
  refine X.callN rfl (hw _ (List.mem_of_getElem? (i := 55) rfl)) (hw _ (List.mem_of_getElem? (i := 56) rfl)) (hw _ (List.mem_of_getElem? (i := 59) rfl)) (hw _ (List.mem_of_getElem? (i := 60) rfl)) (by decide) pd_193421996 (argsL := []) rfl (rmAM l Z a0 hw n0 h0 X.n0le a) (by rw [hml]; rfl) rfl (by decide) (leB rfl) (hb hby d9_1) (by decide) (by decide) (fun T h3 v X hQ => ?_)
  obtain ⟨rfl, hh⟩ := hQ
  rw [hh] at X
  clear hh
  show Goes _ _ _ _ _ _ _ _ T (mkF m 4 #[.val (.ref a), .val (.int (16 : Int32)), .val (.float (1061158912 : UInt32))] [])
  refine Goes.by (g' := (mkF m 5 #[.val (.ref a), .val (.int (16 : Int32)), .val (.float (1061158912 : UInt32))] [(.int (16 : Int32))])) (fun _ q => XS.iloadN X.here X.hx rfl (hb hby d9_4) rfl q) ?_
  refine Goes.by (g' := (mkF m 35 #[.val (.ref a), .val (.int (16 : Int32)), .val (.float (1061158912 : UInt32))] [])) (fun _ q => XS.ifYes X.here X.hx rfl (pc0 := 5) (pc' := 35) rfl (hb hby d9_5) rfl ((if0 _ _).trans (flt (show ¬ (16 : Int32) < (0 : Int32) from (by decide))).2.1) (by decide) (by decide) q) ?_
  refine Goes.by (g' := (mkF m 36 #[.val (.ref a), .val (.int (16 : Int32)), .val (.float (1061158912 : UInt32))] [(.int (16 : Int32))])) (fun _ q => XS.iloadN X.here X.hx rfl (hb hby d9_35) rfl q) ?_
  refine X.ldcI (hw _ (List.mem_of_getElem? (i := 62) rfl)) (hb hby d9_36) ?_
  show Goes _ _ _ _ _ _ _ _ T (mkF m 38 #[.val (.ref a), .val (.int (16 : Int32)), .val (.float (1061158912 : UInt32))] [(.int (1073741824 : Int32)), (.int (16 : Int32))])
  refine Goes.by (g' := (mkF m 44 #[.val (.ref a), .val (.int (16 : Int32)), .val (.float (1061158912 : UInt32))] [])) (fun _ q => XS.icmpYes X.here X.hx rfl (pc0 := 38) (pc' := 44) rfl (hb hby d9_38) rfl (flt (show ¬ (1073741824 : Int32) < (16 : Int32) from (by decide))).2.2.2 (by decide) (by decide) q) ?_
  refine Goes.by (g' := (mkF m 45 #[.val (.ref a), .val (.int (16 : Int32)), .val (.float (1061158912 : UInt32))] [(.float (1061158912 : UInt32))])) (fun _ q => XS.floadN X.here X.hx rfl (hb hby d9_44) rfl q) ?_
  refine Goes.by (g' := (mkF m 46 #[.val (.ref a), .val (.int (16 : Int32)), .val (.float (1061158912 : UInt32))] [(.float (0 : UInt32)), (.float (1061158912 : UInt32))])) (fun _ q => XS.fconst0 X.here X.hx rfl (hb hby d9_45) rfl q) ?_
  refine Goes.by (g' := (mkF m 47 #[.val (.ref a), .val (.int (16 : Int32)), .val (.float (1061158912 : UInt32))] [(.int (1 : Int32))])) (fun _ q => XS.fcmpS X.here X.hx rfl (hb hby d9_46) rfl (by decide +kernel) q) ?_
  refine Goes.by (g' := (mkF m 50 #[.val (.ref a), .val (.int (16 : Int32)), .val (.float (1061158912 : UInt32))] [])) (fun _ q => XS.ifNo X.here X.hx rfl (hb hby d9_47) rfl ((if0 _ _).trans (tlt (show (0 : Int32) < (1 : Int32) from (by decide))).2.2.2) q) ?_
  refine Goes.by (g' := (mkF m 51 #[.val (.ref a), .val (.int (16 : Int32)), .val (.float (1061158912 : UInt32))] [(.float (1061158912 : UInt32))])) (fun _ q => XS.floadN X.here X.hx rfl (hb hby d9_50) rfl q) ?_
  have X_o := X
  refine X.callS (hw _ (List.mem_of_getElem? (i := 63) rfl)) (hw _ (List.mem_of_getElem? (i := 64) rfl)) (hw _ (List.mem_of_getElem? (i := 65) rfl)) (hw _ (List.mem_of_getElem? (i := 66) rfl)) (by decide) pd_2087988758 (argsL := [(.float (1061158912 : UInt32))]) rfl (rmNan l Z a0 hw n0 h0 X.n0le) (by rw [hml]; rfl) rfl (by decide) (leB rfl) (hb hby d9_51) (by decide) (by decide) (fun T h4 v X hQ => ?_)
  obtain ⟨rfl, hh⟩ := hQ
  rw [hh] at X
  clear hh
  show Goes _ _ _ _ _ _ _ _ T (mkF m 54 #[.val (.ref a), .val (.int (16 : Int32)), .val (.float (1061158912 : UInt32))] [(.int (0 : Int32))])
  refine Goes.by (g' := (mkF m 84 #[.val (.ref a), .val (.int (16 : Int32)), .val (.float (1061158912 : UInt32))] [])) (fun _ q => XS.ifYes X.here X.hx rfl (pc0 := 54) (pc' := 84) rfl (hb hby d9_54) rfl ((if0 _ _).trans (teq (show (0 : Int32) = (0 : Int32) from (by decide))).1) (by decide) (by decide) q) ?_
  refine Goes.by (g' := (mkF m 85 #[.val (.ref a), .val (.int (16 : Int32)), .val (.float (1061158912 : UInt32))] [(.ref a)])) (fun _ q => XS.aloadN X.here X.hx rfl (hb hby d9_84) rfl rfl q) ?_
  refine Goes.by (g' := (mkF m 86 #[.val (.ref a), .val (.int (16 : Int32)), .val (.float (1061158912 : UInt32))] [(.float (1061158912 : UInt32)), (.ref a)])) (fun _ q => XS.floadN X.here X.hx rfl (hb hby d9_85) rfl q) ?_
  refine X.putF (host := "") (Or.inl (hw _ (List.mem_of_getElem? (i := 67) rfl))) Via.refl F_a_loadFactor E_a (Or.inr ⟨(hw _ (List.mem_of_getElem? (i := 68) rfl)), rfl, hnm⟩) (hw _ (List.mem_of_getElem? (i := 43) rfl)) (ty := .float) (by decide) rfl rfl ga_a (hb hby d9_86) (fun T h5 X W => ?_)
  have K0 := K0.wr W (Or.inl (by simp))
  have E_a := E_a.wr W
  have F_a_loadFactor := F_a_loadFactor.same W
  have F_a_threshold := F_a_threshold.other W (Or.inr (slot_ne (Or.inl (hw _ (List.mem_of_getElem? (i := 78) rfl))) (Or.inr (hw _ (List.mem_of_getElem? (i := 68) rfl))) (by decide) (t := .int) (t' := .float) (by decide) (by decide)))
  have F_a_putMode := F_a_putMode.other W (Or.inr (slot_ne (Or.inl (hw _ (List.mem_of_getElem? (i := 80) rfl))) (Or.inr (hw _ (List.mem_of_getElem? (i := 68) rfl))) (by decide) (t := .int) (t' := .float) (by decide) (by decide)))
  have F_a_accessOrder := F_a_accessOrder.other W (Or.inr (slot_ne (Or.inr (hw _ (List.mem_of_getElem? (i := 82) rfl))) (Or.inr (hw _ (List.mem_of_getElem? (i := 68) rfl))) (by decide) (t := .boolean) (t' := .float) (by decide) (by decide)))
  show Goes _ _ _ _ _ _ _ _ T (mkF m 89 #[.val (.ref a), .val (.int (16 : Int32)), .val (.float (1061158912 : UInt32))] [])
  refine Goes.by (g' := (mkF m 90 #[.val (.ref a), .val (.int (16 : Int32)), .val (.float (1061158912 : UInt32))] [(.ref a)])) (fun _ q => XS.aloadN X.here X.hx rfl (hb hby d9_89) rfl rfl q) ?_
  refine Goes.by (g' := (mkF m 91 #[.val (.ref a), .val (.int (16 : Int32)), .val (.float (1061158912 : UInt32))] [(.int (16 : Int32)), (.ref a)])) (fun _ q => XS.iloadN X.here X.hx rfl (hb hby d9_90) rfl q) ?_
  have X_o := X
  refine X.callS (hw _ (List.mem_of_getElem? (i := 69) rfl)) (hw _ (List.mem_of_getElem? (i := 70) rfl)) (hw _ (List.mem_of_getElem? (i := 53) rfl)) (hw _ (List.mem_of_getElem? (i := 71) rfl)) (by decide) pd_2087992008 (argsL := [(.int (16 : Int32))]) rfl (rmTsf l Z a0 hw n0 h5 X.n0le) (by rw [hml]; rfl) rfl (by decide) (leB rfl) (hb hby d9_91) (by decide) (by decide) (fun T h6 v X hQ => ?_)
  obtain ⟨rfl, hh⟩ := hQ
  rw [hh] at X
  clear hh
  show Goes _ _ _ _ _ _ _ _ T (mkF m 94 #[.val (.ref a), .val (.int (16 : Int32)), .val (.float (1061158912 : UInt32))] [(.int (16 : Int32)), (.ref a)])
  refine X.putF (host := "") (Or.inl (hw _ (List.mem_of_getElem? (i := 77) rfl))) Via.refl F_a_threshold E_a (Or.inl (hw _ (List.mem_of_getElem? (i := 78) rfl))) (hw _ (List.mem_of_getElem? (i := 43) rfl)) (ty := .int) (by decide) rfl rfl ga_a (hb hby d9_94) (fun T h7 X W => ?_)
  have K0 := K0.wr W (Or.inl (by simp))
  have E_a := E_a.wr W
  have F_a_loadFactor := F_a_loadFactor.other W (Or.inr (slot_ne (Or.inr (hw _ (List.mem_of_getElem? (i := 68) rfl))) (Or.inl (hw _ (List.mem_of_getElem? (i := 78) rfl))) (by decide) (t := .float) (t' := .int) (by decide) (by decide)))
  have F_a_threshold := F_a_threshold.same W
  have F_a_putMode := F_a_putMode.other W (Or.inr (slot_ne (Or.inl (hw _ (List.mem_of_getElem? (i := 80) rfl))) (Or.inl (hw _ (List.mem_of_getElem? (i := 78) rfl))) (by decide) (t := .int) (t' := .int) (by decide) (by decide)))
  have F_a_accessOrder := F_a_accessOrder.other W (Or.inr (slot_ne (Or.inr (hw _ (List.mem_of_getElem? (i := 82) rfl))) (Or.inl (hw _ (List.mem_of_getElem? (i := 78) rfl))) (by decide) (t := .boolean) (t' := .int) (by decide) (by decide)))
  show Goes _ _ _ _ _ _ _ _ T (mkF m 97 #[.val (.ref a), .val (.int (16 : Int32)), .val (.float (1061158912 : UInt32))] [])
  exact X.retV hret (hb hby d9_97) (by decide) (by decide) ⟨rfl, K0, F_a_putMode, F_a_accessOrder⟩
set_option maxRecDepth 65536 in
set_option maxHeartbeats 40000000 in
theorem rmLHM (l : Launch) (Z : State) (a0 : Array Value) (hw : ∀ d ∈ tables_1, d.before a0 Z = true) (n0 : Nat) (h0 : Heap) (hn0 : n0 ≤ h0.size) (a : Addr) (ga_a : n0 ≤ a) (E_a : Exa Z h0 a "java/util/LinkedHashMap") (F_a_loadFactor : Fld Z h0 a "java/util/HashMap" "loadFactor" "F" (.float (0 : UInt32))) (F_a_threshold : Fld Z h0 a "java/util/HashMap" "threshold" "I" (.int (0 : Int32))) (F_a_putMode : Fld Z h0 a "java/util/LinkedHashMap" "putMode" "I" (.int (0 : Int32))) (F_a_accessOrder : Fld Z h0 a "java/util/LinkedHashMap" "accessOrder" "Z" (.int (0 : Int32)))  :
    Met l Z n0 (⟨"java/util/LinkedHashMap", "<init>", "(IF)V"⟩ : MethodName) jdk_94_method_14_code 3 (Option.none : Option FieldType) ({ frames := 3, cells := 0, slots := 0, locals := 42 } : Room) #[(.ref a), (.int (16 : Int32)), (.float (1061158912 : UInt32))] h0 (fun (v : Option Value) (h' : Heap) => v = none ∧ Keep h0 h' [a]) := by
  refine metW (Q := fun (v : Option Value) (h' : Heap) => v = none ∧ Keep h0 h' [a]) pf_8 hn0 ?_
  intro p e s m below meth c T X hby hml hret hnm
  refine Goes.by (g' := (mkF m 0 #[.val (.ref a), .val (.int (16 : Int32)), .val (.float (1061158912 : UInt32))] [])) (fun _ q => castTop (by first | rfl | (simp [entryFrame, mkF, argsToLocals, Value.category]; done)) q) ?_
  have K0 := Keep.refl h0 [a]
  refine Goes.by (g' := (mkF m 1 #[.val (.ref a), .val (.int (16 : Int32)), .val (.float (1061158912 : UInt32))] [(.ref a)])) (fun _ q => XS.aloadN X.here X.hx rfl (hb hby d8_0) rfl rfl q) ?_
  refine Goes.by (g' := (mkF m 2 #[.val (.ref a), .val (.int (16 : Int32)), .val (.float (1061158912 : UInt32))] [(.int (16 : Int32)), (.ref a)])) (fun _ q => XS.iloadN X.here X.hx rfl (hb hby d8_1) rfl q) ?_
  refine Goes.by (g' := (mkF m 3 #[.val (.ref a), .val (.int (16 : Int32)), .val (.float (1061158912 : UInt32))] [(.float (1061158912 : UInt32)), (.int (16 : Int32)), (.ref a)])) (fun _ q => XS.floadN X.here X.hx rfl (hb hby d8_2) rfl q) ?_
  have X_o := X
  refine X.callN rfl (hw _ (List.mem_of_getElem? (i := 49) rfl)) (hw _ (List.mem_of_getElem? (i := 50) rfl)) (hw _ (List.mem_of_getElem? (i := 53) rfl)) (hw _ (List.mem_of_getElem? (i := 54) rfl)) (by decide) pd_184290139 (argsL := [(.int (16 : Int32)), (.float (1061158912 : UInt32))]) rfl (rmHM l Z a0 hw n0 h0 X.n0le a ga_a E_a F_a_loadFactor F_a_threshold F_a_putMode F_a_accessOrder) (by rw [hml]; rfl) rfl (by decide) (leB rfl) (hb hby d8_3) (by decide) (by decide) (fun T h8 v X hQ => ?_)
  obtain ⟨rfl, K, F_a_putMode, F_a_accessOrder⟩ := hQ
  have K0 := K0.trans K (allS (Or.inl (by simp)) all0)
  have E_a := E_a.keep K
  show Goes _ _ _ _ _ _ _ _ T (mkF m 6 #[.val (.ref a), .val (.int (16 : Int32)), .val (.float (1061158912 : UInt32))] [])
  refine Goes.by (g' := (mkF m 7 #[.val (.ref a), .val (.int (16 : Int32)), .val (.float (1061158912 : UInt32))] [(.ref a)])) (fun _ q => XS.aloadN X.here X.hx rfl (hb hby d8_6) rfl rfl q) ?_
  refine Goes.by (g' := (mkF m 8 #[.val (.ref a), .val (.int (16 : Int32)), .val (.float (1061158912 : UInt32))] [(.int (0 : Int32)), (.ref a)])) (fun _ q => XS.iconst X.here X.hx rfl (hb hby d8_7) q) ?_
  refine X.putF (host := "") (Or.inl (hw _ (List.mem_of_getElem? (i := 79) rfl))) Via.refl F_a_putMode E_a (Or.inl (hw _ (List.mem_of_getElem? (i := 80) rfl))) (hw _ (List.mem_of_getElem? (i := 43) rfl)) (ty := .int) (by decide) rfl rfl ga_a (hb hby d8_8) (fun T h9 X W => ?_)
  have K0 := K0.wr W (Or.inl (by simp))
  have E_a := E_a.wr W
  have F_a_putMode := F_a_putMode.same W
  have F_a_accessOrder := F_a_accessOrder.other W (Or.inr (slot_ne (Or.inr (hw _ (List.mem_of_getElem? (i := 82) rfl))) (Or.inl (hw _ (List.mem_of_getElem? (i := 80) rfl))) (by decide) (t := .boolean) (t' := .int) (by decide) (by decide)))
  show Goes _ _ _ _ _ _ _ _ T (mkF m 11 #[.val (.ref a), .val (.int (16 : Int32)), .val (.float (1061158912 : UInt32))] [])
  refine Goes.by (g' := (mkF m 12 #[.val (.ref a), .val (.int (16 : Int32)), .val (.float (1061158912 : UInt32))] [(.ref a)])) (fun _ q => XS.aloadN X.here X.hx rfl (hb hby d8_11) rfl rfl q) ?_
  refine Goes.by (g' := (mkF m 13 #[.val (.ref a), .val (.int (16 : Int32)), .val (.float (1061158912 : UInt32))] [(.int (0 : Int32)), (.ref a)])) (fun _ q => XS.iconst X.here X.hx rfl (hb hby d8_12) q) ?_
  refine X.putF (host := "") (Or.inl (hw _ (List.mem_of_getElem? (i := 81) rfl))) Via.refl F_a_accessOrder E_a (Or.inr ⟨(hw _ (List.mem_of_getElem? (i := 82) rfl)), rfl, hnm⟩) (hw _ (List.mem_of_getElem? (i := 43) rfl)) (ty := .boolean) (by decide) rfl rfl ga_a (hb hby d8_13) (fun T h10 X W => ?_)
  have K0 := K0.wr W (Or.inl (by simp))
  have E_a := E_a.wr W
  have F_a_putMode := F_a_putMode.other W (Or.inr (slot_ne (Or.inl (hw _ (List.mem_of_getElem? (i := 80) rfl))) (Or.inr (hw _ (List.mem_of_getElem? (i := 82) rfl))) (by decide) (t := .int) (t' := .boolean) (by decide) (by decide)))
  have F_a_accessOrder := F_a_accessOrder.same W
  show Goes _ _ _ _ _ _ _ _ T (mkF m 16 #[.val (.ref a), .val (.int (16 : Int32)), .val (.float (1061158912 : UInt32))] [])
  exact X.retV hret (hb hby d8_16) (by decide) (by decide) ⟨rfl, K0⟩
set_option maxRecDepth 65536 in
set_option maxHeartbeats 40000000 in
theorem rmHS (l : Launch) (Z : State) (a0 : Array Value) (hw : ∀ d ∈ tables_1, d.before a0 Z = true) (n0 : Nat) (h0 : Heap) (hn0 : n0 ≤ h0.size) (a : Addr) (ga_a : n0 ≤ a) (E_a : Exa Z h0 a "java/util/LinkedHashSet") (F_a_map : Fld Z h0 a "java/util/HashSet" "map" "Ljava/util/HashMap;" .null)  :
    Met l Z n0 (⟨"java/util/HashSet", "<init>", "(IFZ)V"⟩ : MethodName) jdk_93_method_5_code 4 (Option.none : Option FieldType) ({ frames := 4, cells := 1, slots := 12, locals := 58 } : Room) #[(.ref a), (.int (16 : Int32)), (.float (1061158912 : UInt32)), (.int (1 : Int32))] h0 (fun (v : Option Value) (h' : Heap) => v = none ∧ Keep h0 h' [a]) := by
  refine metW (Q := fun (v : Option Value) (h' : Heap) => v = none ∧ Keep h0 h' [a]) pf_5 hn0 ?_
  intro p e s m below meth c T X hby hml hret hnm
  refine Goes.by (g' := (mkF m 0 #[.val (.ref a), .val (.int (16 : Int32)), .val (.float (1061158912 : UInt32)), .val (.int (1 : Int32))] [])) (fun _ q => castTop (by first | rfl | (simp [entryFrame, mkF, argsToLocals, Value.category]; done)) q) ?_
  have K0 := Keep.refl h0 [a]
  refine Goes.by (g' := (mkF m 1 #[.val (.ref a), .val (.int (16 : Int32)), .val (.float (1061158912 : UInt32)), .val (.int (1 : Int32))] [(.ref a)])) (fun _ q => XS.aloadN X.here X.hx rfl (hb hby d5_0) rfl rfl q) ?_
  have X_o := X
  refine X.callN rfl (hw _ (List.mem_of_getElem? (i := 29) rfl)) (hw _ (List.mem_of_getElem? (i := 30) rfl)) (hw _ (List.mem_of_getElem? (i := 33) rfl)) (hw _ (List.mem_of_getElem? (i := 34) rfl)) (by decide) pd_193421996 (argsL := []) rfl (rmAS l Z a0 hw n0 h0 X.n0le a) (by rw [hml]; rfl) rfl (by decide) (leB rfl) (hb hby d5_1) (by decide) (by decide) (fun T h11 v X hQ => ?_)
  obtain ⟨rfl, hh⟩ := hQ
  rw [hh] at X
  clear hh
  show Goes _ _ _ _ _ _ _ _ T (mkF m 4 #[.val (.ref a), .val (.int (16 : Int32)), .val (.float (1061158912 : UInt32)), .val (.int (1 : Int32))] [])
  refine Goes.by (g' := (mkF m 5 #[.val (.ref a), .val (.int (16 : Int32)), .val (.float (1061158912 : UInt32)), .val (.int (1 : Int32))] [(.ref a)])) (fun _ q => XS.aloadN X.here X.hx rfl (hb hby d5_4) rfl rfl q) ?_
  refine X.newO (hw _ (List.mem_of_getElem? (i := 42) rfl)) (hw _ (List.mem_of_getElem? (i := 43) rfl)) (hw _ (List.mem_of_getElem? (i := 44) rfl)) (hb hby d5_5) (by decide) (by decide) (fun T h13 b12 X g_b12 ga_b12 E E_b12 D_b12 => ?_)
  have gz_b12 : h0.size ≤ b12 := by rw [g_b12]; exact K0.1
  have ne_a_b12 : a ≠ b12 := by rw [g_b12]; exact Nat.ne_of_lt E_a.lt
  have K0 := K0.ext E
  have E_a := E_a.ext E
  have F_a_map := F_a_map.ext E
  have F_b12_loadFactor : Fld Z h13 b12 "java/util/HashMap" "loadFactor" "F" (.float (0 : UInt32)) := D_b12 (Or.inr (hw _ (List.mem_of_getElem? (i := 68) rfl))) (ty := .float) (by decide)
  have F_b12_threshold : Fld Z h13 b12 "java/util/HashMap" "threshold" "I" (.int (0 : Int32)) := D_b12 (Or.inl (hw _ (List.mem_of_getElem? (i := 78) rfl))) (ty := .int) (by decide)
  have F_b12_putMode : Fld Z h13 b12 "java/util/LinkedHashMap" "putMode" "I" (.int (0 : Int32)) := D_b12 (Or.inl (hw _ (List.mem_of_getElem? (i := 80) rfl))) (ty := .int) (by decide)
  have F_b12_accessOrder : Fld Z h13 b12 "java/util/LinkedHashMap" "accessOrder" "Z" (.int (0 : Int32)) := D_b12 (Or.inr (hw _ (List.mem_of_getElem? (i := 82) rfl))) (ty := .boolean) (by decide)
  show Goes _ _ _ _ _ _ _ _ T (mkF m 8 #[.val (.ref a), .val (.int (16 : Int32)), .val (.float (1061158912 : UInt32)), .val (.int (1 : Int32))] [(.ref b12), (.ref a)])
  refine Goes.by (g' := (mkF m 9 #[.val (.ref a), .val (.int (16 : Int32)), .val (.float (1061158912 : UInt32)), .val (.int (1 : Int32))] [(.ref b12), (.ref b12), (.ref a)])) (fun _ q => XS.dup X.here X.hx rfl (hb hby d5_8) rfl rfl q) ?_
  refine Goes.by (g' := (mkF m 10 #[.val (.ref a), .val (.int (16 : Int32)), .val (.float (1061158912 : UInt32)), .val (.int (1 : Int32))] [(.int (16 : Int32)), (.ref b12), (.ref b12), (.ref a)])) (fun _ q => XS.iloadN X.here X.hx rfl (hb hby d5_9) rfl q) ?_
  refine Goes.by (g' := (mkF m 11 #[.val (.ref a), .val (.int (16 : Int32)), .val (.float (1061158912 : UInt32)), .val (.int (1 : Int32))] [(.float (1061158912 : UInt32)), (.int (16 : Int32)), (.ref b12), (.ref b12), (.ref a)])) (fun _ q => XS.floadN X.here X.hx rfl (hb hby d5_10) rfl q) ?_
  have X_o := X
  refine X.callN rfl (hw _ (List.mem_of_getElem? (i := 45) rfl)) (hw _ (List.mem_of_getElem? (i := 46) rfl)) (hw _ (List.mem_of_getElem? (i := 44) rfl)) (hw _ (List.mem_of_getElem? (i := 48) rfl)) (by decide) pd_184290139 (argsL := [(.int (16 : Int32)), (.float (1061158912 : UInt32))]) rfl (rmLHM l Z a0 hw n0 h13 X.n0le b12 ga_b12 E_b12 F_b12_loadFactor F_b12_threshold F_b12_putMode F_b12_accessOrder) (by rw [hml]; rfl) rfl (by decide) (leB rfl) (hb hby d5_11) (by decide) (by decide) (fun T h14 v X hQ => ?_)
  obtain ⟨rfl, K⟩ := hQ
  have K0 := K0.trans K (allS (Or.inr gz_b12) all0)
  have E_a := E_a.keep K
  have F_a_map := F_a_map.keep K (ninS ne_a_b12 nin0)
  have E_b12 := E_b12.keep K
  show Goes _ _ _ _ _ _ _ _ T (mkF m 14 #[.val (.ref a), .val (.int (16 : Int32)), .val (.float (1061158912 : UInt32)), .val (.int (1 : Int32))] [(.ref b12), (.ref a)])
  refine X.putF (host := "") (Or.inl (hw _ (List.mem_of_getElem? (i := 83) rfl))) Via.refl F_a_map E_a (Or.inl (hw _ (List.mem_of_getElem? (i := 84) rfl))) (hw _ (List.mem_of_getElem? (i := 17) rfl)) (ty := (.object "java/util/HashMap")) (by decide) rfl rfl ga_a (hb hby d5_14) (fun T h15 X W => ?_)
  have K0 := K0.wr W (Or.inl (by simp))
  have E_a := E_a.wr W
  have F_a_map := F_a_map.same W
  have E_b12 := E_b12.wr W
  show Goes _ _ _ _ _ _ _ _ T (mkF m 17 #[.val (.ref a), .val (.int (16 : Int32)), .val (.float (1061158912 : UInt32)), .val (.int (1 : Int32))] [])
  exact X.retV hret (hb hby d5_17) (by decide) (by decide) ⟨rfl, K0⟩
set_option maxRecDepth 65536 in
set_option maxHeartbeats 40000000 in
theorem rmLHS (l : Launch) (Z : State) (a0 : Array Value) (hw : ∀ d ∈ tables_1, d.before a0 Z = true) (n0 : Nat) (h0 : Heap) (hn0 : n0 ≤ h0.size) (a : Addr) (ga_a : n0 ≤ a) (E_a : Exa Z h0 a "java/util/LinkedHashSet") (F_a_map : Fld Z h0 a "java/util/HashSet" "map" "Ljava/util/HashMap;" .null)  :
    Met l Z n0 (⟨"java/util/LinkedHashSet", "<init>", "()V"⟩ : MethodName) jdk_2620_method_3_code 1 (Option.none : Option FieldType) ({ frames := 5, cells := 1, slots := 12, locals := 73 } : Room) #[(.ref a)] h0 (fun (v : Option Value) (h' : Heap) => v = none ∧ Keep h0 h' [a]) := by
  refine metW (Q := fun (v : Option Value) (h' : Heap) => v = none ∧ Keep h0 h' [a]) pf_4 hn0 ?_
  intro p e s m below meth c T X hby hml hret hnm
  refine Goes.by (g' := (mkF m 0 #[.val (.ref a)] [])) (fun _ q => castTop (by first | rfl | (simp [entryFrame, mkF, argsToLocals, Value.category]; done)) q) ?_
  have K0 := Keep.refl h0 [a]
  refine Goes.by (g' := (mkF m 1 #[.val (.ref a)] [(.ref a)])) (fun _ q => XS.aloadN X.here X.hx rfl (hb hby d4_0) rfl rfl q) ?_
  refine Goes.by (g' := (mkF m 3 #[.val (.ref a)] [(.int (16 : Int32)), (.ref a)])) (fun _ q => XS.bipush X.here X.hx rfl (hb hby d4_1) q) ?_
  refine X.ldcF (hw _ (List.mem_of_getElem? (i := 22) rfl)) (hb hby d4_3) ?_
  show Goes _ _ _ _ _ _ _ _ T (mkF m 5 #[.val (.ref a)] [(.float (1061158912 : UInt32)), (.int (16 : Int32)), (.ref a)])
  refine Goes.by (g' := (mkF m 6 #[.val (.ref a)] [(.int (1 : Int32)), (.float (1061158912 : UInt32)), (.int (16 : Int32)), (.ref a)])) (fun _ q => XS.iconst X.here X.hx rfl (hb hby d4_5) q) ?_
  have X_o := X
  refine X.callN rfl (hw _ (List.mem_of_getElem? (i := 23) rfl)) (hw _ (List.mem_of_getElem? (i := 24) rfl)) (hw _ (List.mem_of_getElem? (i := 27) rfl)) (hw _ (List.mem_of_getElem? (i := 28) rfl)) (by decide) pd_1786659253 (argsL := [(.int (16 : Int32)), (.float (1061158912 : UInt32)), (.int (1 : Int32))]) rfl (rmHS l Z a0 hw n0 h0 X.n0le a ga_a E_a F_a_map) (by rw [hml]; rfl) rfl (by decide) (leB rfl) (hb hby d4_6) (by decide) (by decide) (fun T h16 v X hQ => ?_)
  obtain ⟨rfl, K⟩ := hQ
  have K0 := K0.trans K (allS (Or.inl (by simp)) all0)
  have E_a := E_a.keep K
  show Goes _ _ _ _ _ _ _ _ T (mkF m 9 #[.val (.ref a)] [])
  exact X.retV hret (hb hby d4_9) (by decide) (by decide) ⟨rfl, K0⟩
set_option maxRecDepth 65536 in
set_option maxHeartbeats 40000000 in
theorem rmMU (l : Launch) (Z : State) (a0 : Array Value) (hw : ∀ d ∈ tables_1, d.before a0 Z = true) (n0 : Nat) (h0 : Heap) (hn0 : n0 ≤ h0.size) (a : Addr) (ga_a : n0 ≤ a) (E_a : Exa Z h0 a "com/example/hafiza/hafiza/Mutations") (F_a_renamers : Fld Z h0 a "com/example/hafiza/hafiza/Mutations" "renamers" "Ljava/util/Set;" .null) (F_a_deleters : Fld Z h0 a "com/example/hafiza/hafiza/Mutations" "deleters" "Ljava/util/Set;" .null) (F_a_converters : Fld Z h0 a "com/example/hafiza/hafiza/Mutations" "converters" "Ljava/util/Set;" .null)  :
    Met l Z n0 (⟨"com/example/hafiza/hafiza/Mutations", "<init>", "()V"⟩ : MethodName) prog_16_method_1_code 1 (Option.none : Option FieldType) ({ frames := 6, cells := 6, slots := 39, locals := 87 } : Room) #[(.ref a)] h0 (fun (v : Option Value) (h' : Heap) => v = none ∧ Keep h0 h' [a]) := by
  refine metW (Q := fun (v : Option Value) (h' : Heap) => v = none ∧ Keep h0 h' [a]) pf_3 hn0 ?_
  intro p e s m below meth c T X hby hml hret hnm
  refine Goes.by (g' := (mkF m 0 #[.val (.ref a)] [])) (fun _ q => castTop (by first | rfl | (simp [entryFrame, mkF, argsToLocals, Value.category]; done)) q) ?_
  have K0 := Keep.refl h0 [a]
  refine Goes.by (g' := (mkF m 1 #[.val (.ref a)] [(.ref a)])) (fun _ q => XS.aloadN X.here X.hx rfl (hb hby d3_0) rfl rfl q) ?_
  refine X.initO (hw _ (List.mem_of_getElem? (i := 15) rfl)) (hw _ (List.mem_of_getElem? (i := 7) rfl)) (hw _ (List.mem_of_getElem? (i := 8) rfl)) (by rw [hml]; rfl) (hb hby d3_1) (by decide) (leB rfl) (fun T X => ?_)
  show Goes _ _ _ _ _ _ _ _ T (mkF m 4 #[.val (.ref a)] [])
  refine Goes.by (g' := (mkF m 5 #[.val (.ref a)] [(.ref a)])) (fun _ q => XS.aloadN X.here X.hx rfl (hb hby d3_4) rfl rfl q) ?_
  refine X.newO (hw _ (List.mem_of_getElem? (i := 16) rfl)) (hw _ (List.mem_of_getElem? (i := 17) rfl)) (hw _ (List.mem_of_getElem? (i := 18) rfl)) (hb hby d3_5) (by decide) (by decide) (fun T h18 b17 X g_b17 ga_b17 E E_b17 D_b17 => ?_)
  have gz_b17 : h0.size ≤ b17 := by rw [g_b17]; exact K0.1
  have ne_a_b17 : a ≠ b17 := by rw [g_b17]; exact Nat.ne_of_lt E_a.lt
  have K0 := K0.ext E
  have E_a := E_a.ext E
  have F_a_renamers := F_a_renamers.ext E
  have F_a_deleters := F_a_deleters.ext E
  have F_a_converters := F_a_converters.ext E
  have F_b17_map : Fld Z h18 b17 "java/util/HashSet" "map" "Ljava/util/HashMap;" .null := D_b17 (Or.inl (hw _ (List.mem_of_getElem? (i := 84) rfl))) (ty := (.object "java/util/HashMap")) (by decide)
  show Goes _ _ _ _ _ _ _ _ T (mkF m 8 #[.val (.ref a)] [(.ref b17), (.ref a)])
  refine Goes.by (g' := (mkF m 9 #[.val (.ref a)] [(.ref b17), (.ref b17), (.ref a)])) (fun _ q => XS.dup X.here X.hx rfl (hb hby d3_8) rfl rfl q) ?_
  have X_o := X
  refine X.callN rfl (hw _ (List.mem_of_getElem? (i := 19) rfl)) (hw _ (List.mem_of_getElem? (i := 20) rfl)) (hw _ (List.mem_of_getElem? (i := 18) rfl)) (hw _ (List.mem_of_getElem? (i := 21) rfl)) (by decide) pd_193421996 (argsL := []) rfl (rmLHS l Z a0 hw n0 h18 X.n0le b17 ga_b17 E_b17 F_b17_map) (by rw [hml]; rfl) rfl (by decide) (leB rfl) (hb hby d3_9) (by decide) (by decide) (fun T h19 v X hQ => ?_)
  obtain ⟨rfl, K⟩ := hQ
  have K0 := K0.trans K (allS (Or.inr gz_b17) all0)
  have E_a := E_a.keep K
  have F_a_renamers := F_a_renamers.keep K (ninS ne_a_b17 nin0)
  have F_a_deleters := F_a_deleters.keep K (ninS ne_a_b17 nin0)
  have F_a_converters := F_a_converters.keep K (ninS ne_a_b17 nin0)
  have E_b17 := E_b17.keep K
  show Goes _ _ _ _ _ _ _ _ T (mkF m 12 #[.val (.ref a)] [(.ref b17), (.ref a)])
  refine X.putF (host := "") (Or.inl (hw _ (List.mem_of_getElem? (i := 85) rfl))) Via.refl F_a_renamers E_a (Or.inr ⟨(hw _ (List.mem_of_getElem? (i := 86) rfl)), rfl, hnm⟩) (hw _ (List.mem_of_getElem? (i := 10) rfl)) (ty := (.object "java/util/Set")) (by decide) rfl rfl ga_a (hb hby d3_12) (fun T h20 X W => ?_)
  have K0 := K0.wr W (Or.inl (by simp))
  have E_a := E_a.wr W
  have F_a_renamers := F_a_renamers.same W
  have F_a_deleters := F_a_deleters.other W (Or.inr (slot_ne (Or.inr (hw _ (List.mem_of_getElem? (i := 88) rfl))) (Or.inr (hw _ (List.mem_of_getElem? (i := 86) rfl))) (by decide) (t := (.object "java/util/Set")) (t' := (.object "java/util/Set")) (by decide) (by decide)))
  have F_a_converters := F_a_converters.other W (Or.inr (slot_ne (Or.inr (hw _ (List.mem_of_getElem? (i := 90) rfl))) (Or.inr (hw _ (List.mem_of_getElem? (i := 86) rfl))) (by decide) (t := (.object "java/util/Set")) (t' := (.object "java/util/Set")) (by decide) (by decide)))
  have E_b17 := E_b17.wr W
  show Goes _ _ _ _ _ _ _ _ T (mkF m 15 #[.val (.ref a)] [])
  refine Goes.by (g' := (mkF m 16 #[.val (.ref a)] [(.ref a)])) (fun _ q => XS.aloadN X.here X.hx rfl (hb hby d3_15) rfl rfl q) ?_
  refine X.newO (hw _ (List.mem_of_getElem? (i := 16) rfl)) (hw _ (List.mem_of_getElem? (i := 17) rfl)) (hw _ (List.mem_of_getElem? (i := 18) rfl)) (hb hby d3_16) (by decide) (by decide) (fun T h22 b21 X g_b21 ga_b21 E E_b21 D_b21 => ?_)
  have gz_b21 : h0.size ≤ b21 := by rw [g_b21]; exact K0.1
  have ne_a_b21 : a ≠ b21 := by rw [g_b21]; exact Nat.ne_of_lt E_a.lt
  have ne_b17_b21 : b17 ≠ b21 := by rw [g_b21]; exact Nat.ne_of_lt E_b17.lt
  have K0 := K0.ext E
  have E_a := E_a.ext E
  have F_a_renamers := F_a_renamers.ext E
  have F_a_deleters := F_a_deleters.ext E
  have F_a_converters := F_a_converters.ext E
  have E_b17 := E_b17.ext E
  have F_b21_map : Fld Z h22 b21 "java/util/HashSet" "map" "Ljava/util/HashMap;" .null := D_b21 (Or.inl (hw _ (List.mem_of_getElem? (i := 84) rfl))) (ty := (.object "java/util/HashMap")) (by decide)
  show Goes _ _ _ _ _ _ _ _ T (mkF m 19 #[.val (.ref a)] [(.ref b21), (.ref a)])
  refine Goes.by (g' := (mkF m 20 #[.val (.ref a)] [(.ref b21), (.ref b21), (.ref a)])) (fun _ q => XS.dup X.here X.hx rfl (hb hby d3_19) rfl rfl q) ?_
  have X_o := X
  refine X.callN rfl (hw _ (List.mem_of_getElem? (i := 19) rfl)) (hw _ (List.mem_of_getElem? (i := 20) rfl)) (hw _ (List.mem_of_getElem? (i := 18) rfl)) (hw _ (List.mem_of_getElem? (i := 21) rfl)) (by decide) pd_193421996 (argsL := []) rfl (rmLHS l Z a0 hw n0 h22 X.n0le b21 ga_b21 E_b21 F_b21_map) (by rw [hml]; rfl) rfl (by decide) (leB rfl) (hb hby d3_20) (by decide) (by decide) (fun T h23 v X hQ => ?_)
  obtain ⟨rfl, K⟩ := hQ
  have K0 := K0.trans K (allS (Or.inr gz_b21) all0)
  have E_a := E_a.keep K
  have F_a_renamers := F_a_renamers.keep K (ninS ne_a_b21 nin0)
  have F_a_deleters := F_a_deleters.keep K (ninS ne_a_b21 nin0)
  have F_a_converters := F_a_converters.keep K (ninS ne_a_b21 nin0)
  have E_b17 := E_b17.keep K
  have E_b21 := E_b21.keep K
  show Goes _ _ _ _ _ _ _ _ T (mkF m 23 #[.val (.ref a)] [(.ref b21), (.ref a)])
  refine X.putF (host := "") (Or.inl (hw _ (List.mem_of_getElem? (i := 87) rfl))) Via.refl F_a_deleters E_a (Or.inr ⟨(hw _ (List.mem_of_getElem? (i := 88) rfl)), rfl, hnm⟩) (hw _ (List.mem_of_getElem? (i := 10) rfl)) (ty := (.object "java/util/Set")) (by decide) rfl rfl ga_a (hb hby d3_23) (fun T h24 X W => ?_)
  have K0 := K0.wr W (Or.inl (by simp))
  have E_a := E_a.wr W
  have F_a_renamers := F_a_renamers.other W (Or.inr (slot_ne (Or.inr (hw _ (List.mem_of_getElem? (i := 86) rfl))) (Or.inr (hw _ (List.mem_of_getElem? (i := 88) rfl))) (by decide) (t := (.object "java/util/Set")) (t' := (.object "java/util/Set")) (by decide) (by decide)))
  have F_a_deleters := F_a_deleters.same W
  have F_a_converters := F_a_converters.other W (Or.inr (slot_ne (Or.inr (hw _ (List.mem_of_getElem? (i := 90) rfl))) (Or.inr (hw _ (List.mem_of_getElem? (i := 88) rfl))) (by decide) (t := (.object "java/util/Set")) (t' := (.object "java/util/Set")) (by decide) (by decide)))
  have E_b17 := E_b17.wr W
  have E_b21 := E_b21.wr W
  show Goes _ _ _ _ _ _ _ _ T (mkF m 26 #[.val (.ref a)] [])
  refine Goes.by (g' := (mkF m 27 #[.val (.ref a)] [(.ref a)])) (fun _ q => XS.aloadN X.here X.hx rfl (hb hby d3_26) rfl rfl q) ?_
  refine X.newO (hw _ (List.mem_of_getElem? (i := 16) rfl)) (hw _ (List.mem_of_getElem? (i := 17) rfl)) (hw _ (List.mem_of_getElem? (i := 18) rfl)) (hb hby d3_27) (by decide) (by decide) (fun T h26 b25 X g_b25 ga_b25 E E_b25 D_b25 => ?_)
  have gz_b25 : h0.size ≤ b25 := by rw [g_b25]; exact K0.1
  have ne_a_b25 : a ≠ b25 := by rw [g_b25]; exact Nat.ne_of_lt E_a.lt
  have ne_b17_b25 : b17 ≠ b25 := by rw [g_b25]; exact Nat.ne_of_lt E_b17.lt
  have ne_b21_b25 : b21 ≠ b25 := by rw [g_b25]; exact Nat.ne_of_lt E_b21.lt
  have K0 := K0.ext E
  have E_a := E_a.ext E
  have F_a_renamers := F_a_renamers.ext E
  have F_a_deleters := F_a_deleters.ext E
  have F_a_converters := F_a_converters.ext E
  have E_b17 := E_b17.ext E
  have E_b21 := E_b21.ext E
  have F_b25_map : Fld Z h26 b25 "java/util/HashSet" "map" "Ljava/util/HashMap;" .null := D_b25 (Or.inl (hw _ (List.mem_of_getElem? (i := 84) rfl))) (ty := (.object "java/util/HashMap")) (by decide)
  show Goes _ _ _ _ _ _ _ _ T (mkF m 30 #[.val (.ref a)] [(.ref b25), (.ref a)])
  refine Goes.by (g' := (mkF m 31 #[.val (.ref a)] [(.ref b25), (.ref b25), (.ref a)])) (fun _ q => XS.dup X.here X.hx rfl (hb hby d3_30) rfl rfl q) ?_
  have X_o := X
  refine X.callN rfl (hw _ (List.mem_of_getElem? (i := 19) rfl)) (hw _ (List.mem_of_getElem? (i := 20) rfl)) (hw _ (List.mem_of_getElem? (i := 18) rfl)) (hw _ (List.mem_of_getElem? (i := 21) rfl)) (by decide) pd_193421996 (argsL := []) rfl (rmLHS l Z a0 hw n0 h26 X.n0le b25 ga_b25 E_b25 F_b25_map) (by rw [hml]; rfl) rfl (by decide) (leB rfl) (hb hby d3_31) (by decide) (by decide) (fun T h27 v X hQ => ?_)
  obtain ⟨rfl, K⟩ := hQ
  have K0 := K0.trans K (allS (Or.inr gz_b25) all0)
  have E_a := E_a.keep K
  have F_a_renamers := F_a_renamers.keep K (ninS ne_a_b25 nin0)
  have F_a_deleters := F_a_deleters.keep K (ninS ne_a_b25 nin0)
  have F_a_converters := F_a_converters.keep K (ninS ne_a_b25 nin0)
  have E_b17 := E_b17.keep K
  have E_b21 := E_b21.keep K
  have E_b25 := E_b25.keep K
  show Goes _ _ _ _ _ _ _ _ T (mkF m 34 #[.val (.ref a)] [(.ref b25), (.ref a)])
  refine X.putF (host := "") (Or.inl (hw _ (List.mem_of_getElem? (i := 89) rfl))) Via.refl F_a_converters E_a (Or.inr ⟨(hw _ (List.mem_of_getElem? (i := 90) rfl)), rfl, hnm⟩) (hw _ (List.mem_of_getElem? (i := 10) rfl)) (ty := (.object "java/util/Set")) (by decide) rfl rfl ga_a (hb hby d3_34) (fun T h28 X W => ?_)
  have K0 := K0.wr W (Or.inl (by simp))
  have E_a := E_a.wr W
  have F_a_renamers := F_a_renamers.other W (Or.inr (slot_ne (Or.inr (hw _ (List.mem_of_getElem? (i := 86) rfl))) (Or.inr (hw _ (List.mem_of_getElem? (i := 90) rfl))) (by decide) (t := (.object "java/util/Set")) (t' := (.object "java/util/Set")) (by decide) (by decide)))
  have F_a_deleters := F_a_deleters.other W (Or.inr (slot_ne (Or.inr (hw _ (List.mem_of_getElem? (i := 88) rfl))) (Or.inr (hw _ (List.mem_of_getElem? (i := 90) rfl))) (by decide) (t := (.object "java/util/Set")) (t' := (.object "java/util/Set")) (by decide) (by decide)))
  have F_a_converters := F_a_converters.same W
  have E_b17 := E_b17.wr W
  have E_b21 := E_b21.wr W
  have E_b25 := E_b25.wr W
  show Goes _ _ _ _ _ _ _ _ T (mkF m 37 #[.val (.ref a)] [])
  exact X.retV hret (hb hby d3_37) (by decide) (by decide) ⟨rfl, K0⟩
set_option maxRecDepth 65536 in
set_option maxHeartbeats 40000000 in
theorem rmSC (l : Launch) (Z : State) (a0 : Array Value) (hw : ∀ d ∈ tables_1, d.before a0 Z = true) (n0 : Nat) (h0 : Heap) (hn0 : n0 ≤ h0.size) (a : Addr) (ga_a : n0 ≤ a) (E_a : Exa Z h0 a "com/example/hafiza/hafiza/StoreConfig") (F_a_mutations : Fld Z h0 a "com/example/hafiza/hafiza/StoreConfig" "mutations" "Lcom/example/hafiza/hafiza/Mutations;" .null) (F_a_durability : Fld Z h0 a "com/example/hafiza/hafiza/StoreConfig" "durability" "Lcom/example/hafiza/hafiza/Durability;" .null) (F_a_allowCreate : Fld Z h0 a "com/example/hafiza/hafiza/StoreConfig" "allowCreate" "Z" (.int (0 : Int32))) (a_WRITE : Addr) (S_WRITE : Sta Z Z.heap "com/example/hafiza/hafiza/Durability" "WRITE" "Lcom/example/hafiza/hafiza/Durability;" (.ref a_WRITE)) (O_ : Old Z n0 h0) :
    Met l Z n0 (⟨"com/example/hafiza/hafiza/StoreConfig", "<init>", "()V"⟩ : MethodName) prog_24_method_1_code 1 (Option.none : Option FieldType) ({ frames := 7, cells := 7, slots := 42, locals := 101 } : Room) #[(.ref a)] h0 (fun (v : Option Value) (h' : Heap) => v = none ∧ Keep h0 h' [a] ∧ ∃ mu, h0.size ≤ mu ∧ Exa Z h' mu "com/example/hafiza/hafiza/Mutations" ∧ Fld Z h' a "com/example/hafiza/hafiza/StoreConfig" "mutations" "Lcom/example/hafiza/hafiza/Mutations;" (.ref mu) ∧ Fld Z h' a "com/example/hafiza/hafiza/StoreConfig" "durability" "Lcom/example/hafiza/hafiza/Durability;" (.ref a_WRITE) ∧ Fld Z h' a "com/example/hafiza/hafiza/StoreConfig" "allowCreate" "Z" (.int 0)) := by
  refine metW (Q := fun (v : Option Value) (h' : Heap) => v = none ∧ Keep h0 h' [a] ∧ ∃ mu, h0.size ≤ mu ∧ Exa Z h' mu "com/example/hafiza/hafiza/Mutations" ∧ Fld Z h' a "com/example/hafiza/hafiza/StoreConfig" "mutations" "Lcom/example/hafiza/hafiza/Mutations;" (.ref mu) ∧ Fld Z h' a "com/example/hafiza/hafiza/StoreConfig" "durability" "Lcom/example/hafiza/hafiza/Durability;" (.ref a_WRITE) ∧ Fld Z h' a "com/example/hafiza/hafiza/StoreConfig" "allowCreate" "Z" (.int 0)) pf_1 hn0 ?_
  intro p e s m below meth c T X hby hml hret hnm
  refine Goes.by (g' := (mkF m 0 #[.val (.ref a)] [])) (fun _ q => castTop (by first | rfl | (simp [entryFrame, mkF, argsToLocals, Value.category]; done)) q) ?_
  have K0 := Keep.refl h0 [a]
  refine Goes.by (g' := (mkF m 1 #[.val (.ref a)] [(.ref a)])) (fun _ q => XS.aloadN X.here X.hx rfl (hb hby d1_0) rfl rfl q) ?_
  refine X.initO (hw _ (List.mem_of_getElem? (i := 6) rfl)) (hw _ (List.mem_of_getElem? (i := 7) rfl)) (hw _ (List.mem_of_getElem? (i := 8) rfl)) (by rw [hml]; rfl) (hb hby d1_1) (by decide) (leB rfl) (fun T X => ?_)
  show Goes _ _ _ _ _ _ _ _ T (mkF m 4 #[.val (.ref a)] [])
  refine Goes.by (g' := (mkF m 5 #[.val (.ref a)] [(.ref a)])) (fun _ q => XS.aloadN X.here X.hx rfl (hb hby d1_4) rfl rfl q) ?_
  refine X.newO (hw _ (List.mem_of_getElem? (i := 9) rfl)) (hw _ (List.mem_of_getElem? (i := 10) rfl)) (hw _ (List.mem_of_getElem? (i := 11) rfl)) (hb hby d1_5) (by decide) (by decide) (fun T h30 b29 X g_b29 ga_b29 E E_b29 D_b29 => ?_)
  have gz_b29 : h0.size ≤ b29 := by rw [g_b29]; exact K0.1
  have ne_a_b29 : a ≠ b29 := by rw [g_b29]; exact Nat.ne_of_lt E_a.lt
  have K0 := K0.ext E
  have E_a := E_a.ext E
  have F_a_mutations := F_a_mutations.ext E
  have F_a_durability := F_a_durability.ext E
  have F_a_allowCreate := F_a_allowCreate.ext E
  have O_ := O_.ext E
  have F_b29_renamers : Fld Z h30 b29 "com/example/hafiza/hafiza/Mutations" "renamers" "Ljava/util/Set;" .null := D_b29 (Or.inr (hw _ (List.mem_of_getElem? (i := 86) rfl))) (ty := (.object "java/util/Set")) (by decide)
  have F_b29_deleters : Fld Z h30 b29 "com/example/hafiza/hafiza/Mutations" "deleters" "Ljava/util/Set;" .null := D_b29 (Or.inr (hw _ (List.mem_of_getElem? (i := 88) rfl))) (ty := (.object "java/util/Set")) (by decide)
  have F_b29_converters : Fld Z h30 b29 "com/example/hafiza/hafiza/Mutations" "converters" "Ljava/util/Set;" .null := D_b29 (Or.inr (hw _ (List.mem_of_getElem? (i := 90) rfl))) (ty := (.object "java/util/Set")) (by decide)
  show Goes _ _ _ _ _ _ _ _ T (mkF m 8 #[.val (.ref a)] [(.ref b29), (.ref a)])
  refine Goes.by (g' := (mkF m 9 #[.val (.ref a)] [(.ref b29), (.ref b29), (.ref a)])) (fun _ q => XS.dup X.here X.hx rfl (hb hby d1_8) rfl rfl q) ?_
  have X_o := X
  refine X.callN rfl (hw _ (List.mem_of_getElem? (i := 12) rfl)) (hw _ (List.mem_of_getElem? (i := 13) rfl)) (hw _ (List.mem_of_getElem? (i := 11) rfl)) (hw _ (List.mem_of_getElem? (i := 14) rfl)) (by decide) pd_193421996 (argsL := []) rfl (rmMU l Z a0 hw n0 h30 X.n0le b29 ga_b29 E_b29 F_b29_renamers F_b29_deleters F_b29_converters) (by rw [hml]; rfl) rfl (by decide) (leB rfl) (hb hby d1_9) (by decide) (by decide) (fun T h31 v X hQ => ?_)
  obtain ⟨rfl, K⟩ := hQ
  have K0 := K0.trans K (allS (Or.inr gz_b29) all0)
  have E_a := E_a.keep K
  have F_a_mutations := F_a_mutations.keep K (ninS ne_a_b29 nin0)
  have F_a_durability := F_a_durability.keep K (ninS ne_a_b29 nin0)
  have F_a_allowCreate := F_a_allowCreate.keep K (ninS ne_a_b29 nin0)
  have O_ := O_.keep K (allS ga_b29 all0)
  have E_b29 := E_b29.keep K
  show Goes _ _ _ _ _ _ _ _ T (mkF m 12 #[.val (.ref a)] [(.ref b29), (.ref a)])
  refine X.putF (host := "") (Or.inl (hw _ (List.mem_of_getElem? (i := 91) rfl))) Via.refl F_a_mutations E_a (Or.inl (hw _ (List.mem_of_getElem? (i := 92) rfl))) (hw _ (List.mem_of_getElem? (i := 1) rfl)) (ty := (.object "com/example/hafiza/hafiza/Mutations")) (by decide) rfl rfl ga_a (hb hby d1_12) (fun T h32 X W => ?_)
  have K0 := K0.wr W (Or.inl (by simp))
  have E_a := E_a.wr W
  have F_a_mutations := F_a_mutations.same W
  have F_a_durability := F_a_durability.other W (Or.inr (slot_ne (Or.inl (hw _ (List.mem_of_getElem? (i := 97) rfl))) (Or.inl (hw _ (List.mem_of_getElem? (i := 92) rfl))) (by decide) (t := (.object "com/example/hafiza/hafiza/Durability")) (t' := (.object "com/example/hafiza/hafiza/Mutations")) (by decide) (by decide)))
  have F_a_allowCreate := F_a_allowCreate.other W (Or.inr (slot_ne (Or.inl (hw _ (List.mem_of_getElem? (i := 130) rfl))) (Or.inl (hw _ (List.mem_of_getElem? (i := 92) rfl))) (by decide) (t := .boolean) (t' := (.object "com/example/hafiza/hafiza/Mutations")) (by decide) (by decide)))
  have O_ := O_.wr W ga_a
  have E_b29 := E_b29.wr W
  show Goes _ _ _ _ _ _ _ _ T (mkF m 15 #[.val (.ref a)] [])
  refine Goes.by (g' := (mkF m 16 #[.val (.ref a)] [(.ref a)])) (fun _ q => XS.aloadN X.here X.hx rfl (hb hby d1_15) rfl rfl q) ?_
  refine X.getS (Or.inl (hw _ (List.mem_of_getElem? (i := 93) rfl))) (host := "") Via.refl (S_WRITE.ext O_.2) (hb hby d1_16) (fun T X => ?_)
  show Goes _ _ _ _ _ _ _ _ T (mkF m 19 #[.val (.ref a)] [(.ref a_WRITE), (.ref a)])
  refine X.putF (host := "") (Or.inl (hw _ (List.mem_of_getElem? (i := 96) rfl))) Via.refl F_a_durability E_a (Or.inl (hw _ (List.mem_of_getElem? (i := 97) rfl))) (hw _ (List.mem_of_getElem? (i := 1) rfl)) (ty := (.object "com/example/hafiza/hafiza/Durability")) (by decide) rfl rfl ga_a (hb hby d1_19) (fun T h33 X W => ?_)
  have K0 := K0.wr W (Or.inl (by simp))
  have E_a := E_a.wr W
  have F_a_mutations := F_a_mutations.other W (Or.inr (slot_ne (Or.inl (hw _ (List.mem_of_getElem? (i := 92) rfl))) (Or.inl (hw _ (List.mem_of_getElem? (i := 97) rfl))) (by decide) (t := (.object "com/example/hafiza/hafiza/Mutations")) (t' := (.object "com/example/hafiza/hafiza/Durability")) (by decide) (by decide)))
  have F_a_durability := F_a_durability.same W
  have F_a_allowCreate := F_a_allowCreate.other W (Or.inr (slot_ne (Or.inl (hw _ (List.mem_of_getElem? (i := 130) rfl))) (Or.inl (hw _ (List.mem_of_getElem? (i := 97) rfl))) (by decide) (t := .boolean) (t' := (.object "com/example/hafiza/hafiza/Durability")) (by decide) (by decide)))
  have O_ := O_.wr W ga_a
  have E_b29 := E_b29.wr W
  show Goes _ _ _ _ _ _ _ _ T (mkF m 22 #[.val (.ref a)] [])
  exact X.retV hret (hb hby d1_22) (by decide) (by decide) ⟨rfl, K0, b29, gz_b29, E_b29, F_a_mutations, F_a_durability, F_a_allowCreate⟩
set_option maxRecDepth 65536 in
set_option maxHeartbeats 40000000 in
theorem rmReq (l : Launch) (Z : State) (a0 : Array Value) (hw : ∀ d ∈ tables_1, d.before a0 Z = true) (n0 : Nat) (h0 : Heap) (hn0 : n0 ≤ h0.size) (o s2 : Addr) :
    Met l Z n0 (⟨"java/util/Objects", "requireNonNull", "(Ljava/lang/Object;Ljava/lang/String;)Ljava/lang/Object;"⟩ : MethodName) jdk_31_method_11_code 2 (Option.some (.object "java/lang/Object")) ({ frames := 0, cells := 0, slots := 0, locals := 0 } : Room) #[(.ref o), (.ref s2)] h0 (fun (v : Option Value) (h' : Heap) => v = some (.ref o) ∧ h' = h0) := by
  refine metW (Q := fun (v : Option Value) (h' : Heap) => v = some (.ref o) ∧ h' = h0) pf_16 hn0 ?_
  intro p e s m below meth c T X hby hml hret hnm
  refine Goes.by (g' := (mkF m 0 #[.val (.ref o), .val (.ref s2)] [])) (fun _ q => castTop (by first | rfl | (simp [entryFrame, mkF, argsToLocals, Value.category]; done)) q) ?_
  refine Goes.by (g' := (mkF m 1 #[.val (.ref o), .val (.ref s2)] [(.ref o)])) (fun _ q => XS.aloadN X.here X.hx rfl (hb hby d16_0) rfl rfl q) ?_
  refine Goes.by (g' := (mkF m 13 #[.val (.ref o), .val (.ref s2)] [])) (fun _ q => XS.ifnonnullYes X.here X.hx rfl (pc0 := 1) (pc' := 13) rfl (hb hby d16_1) rfl (by decide) (by decide) q) ?_
  refine Goes.by (g' := (mkF m 14 #[.val (.ref o), .val (.ref s2)] [(.ref o)])) (fun _ q => XS.aloadN X.here X.hx rfl (hb hby d16_13) rfl rfl q) ?_
  exact X.retA hret rfl rfl (hb hby d16_14) (by decide) (by decide) ⟨rfl, rfl⟩
set_option maxRecDepth 65536 in
set_option maxHeartbeats 40000000 in
theorem rm_getMutations (l : Launch) (Z : State) (a0 : Array Value) (hw : ∀ d ∈ tables_1, d.before a0 Z = true) (n0 : Nat) (h0 : Heap) (hn0 : n0 ≤ h0.size) (a x : Addr) (F : Fld Z h0 a "com/example/hafiza/hafiza/StoreConfig" "mutations" "Lcom/example/hafiza/hafiza/Mutations;" (.ref x)) :
    Met l Z n0 (⟨"com/example/hafiza/hafiza/StoreConfig", "getMutations", "()Lcom/example/hafiza/hafiza/Mutations;"⟩ : MethodName) prog_24_method_7_code 1 (Option.some (.object "com/example/hafiza/hafiza/Mutations")) ({ frames := 0, cells := 0, slots := 0, locals := 0 } : Room) #[(.ref a)] h0 (fun (v : Option Value) (h' : Heap) => v = some (.ref x) ∧ h' = h0) := by
  refine metW (Q := fun (v : Option Value) (h' : Heap) => v = some (.ref x) ∧ h' = h0) pf_14 hn0 ?_
  intro p e s m below meth c T X hby hml hret hnm
  refine Goes.by (g' := (mkF m 0 #[.val (.ref a)] [])) (fun _ q => castTop (by first | rfl | (simp [entryFrame, mkF, argsToLocals, Value.category]; done)) q) ?_
  refine Goes.by (g' := (mkF m 1 #[.val (.ref a)] [(.ref a)])) (fun _ q => XS.aloadN X.here X.hx rfl (hb hby d14_0) rfl rfl q) ?_
  refine X.getF (host := "") (Or.inl (hw _ (List.mem_of_getElem? (i := 91) rfl))) Via.refl F (hb hby d14_1) (fun T X => ?_)
  show Goes _ _ _ _ _ _ _ _ T (mkF m 4 #[.val (.ref a)] [(.ref x)])
  exact X.retA hret rfl rfl (hb hby d14_4) (by decide) (by decide) ⟨rfl, rfl⟩
set_option maxRecDepth 65536 in
set_option maxHeartbeats 40000000 in
theorem rm_getDurability (l : Launch) (Z : State) (a0 : Array Value) (hw : ∀ d ∈ tables_1, d.before a0 Z = true) (n0 : Nat) (h0 : Heap) (hn0 : n0 ≤ h0.size) (a x : Addr) (F : Fld Z h0 a "com/example/hafiza/hafiza/StoreConfig" "durability" "Lcom/example/hafiza/hafiza/Durability;" (.ref x)) :
    Met l Z n0 (⟨"com/example/hafiza/hafiza/StoreConfig", "getDurability", "()Lcom/example/hafiza/hafiza/Durability;"⟩ : MethodName) prog_24_method_9_code 1 (Option.some (.object "com/example/hafiza/hafiza/Durability")) ({ frames := 0, cells := 0, slots := 0, locals := 0 } : Room) #[(.ref a)] h0 (fun (v : Option Value) (h' : Heap) => v = some (.ref x) ∧ h' = h0) := by
  refine metW (Q := fun (v : Option Value) (h' : Heap) => v = some (.ref x) ∧ h' = h0) pf_18 hn0 ?_
  intro p e s m below meth c T X hby hml hret hnm
  refine Goes.by (g' := (mkF m 0 #[.val (.ref a)] [])) (fun _ q => castTop (by first | rfl | (simp [entryFrame, mkF, argsToLocals, Value.category]; done)) q) ?_
  refine Goes.by (g' := (mkF m 1 #[.val (.ref a)] [(.ref a)])) (fun _ q => XS.aloadN X.here X.hx rfl (hb hby d18_0) rfl rfl q) ?_
  refine X.getF (host := "") (Or.inl (hw _ (List.mem_of_getElem? (i := 96) rfl))) Via.refl F (hb hby d18_1) (fun T X => ?_)
  show Goes _ _ _ _ _ _ _ _ T (mkF m 4 #[.val (.ref a)] [(.ref x)])
  exact X.retA hret rfl rfl (hb hby d18_4) (by decide) (by decide) ⟨rfl, rfl⟩
set_option maxRecDepth 65536 in
set_option maxHeartbeats 40000000 in
theorem rm_setMutations (l : Launch) (Z : State) (a0 : Array Value) (hw : ∀ d ∈ tables_1, d.before a0 Z = true) (n0 : Nat) (h0 : Heap) (hn0 : n0 ≤ h0.size) (a x : Addr) (old : Value) (ga_a : n0 ≤ a) (E_a : Exa Z h0 a "com/example/hafiza/hafiza/StoreConfig") (E_x : Exa Z h0 x "com/example/hafiza/hafiza/Mutations") (F_a_mutations : Fld Z h0 a "com/example/hafiza/hafiza/StoreConfig" "mutations" "Lcom/example/hafiza/hafiza/Mutations;" old) (u_durability : Value) (F_a_durability : Fld Z h0 a "com/example/hafiza/hafiza/StoreConfig" "durability" "Lcom/example/hafiza/hafiza/Durability;" u_durability) (u_allowCreate : Value) (F_a_allowCreate : Fld Z h0 a "com/example/hafiza/hafiza/StoreConfig" "allowCreate" "Z" u_allowCreate) :
    Met l Z n0 (⟨"com/example/hafiza/hafiza/StoreConfig", "setMutations", "(Lcom/example/hafiza/hafiza/Mutations;)V"⟩ : MethodName) prog_24_method_6_code 2 (Option.none : Option FieldType) ({ frames := 1, cells := 2, slots := 40, locals := 14 } : Room) #[(.ref a), (.ref x)] h0 (fun (v : Option Value) (h' : Heap) => v = none ∧ Keep h0 h' [a] ∧ Fld Z h' a "com/example/hafiza/hafiza/StoreConfig" "mutations" "Lcom/example/hafiza/hafiza/Mutations;" (.ref x) ∧ Fld Z h' a "com/example/hafiza/hafiza/StoreConfig" "durability" "Lcom/example/hafiza/hafiza/Durability;" u_durability ∧ Fld Z h' a "com/example/hafiza/hafiza/StoreConfig" "allowCreate" "Z" u_allowCreate) := by
  refine metW (Q := fun (v : Option Value) (h' : Heap) => v = none ∧ Keep h0 h' [a] ∧ Fld Z h' a "com/example/hafiza/hafiza/StoreConfig" "mutations" "Lcom/example/hafiza/hafiza/Mutations;" (.ref x) ∧ Fld Z h' a "com/example/hafiza/hafiza/StoreConfig" "durability" "Lcom/example/hafiza/hafiza/Durability;" u_durability ∧ Fld Z h' a "com/example/hafiza/hafiza/StoreConfig" "allowCreate" "Z" u_allowCreate) pf_15 hn0 ?_
  intro p e s m below meth c T X hby hml hret hnm
  refine Goes.by (g' := (mkF m 0 #[.val (.ref a), .val (.ref x)] [])) (fun _ q => castTop (by first | rfl | (simp [entryFrame, mkF, argsToLocals, Value.category]; done)) q) ?_
  have K0 := Keep.refl h0 [a]
  have wS : ∀ d ∈ Bundle.stringAtoms, d.before a0 Z = true := fun d hd => hw d (strAtoms d hd)
  refine Goes.by (g' := (mkF m 1 #[.val (.ref a), .val (.ref x)] [(.ref a)])) (fun _ q => XS.aloadN X.here X.hx rfl (hb hby d15_0) rfl rfl q) ?_
  refine Goes.by (g' := (mkF m 2 #[.val (.ref a), .val (.ref x)] [(.ref x), (.ref a)])) (fun _ q => XS.aloadN X.here X.hx rfl (hb hby d15_1) rfl rfl q) ?_
  refine X.ldcS (hw _ (List.mem_of_getElem? (i := 110) rfl)) wS (hb hby d15_2) (n' := 36) (by decide) (by decide) (by decide) (by decide) (fun T h35 str34 X E => ?_)
  have K0 := K0.ext E
  have E_a := E_a.ext E
  have F_a_mutations := F_a_mutations.ext E
  have F_a_durability := F_a_durability.ext E
  have F_a_allowCreate := F_a_allowCreate.ext E
  have E_x := E_x.ext E
  show Goes _ _ _ _ _ _ _ _ T (mkF m 4 #[.val (.ref a), .val (.ref x)] [(.ref str34), (.ref x), (.ref a)])
  have X_o := X
  refine X.callS (hw _ (List.mem_of_getElem? (i := 118) rfl)) (hw _ (List.mem_of_getElem? (i := 119) rfl)) (hw _ (List.mem_of_getElem? (i := 120) rfl)) (hw _ (List.mem_of_getElem? (i := 121) rfl)) (by decide) pd_3946442454 (argsL := [(.ref x), (.ref str34)]) rfl (rmReq l Z a0 hw n0 h35 X.n0le x str34) (by rw [hml]; rfl) rfl (by decide) (leB rfl) (hb hby d15_4) (by decide) (by decide) (fun T h36 v X hQ => ?_)
  obtain ⟨rfl, hh⟩ := hQ
  rw [hh] at X
  clear hh
  show Goes _ _ _ _ _ _ _ _ T (mkF m 7 #[.val (.ref a), .val (.ref x)] [(.ref x), (.ref a)])
  refine X.castY (hw _ (List.mem_of_getElem? (i := 9) rfl)) (Ins.self E_x) (hb hby d15_7) (fun T X => ?_)
  show Goes _ _ _ _ _ _ _ _ T (mkF m 10 #[.val (.ref a), .val (.ref x)] [(.ref x), (.ref a)])
  refine X.putF (host := "") (Or.inl (hw _ (List.mem_of_getElem? (i := 91) rfl))) Via.refl F_a_mutations E_a (Or.inl (hw _ (List.mem_of_getElem? (i := 92) rfl))) (hw _ (List.mem_of_getElem? (i := 1) rfl)) (ty := (.object "com/example/hafiza/hafiza/Mutations")) (by decide) rfl rfl ga_a (hb hby d15_10) (fun T h37 X W => ?_)
  have K0 := K0.wr W (Or.inl (by simp))
  have E_a := E_a.wr W
  have F_a_mutations := F_a_mutations.same W
  have F_a_durability := F_a_durability.other W (Or.inr (slot_ne (Or.inl (hw _ (List.mem_of_getElem? (i := 97) rfl))) (Or.inl (hw _ (List.mem_of_getElem? (i := 92) rfl))) (by decide) (t := (.object "com/example/hafiza/hafiza/Durability")) (t' := (.object "com/example/hafiza/hafiza/Mutations")) (by decide) (by decide)))
  have F_a_allowCreate := F_a_allowCreate.other W (Or.inr (slot_ne (Or.inl (hw _ (List.mem_of_getElem? (i := 130) rfl))) (Or.inl (hw _ (List.mem_of_getElem? (i := 92) rfl))) (by decide) (t := .boolean) (t' := (.object "com/example/hafiza/hafiza/Mutations")) (by decide) (by decide)))
  have E_x := E_x.wr W
  show Goes _ _ _ _ _ _ _ _ T (mkF m 13 #[.val (.ref a), .val (.ref x)] [])
  exact X.retV hret (hb hby d15_13) (by decide) (by decide) ⟨rfl, K0, F_a_mutations, F_a_durability, F_a_allowCreate⟩
set_option maxRecDepth 65536 in
set_option maxHeartbeats 40000000 in
theorem rm_setDurability (l : Launch) (Z : State) (a0 : Array Value) (hw : ∀ d ∈ tables_1, d.before a0 Z = true) (n0 : Nat) (h0 : Heap) (hn0 : n0 ≤ h0.size) (a x : Addr) (old : Value) (ga_a : n0 ≤ a) (E_a : Exa Z h0 a "com/example/hafiza/hafiza/StoreConfig") (E_x : Exa Z h0 x "com/example/hafiza/hafiza/Durability") (F_a_durability : Fld Z h0 a "com/example/hafiza/hafiza/StoreConfig" "durability" "Lcom/example/hafiza/hafiza/Durability;" old) (u_mutations : Value) (F_a_mutations : Fld Z h0 a "com/example/hafiza/hafiza/StoreConfig" "mutations" "Lcom/example/hafiza/hafiza/Mutations;" u_mutations) (u_allowCreate : Value) (F_a_allowCreate : Fld Z h0 a "com/example/hafiza/hafiza/StoreConfig" "allowCreate" "Z" u_allowCreate) :
    Met l Z n0 (⟨"com/example/hafiza/hafiza/StoreConfig", "setDurability", "(Lcom/example/hafiza/hafiza/Durability;)V"⟩ : MethodName) prog_24_method_8_code 2 (Option.none : Option FieldType) ({ frames := 1, cells := 2, slots := 44, locals := 14 } : Room) #[(.ref a), (.ref x)] h0 (fun (v : Option Value) (h' : Heap) => v = none ∧ Keep h0 h' [a] ∧ Fld Z h' a "com/example/hafiza/hafiza/StoreConfig" "durability" "Lcom/example/hafiza/hafiza/Durability;" (.ref x) ∧ Fld Z h' a "com/example/hafiza/hafiza/StoreConfig" "mutations" "Lcom/example/hafiza/hafiza/Mutations;" u_mutations ∧ Fld Z h' a "com/example/hafiza/hafiza/StoreConfig" "allowCreate" "Z" u_allowCreate) := by
  refine metW (Q := fun (v : Option Value) (h' : Heap) => v = none ∧ Keep h0 h' [a] ∧ Fld Z h' a "com/example/hafiza/hafiza/StoreConfig" "durability" "Lcom/example/hafiza/hafiza/Durability;" (.ref x) ∧ Fld Z h' a "com/example/hafiza/hafiza/StoreConfig" "mutations" "Lcom/example/hafiza/hafiza/Mutations;" u_mutations ∧ Fld Z h' a "com/example/hafiza/hafiza/StoreConfig" "allowCreate" "Z" u_allowCreate) pf_20 hn0 ?_
  intro p e s m below meth c T X hby hml hret hnm
  refine Goes.by (g' := (mkF m 0 #[.val (.ref a), .val (.ref x)] [])) (fun _ q => castTop (by first | rfl | (simp [entryFrame, mkF, argsToLocals, Value.category]; done)) q) ?_
  have K0 := Keep.refl h0 [a]
  have wS : ∀ d ∈ Bundle.stringAtoms, d.before a0 Z = true := fun d hd => hw d (strAtoms d hd)
  refine Goes.by (g' := (mkF m 1 #[.val (.ref a), .val (.ref x)] [(.ref a)])) (fun _ q => XS.aloadN X.here X.hx rfl (hb hby d20_0) rfl rfl q) ?_
  refine Goes.by (g' := (mkF m 2 #[.val (.ref a), .val (.ref x)] [(.ref x), (.ref a)])) (fun _ q => XS.aloadN X.here X.hx rfl (hb hby d20_1) rfl rfl q) ?_
  refine X.ldcS (hw _ (List.mem_of_getElem? (i := 148) rfl)) wS (hb hby d20_2) (n' := 40) (by decide) (by decide) (by decide) (by decide) (fun T h39 str38 X E => ?_)
  have K0 := K0.ext E
  have E_a := E_a.ext E
  have F_a_durability := F_a_durability.ext E
  have F_a_mutations := F_a_mutations.ext E
  have F_a_allowCreate := F_a_allowCreate.ext E
  have E_x := E_x.ext E
  show Goes _ _ _ _ _ _ _ _ T (mkF m 4 #[.val (.ref a), .val (.ref x)] [(.ref str38), (.ref x), (.ref a)])
  have X_o := X
  refine X.callS (hw _ (List.mem_of_getElem? (i := 118) rfl)) (hw _ (List.mem_of_getElem? (i := 119) rfl)) (hw _ (List.mem_of_getElem? (i := 120) rfl)) (hw _ (List.mem_of_getElem? (i := 121) rfl)) (by decide) pd_3946442454 (argsL := [(.ref x), (.ref str38)]) rfl (rmReq l Z a0 hw n0 h39 X.n0le x str38) (by rw [hml]; rfl) rfl (by decide) (leB rfl) (hb hby d20_4) (by decide) (by decide) (fun T h40 v X hQ => ?_)
  obtain ⟨rfl, hh⟩ := hQ
  rw [hh] at X
  clear hh
  show Goes _ _ _ _ _ _ _ _ T (mkF m 7 #[.val (.ref a), .val (.ref x)] [(.ref x), (.ref a)])
  refine X.castY (hw _ (List.mem_of_getElem? (i := 149) rfl)) (Ins.self E_x) (hb hby d20_7) (fun T X => ?_)
  show Goes _ _ _ _ _ _ _ _ T (mkF m 10 #[.val (.ref a), .val (.ref x)] [(.ref x), (.ref a)])
  refine X.putF (host := "") (Or.inl (hw _ (List.mem_of_getElem? (i := 96) rfl))) Via.refl F_a_durability E_a (Or.inl (hw _ (List.mem_of_getElem? (i := 97) rfl))) (hw _ (List.mem_of_getElem? (i := 1) rfl)) (ty := (.object "com/example/hafiza/hafiza/Durability")) (by decide) rfl rfl ga_a (hb hby d20_10) (fun T h41 X W => ?_)
  have K0 := K0.wr W (Or.inl (by simp))
  have E_a := E_a.wr W
  have F_a_durability := F_a_durability.same W
  have F_a_mutations := F_a_mutations.other W (Or.inr (slot_ne (Or.inl (hw _ (List.mem_of_getElem? (i := 92) rfl))) (Or.inl (hw _ (List.mem_of_getElem? (i := 97) rfl))) (by decide) (t := (.object "com/example/hafiza/hafiza/Mutations")) (t' := (.object "com/example/hafiza/hafiza/Durability")) (by decide) (by decide)))
  have F_a_allowCreate := F_a_allowCreate.other W (Or.inr (slot_ne (Or.inl (hw _ (List.mem_of_getElem? (i := 130) rfl))) (Or.inl (hw _ (List.mem_of_getElem? (i := 97) rfl))) (by decide) (t := .boolean) (t' := (.object "com/example/hafiza/hafiza/Durability")) (by decide) (by decide)))
  have E_x := E_x.wr W
  show Goes _ _ _ _ _ _ _ _ T (mkF m 13 #[.val (.ref a), .val (.ref x)] [])
  exact X.retV hret (hb hby d20_13) (by decide) (by decide) ⟨rfl, K0, F_a_durability, F_a_mutations, F_a_allowCreate⟩
set_option maxRecDepth 65536 in
set_option maxHeartbeats 40000000 in
theorem rm_getAllowCreate (l : Launch) (Z : State) (a0 : Array Value) (hw : ∀ d ∈ tables_1, d.before a0 Z = true) (n0 : Nat) (h0 : Heap) (hn0 : n0 ≤ h0.size) (a : Addr) (x : Int32) (hx01 : x &&& 1 = x) (F : Fld Z h0 a "com/example/hafiza/hafiza/StoreConfig" "allowCreate" "Z" (.int x)) :
    Met l Z n0 (⟨"com/example/hafiza/hafiza/StoreConfig", "getAllowCreate", "()Z"⟩ : MethodName) prog_24_method_3_code 1 (Option.some .boolean) ({ frames := 0, cells := 0, slots := 0, locals := 0 } : Room) #[(.ref a)] h0 (fun (v : Option Value) (h' : Heap) => v = some (.int x) ∧ h' = h0) := by
  refine metW (Q := fun (v : Option Value) (h' : Heap) => v = some (.int x) ∧ h' = h0) pf_17 hn0 ?_
  intro p e s m below meth c T X hby hml hret hnm
  refine Goes.by (g' := (mkF m 0 #[.val (.ref a)] [])) (fun _ q => castTop (by first | rfl | (simp [entryFrame, mkF, argsToLocals, Value.category]; done)) q) ?_
  refine Goes.by (g' := (mkF m 1 #[.val (.ref a)] [(.ref a)])) (fun _ q => XS.aloadN X.here X.hx rfl (hb hby d17_0) rfl rfl q) ?_
  refine X.getF (host := "") (Or.inl (hw _ (List.mem_of_getElem? (i := 129) rfl))) Via.refl F (hb hby d17_1) (fun T X => ?_)
  show Goes _ _ _ _ _ _ _ _ T (mkF m 4 #[.val (.ref a)] [(.int x)])
  exact X.retZ hret (hb hby d17_4) (by decide) (by decide) ⟨by show some (Value.int (x &&& 1)) = _; rw [hx01], rfl⟩
set_option maxRecDepth 65536 in
set_option maxHeartbeats 40000000 in
theorem rm_setAllowCreate (l : Launch) (Z : State) (a0 : Array Value) (hw : ∀ d ∈ tables_1, d.before a0 Z = true) (n0 : Nat) (h0 : Heap) (hn0 : n0 ≤ h0.size) (a : Addr) (old : Value) (ga_a : n0 ≤ a) (E_a : Exa Z h0 a "com/example/hafiza/hafiza/StoreConfig")  (F_a_allowCreate : Fld Z h0 a "com/example/hafiza/hafiza/StoreConfig" "allowCreate" "Z" old) (u_mutations : Value) (F_a_mutations : Fld Z h0 a "com/example/hafiza/hafiza/StoreConfig" "mutations" "Lcom/example/hafiza/hafiza/Mutations;" u_mutations) (u_durability : Value) (F_a_durability : Fld Z h0 a "com/example/hafiza/hafiza/StoreConfig" "durability" "Lcom/example/hafiza/hafiza/Durability;" u_durability) :
    Met l Z n0 (⟨"com/example/hafiza/hafiza/StoreConfig", "setAllowCreate", "(Z)V"⟩ : MethodName) prog_24_method_2_code 2 (Option.none : Option FieldType) ({ frames := 0, cells := 0, slots := 0, locals := 0 } : Room) #[(.ref a), (.int (1 : Int32))] h0 (fun (v : Option Value) (h' : Heap) => v = none ∧ Keep h0 h' [a] ∧ Fld Z h' a "com/example/hafiza/hafiza/StoreConfig" "allowCreate" "Z" (.int 1) ∧ Fld Z h' a "com/example/hafiza/hafiza/StoreConfig" "mutations" "Lcom/example/hafiza/hafiza/Mutations;" u_mutations ∧ Fld Z h' a "com/example/hafiza/hafiza/StoreConfig" "durability" "Lcom/example/hafiza/hafiza/Durability;" u_durability) := by
  refine metW (Q := fun (v : Option Value) (h' : Heap) => v = none ∧ Keep h0 h' [a] ∧ Fld Z h' a "com/example/hafiza/hafiza/StoreConfig" "allowCreate" "Z" (.int 1) ∧ Fld Z h' a "com/example/hafiza/hafiza/StoreConfig" "mutations" "Lcom/example/hafiza/hafiza/Mutations;" u_mutations ∧ Fld Z h' a "com/example/hafiza/hafiza/StoreConfig" "durability" "Lcom/example/hafiza/hafiza/Durability;" u_durability) pf_19 hn0 ?_
  intro p e s m below meth c T X hby hml hret hnm
  refine Goes.by (g' := (mkF m 0 #[.val (.ref a), .val (.int (1 : Int32))] [])) (fun _ q => castTop (by first | rfl | (simp [entryFrame, mkF, argsToLocals, Value.category]; done)) q) ?_
  have K0 := Keep.refl h0 [a]
  refine Goes.by (g' := (mkF m 1 #[.val (.ref a), .val (.int (1 : Int32))] [(.ref a)])) (fun _ q => XS.aloadN X.here X.hx rfl (hb hby d19_0) rfl rfl q) ?_
  refine Goes.by (g' := (mkF m 2 #[.val (.ref a), .val (.int (1 : Int32))] [(.int (1 : Int32)), (.ref a)])) (fun _ q => XS.iloadN X.here X.hx rfl (hb hby d19_1) rfl q) ?_
  refine X.putF (host := "") (Or.inl (hw _ (List.mem_of_getElem? (i := 129) rfl))) Via.refl F_a_allowCreate E_a (Or.inl (hw _ (List.mem_of_getElem? (i := 130) rfl))) (hw _ (List.mem_of_getElem? (i := 1) rfl)) (ty := .boolean) (by decide) rfl rfl ga_a (hb hby d19_2) (fun T h42 X W => ?_)
  have K0 := K0.wr W (Or.inl (by simp))
  have E_a := E_a.wr W
  have F_a_allowCreate := F_a_allowCreate.same W
  have F_a_mutations := F_a_mutations.other W (Or.inr (slot_ne (Or.inl (hw _ (List.mem_of_getElem? (i := 92) rfl))) (Or.inl (hw _ (List.mem_of_getElem? (i := 130) rfl))) (by decide) (t := (.object "com/example/hafiza/hafiza/Mutations")) (t' := .boolean) (by decide) (by decide)))
  have F_a_durability := F_a_durability.other W (Or.inr (slot_ne (Or.inl (hw _ (List.mem_of_getElem? (i := 97) rfl))) (Or.inl (hw _ (List.mem_of_getElem? (i := 130) rfl))) (by decide) (t := (.object "com/example/hafiza/hafiza/Durability")) (t' := .boolean) (by decide) (by decide)))
  show Goes _ _ _ _ _ _ _ _ T (mkF m 5 #[.val (.ref a), .val (.int (1 : Int32))] [])
  exact X.retV hret (hb hby d19_5) (by decide) (by decide) ⟨rfl, K0, F_a_allowCreate, F_a_mutations, F_a_durability⟩
set_option maxRecDepth 65536 in
set_option maxHeartbeats 40000000 in
theorem rm0 (l : Launch) (Z : State) (a0 : Array Value) (hw : ∀ d ∈ tables_1, d.before a0 Z = true) (n0 : Nat) (h0 : Heap) (hn0 : n0 ≤ h0.size) (ws : List Jvm.Cond) (p0 : Int32) (a_WRITE : Addr) (S_WRITE : Sta Z Z.heap "com/example/hafiza/hafiza/Durability" "WRITE" "Lcom/example/hafiza/hafiza/Durability;" (.ref a_WRITE)) (E_WRITE : Exa Z Z.heap a_WRITE "com/example/hafiza/hafiza/Durability") (a_FORCE : Addr) (S_FORCE : Sta Z Z.heap "com/example/hafiza/hafiza/Durability" "FORCE" "Lcom/example/hafiza/hafiza/Durability;" (.ref a_FORCE)) (E_FORCE : Exa Z Z.heap a_FORCE "com/example/hafiza/hafiza/Durability") (O_ : Old Z n0 h0) :
    MetFree l x (head1 (Jvm.Cond.code x code maxLocals ret :: ws) room_1) (fun a U => a = #[(.int p0)] ∧ Z.Warmed39 U.vm ∧ U.heap = h0) (fun _ _ _ _ _ => True) (fun _ U o U' => ∃ v L, o = .returned v ∧ (Fr n0 L ∧ (fun (v : Option Value) (h' : Heap) => v = some (.int 1)) v U'.heap) ∧ EndF U o U' L room_1.cells room_1.slots) := by
  refine metW (Q := fun (v : Option Value) (h' : Heap) => v = some (.int 1)) pf_0 hn0 ?_
  intro p e s m below meth c T X hby hml hret hnm
  refine Goes.by (g' := (mkF m 0 #[.val (.int p0), .unset, .unset, .unset, .unset, .unset, .unset, .unset, .unset, .unset, .unset, .unset, .unset] [])) (fun _ q => castTop (by first | rfl | (simp [entryFrame, mkF, argsToLocals, Value.category, maxLocals]; done)) q) ?_
  refine Goes.by (g' := (mkF m 1 #[.val (.int p0), .unset, .unset, .unset, .unset, .unset, .unset, .unset, .unset, .unset, .unset, .unset, .unset] [(.int p0)])) (fun _ q => XS.iloadN X.here X.hx rfl (hb hby at_0) rfl q) ?_
  refine Goes.by (g' := (mkF m 2 #[.val (.int p0), .unset, .unset, .unset, .unset, .unset, .unset, .unset, .unset, .unset, .unset, .unset, .unset] [(.int (1 : Int32)), (.int p0)])) (fun _ q => XS.iconst X.here X.hx rfl (hb hby at_1) q) ?_
  refine Goes.by (g' := (mkF m 3 #[.val (.int p0), .unset, .unset, .unset, .unset, .unset, .unset, .unset, .unset, .unset, .unset, .unset, .unset] [(.int (p0 &&& (1 : Int32)))])) (fun _ q => XS.iand X.here X.hx rfl (hb hby at_2) rfl q) ?_
  by_cases hB43 : (p0 &&& (1 : Int32)) = (0 : Int32)
  · skip
    refine Goes.by (g' := (mkF m 10 #[.val (.int p0), .unset, .unset, .unset, .unset, .unset, .unset, .unset, .unset, .unset, .unset, .unset, .unset] [])) (fun _ q => XS.ifYes X.here X.hx rfl (pc0 := 3) (pc' := 10) rfl (hb hby at_3) rfl ((if0 _ _).trans (teq hB43).1) (by decide) (by decide) q) ?_
    refine Goes.by (g' := (mkF m 11 #[.val (.int p0), .unset, .unset, .unset, .unset, .unset, .unset, .unset, .unset, .unset, .unset, .unset, .unset] [(.int (0 : Int32))])) (fun _ q => XS.iconst X.here X.hx rfl (hb hby at_10) q) ?_
    refine Goes.by (g' := (mkF m 12 #[.val (.int p0), .val (.int (0 : Int32)), .unset, .unset, .unset, .unset, .unset, .unset, .unset, .unset, .unset, .unset, .unset] [])) (fun _ q => XS.istoreN X.here X.hx rfl (hb hby at_11) rfl (l' := #[.val (.int p0), .val (.int (0 : Int32)), .unset, .unset, .unset, .unset, .unset, .unset, .unset, .unset, .unset, .unset, .unset]) rfl q) ?_
    refine Goes.by (g' := (mkF m 13 #[.val (.int p0), .val (.int (0 : Int32)), .unset, .unset, .unset, .unset, .unset, .unset, .unset, .unset, .unset, .unset, .unset] [(.int p0)])) (fun _ q => XS.iloadN X.here X.hx rfl (hb hby at_12) rfl q) ?_
    refine Goes.by (g' := (mkF m 14 #[.val (.int p0), .val (.int (0 : Int32)), .unset, .unset, .unset, .unset, .unset, .unset, .unset, .unset, .unset, .unset, .unset] [(.int (2 : Int32)), (.int p0)])) (fun _ q => XS.iconst X.here X.hx rfl (hb hby at_13) q) ?_
    refine Goes.by (g' := (mkF m 15 #[.val (.int p0), .val (.int (0 : Int32)), .unset, .unset, .unset, .unset, .unset, .unset, .unset, .unset, .unset, .unset, .unset] [(.int (p0 &&& (2 : Int32)))])) (fun _ q => XS.iand X.here X.hx rfl (hb hby at_14) rfl q) ?_
    by_cases hB44 : (p0 &&& (2 : Int32)) = (0 : Int32)
    · skip
      refine Goes.by (g' := (mkF m 22 #[.val (.int p0), .val (.int (0 : Int32)), .unset, .unset, .unset, .unset, .unset, .unset, .unset, .unset, .unset, .unset, .unset] [])) (fun _ q => XS.ifYes X.here X.hx rfl (pc0 := 15) (pc' := 22) rfl (hb hby at_15) rfl ((if0 _ _).trans (teq hB44).1) (by decide) (by decide) q) ?_
      refine Goes.by (g' := (mkF m 23 #[.val (.int p0), .val (.int (0 : Int32)), .unset, .unset, .unset, .unset, .unset, .unset, .unset, .unset, .unset, .unset, .unset] [(.int (0 : Int32))])) (fun _ q => XS.iconst X.here X.hx rfl (hb hby at_22) q) ?_
      refine Goes.by (g' := (mkF m 24 #[.val (.int p0), .val (.int (0 : Int32)), .val (.int (0 : Int32)), .unset, .unset, .unset, .unset, .unset, .unset, .unset, .unset, .unset, .unset] [])) (fun _ q => XS.istoreN X.here X.hx rfl (hb hby at_23) rfl (l' := #[.val (.int p0), .val (.int (0 : Int32)), .val (.int (0 : Int32)), .unset, .unset, .unset, .unset, .unset, .unset, .unset, .unset, .unset, .unset]) rfl q) ?_
      refine Goes.by (g' := (mkF m 25 #[.val (.int p0), .val (.int (0 : Int32)), .val (.int (0 : Int32)), .unset, .unset, .unset, .unset, .unset, .unset, .unset, .unset, .unset, .unset] [(.int p0)])) (fun _ q => XS.iloadN X.here X.hx rfl (hb hby at_24) rfl q) ?_
      refine Goes.by (g' := (mkF m 26 #[.val (.int p0), .val (.int (0 : Int32)), .val (.int (0 : Int32)), .unset, .unset, .unset, .unset, .unset, .unset, .unset, .unset, .unset, .unset] [(.int (4 : Int32)), (.int p0)])) (fun _ q => XS.iconst X.here X.hx rfl (hb hby at_25) q) ?_
      refine Goes.by (g' := (mkF m 27 #[.val (.int p0), .val (.int (0 : Int32)), .val (.int (0 : Int32)), .unset, .unset, .unset, .unset, .unset, .unset, .unset, .unset, .unset, .unset] [(.int (p0 &&& (4 : Int32)))])) (fun _ q => XS.iand X.here X.hx rfl (hb hby at_26) rfl q) ?_
      by_cases hB45 : (p0 &&& (4 : Int32)) = (0 : Int32)
      · skip
        refine Goes.by (g' := (mkF m 34 #[.val (.int p0), .val (.int (0 : Int32)), .val (.int (0 : Int32)), .unset, .unset, .unset, .unset, .unset, .unset, .unset, .unset, .unset, .unset] [])) (fun _ q => XS.ifYes X.here X.hx rfl (pc0 := 27) (pc' := 34) rfl (hb hby at_27) rfl ((if0 _ _).trans (teq hB45).1) (by decide) (by decide) q) ?_
        refine Goes.by (g' := (mkF m 35 #[.val (.int p0), .val (.int (0 : Int32)), .val (.int (0 : Int32)), .unset, .unset, .unset, .unset, .unset, .unset, .unset, .unset, .unset, .unset] [(.int (0 : Int32))])) (fun _ q => XS.iconst X.here X.hx rfl (hb hby at_34) q) ?_
        refine Goes.by (g' := (mkF m 36 #[.val (.int p0), .val (.int (0 : Int32)), .val (.int (0 : Int32)), .val (.int (0 : Int32)), .unset, .unset, .unset, .unset, .unset, .unset, .unset, .unset, .unset] [])) (fun _ q => XS.istoreN X.here X.hx rfl (hb hby at_35) rfl (l' := #[.val (.int p0), .val (.int (0 : Int32)), .val (.int (0 : Int32)), .val (.int (0 : Int32)), .unset, .unset, .unset, .unset, .unset, .unset, .unset, .unset, .unset]) rfl q) ?_
        refine Goes.by (g' := (mkF m 37 #[.val (.int p0), .val (.int (0 : Int32)), .val (.int (0 : Int32)), .val (.int (0 : Int32)), .unset, .unset, .unset, .unset, .unset, .unset, .unset, .unset, .unset] [(.int p0)])) (fun _ q => XS.iloadN X.here X.hx rfl (hb hby at_36) rfl q) ?_
        refine Goes.by (g' := (mkF m 39 #[.val (.int p0), .val (.int (0 : Int32)), .val (.int (0 : Int32)), .val (.int (0 : Int32)), .unset, .unset, .unset, .unset, .unset, .unset, .unset, .unset, .unset] [(.int (8 : Int32)), (.int p0)])) (fun _ q => XS.bipush X.here X.hx rfl (hb hby at_37) q) ?_
        refine Goes.by (g' := (mkF m 40 #[.val (.int p0), .val (.int (0 : Int32)), .val (.int (0 : Int32)), .val (.int (0 : Int32)), .unset, .unset, .unset, .unset, .unset, .unset, .unset, .unset, .unset] [(.int (p0 &&& (8 : Int32)))])) (fun _ q => XS.iand X.here X.hx rfl (hb hby at_39) rfl q) ?_
        by_cases hB46 : (p0 &&& (8 : Int32)) = (0 : Int32)
        · skip
          refine Goes.by (g' := (mkF m 47 #[.val (.int p0), .val (.int (0 : Int32)), .val (.int (0 : Int32)), .val (.int (0 : Int32)), .unset, .unset, .unset, .unset, .unset, .unset, .unset, .unset, .unset] [])) (fun _ q => XS.ifYes X.here X.hx rfl (pc0 := 40) (pc' := 47) rfl (hb hby at_40) rfl ((if0 _ _).trans (teq hB46).1) (by decide) (by decide) q) ?_
          refine Goes.by (g' := (mkF m 48 #[.val (.int p0), .val (.int (0 : Int32)), .val (.int (0 : Int32)), .val (.int (0 : Int32)), .unset, .unset, .unset, .unset, .unset, .unset, .unset, .unset, .unset] [(.int (0 : Int32))])) (fun _ q => XS.iconst X.here X.hx rfl (hb hby at_47) q) ?_
          refine Goes.by (g' := (mkF m 50 #[.val (.int p0), .val (.int (0 : Int32)), .val (.int (0 : Int32)), .val (.int (0 : Int32)), .val (.int (0 : Int32)), .unset, .unset, .unset, .unset, .unset, .unset, .unset, .unset] [])) (fun _ q => XS.istore X.here X.hx rfl (hb hby at_48) rfl (l' := #[.val (.int p0), .val (.int (0 : Int32)), .val (.int (0 : Int32)), .val (.int (0 : Int32)), .val (.int (0 : Int32)), .unset, .unset, .unset, .unset, .unset, .unset, .unset, .unset]) rfl q) ?_
          refine X.newO (hw _ (List.mem_of_getElem? (i := 0) rfl)) (hw _ (List.mem_of_getElem? (i := 1) rfl)) (hw _ (List.mem_of_getElem? (i := 2) rfl)) (hb hby at_50) (by decide) (by decide) (fun T h48 b47 X g_b47 ga_b47 E E_b47 D_b47 => ?_)
          have O_ := O_.ext E
          have F_b47_mutations : Fld Z h48 b47 "com/example/hafiza/hafiza/StoreConfig" "mutations" "Lcom/example/hafiza/hafiza/Mutations;" .null := D_b47 (Or.inl (hw _ (List.mem_of_getElem? (i := 92) rfl))) (ty := (.object "com/example/hafiza/hafiza/Mutations")) (by decide)
          have F_b47_durability : Fld Z h48 b47 "com/example/hafiza/hafiza/StoreConfig" "durability" "Lcom/example/hafiza/hafiza/Durability;" .null := D_b47 (Or.inl (hw _ (List.mem_of_getElem? (i := 97) rfl))) (ty := (.object "com/example/hafiza/hafiza/Durability")) (by decide)
          have F_b47_allowCreate : Fld Z h48 b47 "com/example/hafiza/hafiza/StoreConfig" "allowCreate" "Z" (.int (0 : Int32)) := D_b47 (Or.inl (hw _ (List.mem_of_getElem? (i := 130) rfl))) (ty := .boolean) (by decide)
          show Goes _ _ _ _ _ _ _ _ T (mkF m 53 #[.val (.int p0), .val (.int (0 : Int32)), .val (.int (0 : Int32)), .val (.int (0 : Int32)), .val (.int (0 : Int32)), .unset, .unset, .unset, .unset, .unset, .unset, .unset, .unset] [(.ref b47)])
          refine Goes.by (g' := (mkF m 54 #[.val (.int p0), .val (.int (0 : Int32)), .val (.int (0 : Int32)), .val (.int (0 : Int32)), .val (.int (0 : Int32)), .unset, .unset, .unset, .unset, .unset, .unset, .unset, .unset] [(.ref b47), (.ref b47)])) (fun _ q => XS.dup X.here X.hx rfl (hb hby at_53) rfl rfl q) ?_
          have X_o := X
          refine X.callN rfl (hw _ (List.mem_of_getElem? (i := 3) rfl)) (hw _ (List.mem_of_getElem? (i := 4) rfl)) (hw _ (List.mem_of_getElem? (i := 2) rfl)) (hw _ (List.mem_of_getElem? (i := 5) rfl)) (by decide) pd_193421996 (argsL := []) rfl (rmSC l Z a0 hw n0 h48 X.n0le b47 ga_b47 E_b47 F_b47_mutations F_b47_durability F_b47_allowCreate a_WRITE S_WRITE O_) (by rw [hml]; rfl) rfl (by decide) (leB rfl) (hb hby at_54) (by decide) (by decide) (fun T h49 v X hQ => ?_)
          obtain ⟨rfl, K, mu, gz, E_mu, F_b47_mutations, F_b47_durability, F_b47_allowCreate⟩ := hQ
          have ga_mu : n0 ≤ mu := Nat.le_trans X_o.n0le gz
          have ne_b47_mu : b47 ≠ mu := Nat.ne_of_lt (Nat.lt_of_lt_of_le E_b47.lt gz)
          have O_ := O_.keep K (allS ga_b47 all0)
          have E_b47 := E_b47.keep K
          show Goes _ _ _ _ _ _ _ _ T (mkF m 57 #[.val (.int p0), .val (.int (0 : Int32)), .val (.int (0 : Int32)), .val (.int (0 : Int32)), .val (.int (0 : Int32)), .unset, .unset, .unset, .unset, .unset, .unset, .unset, .unset] [(.ref b47)])
          refine Goes.by (g' := (mkF m 59 #[.val (.int p0), .val (.int (0 : Int32)), .val (.int (0 : Int32)), .val (.int (0 : Int32)), .val (.int (0 : Int32)), .val (.ref b47), .unset, .unset, .unset, .unset, .unset, .unset, .unset] [])) (fun _ q => XS.astore X.here X.hx rfl (hb hby at_57) rfl rfl (l' := #[.val (.int p0), .val (.int (0 : Int32)), .val (.int (0 : Int32)), .val (.int (0 : Int32)), .val (.int (0 : Int32)), .val (.ref b47), .unset, .unset, .unset, .unset, .unset, .unset, .unset]) rfl q) ?_
          refine Goes.by (g' := (mkF m 60 #[.val (.int p0), .val (.int (0 : Int32)), .val (.int (0 : Int32)), .val (.int (0 : Int32)), .val (.int (0 : Int32)), .val (.ref b47), .unset, .unset, .unset, .unset, .unset, .unset, .unset] [(.int (0 : Int32))])) (fun _ q => XS.iloadN X.here X.hx rfl (hb hby at_59) rfl q) ?_
          refine Goes.by (g' := (mkF m 69 #[.val (.int p0), .val (.int (0 : Int32)), .val (.int (0 : Int32)), .val (.int (0 : Int32)), .val (.int (0 : Int32)), .val (.ref b47), .unset, .unset, .unset, .unset, .unset, .unset, .unset] [])) (fun _ q => XS.ifYes X.here X.hx rfl (pc0 := 60) (pc' := 69) rfl (hb hby at_60) rfl ((if0 _ _).trans (teq (show (0 : Int32) = (0 : Int32) from (by decide))).1) (by decide) (by decide) q) ?_
          refine Goes.by (g' := (mkF m 70 #[.val (.int p0), .val (.int (0 : Int32)), .val (.int (0 : Int32)), .val (.int (0 : Int32)), .val (.int (0 : Int32)), .val (.ref b47), .unset, .unset, .unset, .unset, .unset, .unset, .unset] [(.int (0 : Int32))])) (fun _ q => XS.iloadN X.here X.hx rfl (hb hby at_69) rfl q) ?_
          refine Goes.by (g' := (mkF m 81 #[.val (.int p0), .val (.int (0 : Int32)), .val (.int (0 : Int32)), .val (.int (0 : Int32)), .val (.int (0 : Int32)), .val (.ref b47), .unset, .unset, .unset, .unset, .unset, .unset, .unset] [])) (fun _ q => XS.ifYes X.here X.hx rfl (pc0 := 70) (pc' := 81) rfl (hb hby at_70) rfl ((if0 _ _).trans (teq (show (0 : Int32) = (0 : Int32) from (by decide))).1) (by decide) (by decide) q) ?_
          refine X.newO (hw _ (List.mem_of_getElem? (i := 98) rfl)) (hw _ (List.mem_of_getElem? (i := 10) rfl)) (hw _ (List.mem_of_getElem? (i := 11) rfl)) (hb hby at_81) (by decide) (by decide) (fun T h51 b50 X g_b50 ga_b50 E E_b50 D_b50 => ?_)
          have ne_b47_b50 : b47 ≠ b50 := by rw [g_b50]; exact Nat.ne_of_lt E_b47.lt
          have ne_mu_b50 : mu ≠ b50 := by rw [g_b50]; exact Nat.ne_of_lt E_mu.lt
          have O_ := O_.ext E
          have E_b47 := E_b47.ext E
          have E_mu := E_mu.ext E
          have F_b47_mutations := F_b47_mutations.ext E
          have F_b47_durability := F_b47_durability.ext E
          have F_b47_allowCreate := F_b47_allowCreate.ext E
          have F_b50_renamers : Fld Z h51 b50 "com/example/hafiza/hafiza/Mutations" "renamers" "Ljava/util/Set;" .null := D_b50 (Or.inr (hw _ (List.mem_of_getElem? (i := 86) rfl))) (ty := (.object "java/util/Set")) (by decide)
          have F_b50_deleters : Fld Z h51 b50 "com/example/hafiza/hafiza/Mutations" "deleters" "Ljava/util/Set;" .null := D_b50 (Or.inr (hw _ (List.mem_of_getElem? (i := 88) rfl))) (ty := (.object "java/util/Set")) (by decide)
          have F_b50_converters : Fld Z h51 b50 "com/example/hafiza/hafiza/Mutations" "converters" "Ljava/util/Set;" .null := D_b50 (Or.inr (hw _ (List.mem_of_getElem? (i := 90) rfl))) (ty := (.object "java/util/Set")) (by decide)
          show Goes _ _ _ _ _ _ _ _ T (mkF m 84 #[.val (.int p0), .val (.int (0 : Int32)), .val (.int (0 : Int32)), .val (.int (0 : Int32)), .val (.int (0 : Int32)), .val (.ref b47), .unset, .unset, .unset, .unset, .unset, .unset, .unset] [(.ref b50)])
          refine Goes.by (g' := (mkF m 85 #[.val (.int p0), .val (.int (0 : Int32)), .val (.int (0 : Int32)), .val (.int (0 : Int32)), .val (.int (0 : Int32)), .val (.ref b47), .unset, .unset, .unset, .unset, .unset, .unset, .unset] [(.ref b50), (.ref b50)])) (fun _ q => XS.dup X.here X.hx rfl (hb hby at_84) rfl rfl q) ?_
          have X_o := X
          refine X.callN rfl (hw _ (List.mem_of_getElem? (i := 99) rfl)) (hw _ (List.mem_of_getElem? (i := 13) rfl)) (hw _ (List.mem_of_getElem? (i := 11) rfl)) (hw _ (List.mem_of_getElem? (i := 14) rfl)) (by decide) pd_193421996 (argsL := []) rfl (rmMU l Z a0 hw n0 h51 X.n0le b50 ga_b50 E_b50 F_b50_renamers F_b50_deleters F_b50_converters) (by rw [hml]; rfl) rfl (by decide) (leB rfl) (hb hby at_85) (by decide) (by decide) (fun T h52 v X hQ => ?_)
          obtain ⟨rfl, K⟩ := hQ
          have O_ := O_.keep K (allS ga_b50 all0)
          have E_b47 := E_b47.keep K
          have E_mu := E_mu.keep K
          have F_b47_mutations := F_b47_mutations.keep K (ninS ne_b47_b50 nin0)
          have F_b47_durability := F_b47_durability.keep K (ninS ne_b47_b50 nin0)
          have F_b47_allowCreate := F_b47_allowCreate.keep K (ninS ne_b47_b50 nin0)
          have E_b50 := E_b50.keep K
          show Goes _ _ _ _ _ _ _ _ T (mkF m 88 #[.val (.int p0), .val (.int (0 : Int32)), .val (.int (0 : Int32)), .val (.int (0 : Int32)), .val (.int (0 : Int32)), .val (.ref b47), .unset, .unset, .unset, .unset, .unset, .unset, .unset] [(.ref b50)])
          refine Goes.by (g' := (mkF m 90 #[.val (.int p0), .val (.int (0 : Int32)), .val (.int (0 : Int32)), .val (.int (0 : Int32)), .val (.int (0 : Int32)), .val (.ref b47), .val (.ref b50), .unset, .unset, .unset, .unset, .unset, .unset] [])) (fun _ q => XS.astore X.here X.hx rfl (hb hby at_88) rfl rfl (l' := #[.val (.int p0), .val (.int (0 : Int32)), .val (.int (0 : Int32)), .val (.int (0 : Int32)), .val (.int (0 : Int32)), .val (.ref b47), .val (.ref b50), .unset, .unset, .unset, .unset, .unset, .unset]) rfl q) ?_
          refine X.newO (hw _ (List.mem_of_getElem? (i := 98) rfl)) (hw _ (List.mem_of_getElem? (i := 10) rfl)) (hw _ (List.mem_of_getElem? (i := 11) rfl)) (hb hby at_90) (by decide) (by decide) (fun T h54 b53 X g_b53 ga_b53 E E_b53 D_b53 => ?_)
          have ne_b47_b53 : b47 ≠ b53 := by rw [g_b53]; exact Nat.ne_of_lt E_b47.lt
          have ne_mu_b53 : mu ≠ b53 := by rw [g_b53]; exact Nat.ne_of_lt E_mu.lt
          have ne_b50_b53 : b50 ≠ b53 := by rw [g_b53]; exact Nat.ne_of_lt E_b50.lt
          have O_ := O_.ext E
          have E_b47 := E_b47.ext E
          have E_mu := E_mu.ext E
          have F_b47_mutations := F_b47_mutations.ext E
          have F_b47_durability := F_b47_durability.ext E
          have F_b47_allowCreate := F_b47_allowCreate.ext E
          have E_b50 := E_b50.ext E
          have F_b53_renamers : Fld Z h54 b53 "com/example/hafiza/hafiza/Mutations" "renamers" "Ljava/util/Set;" .null := D_b53 (Or.inr (hw _ (List.mem_of_getElem? (i := 86) rfl))) (ty := (.object "java/util/Set")) (by decide)
          have F_b53_deleters : Fld Z h54 b53 "com/example/hafiza/hafiza/Mutations" "deleters" "Ljava/util/Set;" .null := D_b53 (Or.inr (hw _ (List.mem_of_getElem? (i := 88) rfl))) (ty := (.object "java/util/Set")) (by decide)
          have F_b53_converters : Fld Z h54 b53 "com/example/hafiza/hafiza/Mutations" "converters" "Ljava/util/Set;" .null := D_b53 (Or.inr (hw _ (List.mem_of_getElem? (i := 90) rfl))) (ty := (.object "java/util/Set")) (by decide)
          show Goes _ _ _ _ _ _ _ _ T (mkF m 93 #[.val (.int p0), .val (.int (0 : Int32)), .val (.int (0 : Int32)), .val (.int (0 : Int32)), .val (.int (0 : Int32)), .val (.ref b47), .val (.ref b50), .unset, .unset, .unset, .unset, .unset, .unset] [(.ref b53)])
          refine Goes.by (g' := (mkF m 94 #[.val (.int p0), .val (.int (0 : Int32)), .val (.int (0 : Int32)), .val (.int (0 : Int32)), .val (.int (0 : Int32)), .val (.ref b47), .val (.ref b50), .unset, .unset, .unset, .unset, .unset, .unset] [(.ref b53), (.ref b53)])) (fun _ q => XS.dup X.here X.hx rfl (hb hby at_93) rfl rfl q) ?_
          have X_o := X
          refine X.callN rfl (hw _ (List.mem_of_getElem? (i := 99) rfl)) (hw _ (List.mem_of_getElem? (i := 13) rfl)) (hw _ (List.mem_of_getElem? (i := 11) rfl)) (hw _ (List.mem_of_getElem? (i := 14) rfl)) (by decide) pd_193421996 (argsL := []) rfl (rmMU l Z a0 hw n0 h54 X.n0le b53 ga_b53 E_b53 F_b53_renamers F_b53_deleters F_b53_converters) (by rw [hml]; rfl) rfl (by decide) (leB rfl) (hb hby at_94) (by decide) (by decide) (fun T h55 v X hQ => ?_)
          obtain ⟨rfl, K⟩ := hQ
          have O_ := O_.keep K (allS ga_b53 all0)
          have E_b47 := E_b47.keep K
          have E_mu := E_mu.keep K
          have F_b47_mutations := F_b47_mutations.keep K (ninS ne_b47_b53 nin0)
          have F_b47_durability := F_b47_durability.keep K (ninS ne_b47_b53 nin0)
          have F_b47_allowCreate := F_b47_allowCreate.keep K (ninS ne_b47_b53 nin0)
          have E_b50 := E_b50.keep K
          have E_b53 := E_b53.keep K
          show Goes _ _ _ _ _ _ _ _ T (mkF m 97 #[.val (.int p0), .val (.int (0 : Int32)), .val (.int (0 : Int32)), .val (.int (0 : Int32)), .val (.int (0 : Int32)), .val (.ref b47), .val (.ref b50), .unset, .unset, .unset, .unset, .unset, .unset] [(.ref b53)])
          refine Goes.by (g' := (mkF m 99 #[.val (.int p0), .val (.int (0 : Int32)), .val (.int (0 : Int32)), .val (.int (0 : Int32)), .val (.int (0 : Int32)), .val (.ref b47), .val (.ref b50), .val (.ref b53), .unset, .unset, .unset, .unset, .unset] [])) (fun _ q => XS.astore X.here X.hx rfl (hb hby at_97) rfl rfl (l' := #[.val (.int p0), .val (.int (0 : Int32)), .val (.int (0 : Int32)), .val (.int (0 : Int32)), .val (.int (0 : Int32)), .val (.ref b47), .val (.ref b50), .val (.ref b53), .unset, .unset, .unset, .unset, .unset]) rfl q) ?_
          refine Goes.by (g' := (mkF m 101 #[.val (.int p0), .val (.int (0 : Int32)), .val (.int (0 : Int32)), .val (.int (0 : Int32)), .val (.int (0 : Int32)), .val (.ref b47), .val (.ref b50), .val (.ref b53), .unset, .unset, .unset, .unset, .unset] [(.ref b47)])) (fun _ q => XS.aload X.here X.hx rfl (hb hby at_99) rfl rfl q) ?_
          have X_o := X
          refine X.callV E_b47 (hw _ (List.mem_of_getElem? (i := 100) rfl)) (hw _ (List.mem_of_getElem? (i := 101) rfl)) (hw _ (List.mem_of_getElem? (i := 103) rfl)) (hw _ (List.mem_of_getElem? (i := 103) rfl)) rfl (hw _ (List.mem_of_getElem? (i := 102) rfl)) (hw _ (List.mem_of_getElem? (i := 2) rfl)) (hw _ (List.mem_of_getElem? (i := 104) rfl)) (by decide) pd_2544813166 (argsL := []) rfl (rm_getMutations l Z a0 hw n0 h55 X.n0le b47 mu  F_b47_mutations) (by rw [hml]; rfl) rfl (by decide) (leB rfl) (hb hby at_101) (by decide) (by decide) (fun T h56 v X hQ => ?_)
          obtain ⟨rfl, hh⟩ := hQ
          rw [hh] at X
          clear hh
          show Goes _ _ _ _ _ _ _ _ T (mkF m 104 #[.val (.int p0), .val (.int (0 : Int32)), .val (.int (0 : Int32)), .val (.int (0 : Int32)), .val (.int (0 : Int32)), .val (.ref b47), .val (.ref b50), .val (.ref b53), .unset, .unset, .unset, .unset, .unset] [(.ref mu)])
          refine Goes.by (g' := (mkF m 106 #[.val (.int p0), .val (.int (0 : Int32)), .val (.int (0 : Int32)), .val (.int (0 : Int32)), .val (.int (0 : Int32)), .val (.ref b47), .val (.ref b50), .val (.ref b53), .val (.ref mu), .unset, .unset, .unset, .unset] [])) (fun _ q => XS.astore X.here X.hx rfl (hb hby at_104) rfl rfl (l' := #[.val (.int p0), .val (.int (0 : Int32)), .val (.int (0 : Int32)), .val (.int (0 : Int32)), .val (.int (0 : Int32)), .val (.ref b47), .val (.ref b50), .val (.ref b53), .val (.ref mu), .unset, .unset, .unset, .unset]) rfl q) ?_
          refine Goes.by (g' := (mkF m 108 #[.val (.int p0), .val (.int (0 : Int32)), .val (.int (0 : Int32)), .val (.int (0 : Int32)), .val (.int (0 : Int32)), .val (.ref b47), .val (.ref b50), .val (.ref b53), .val (.ref mu), .unset, .unset, .unset, .unset] [(.ref mu)])) (fun _ q => XS.aload X.here X.hx rfl (hb hby at_106) rfl rfl q) ?_
          refine Goes.by (g' := (mkF m 111 #[.val (.int p0), .val (.int (0 : Int32)), .val (.int (0 : Int32)), .val (.int (0 : Int32)), .val (.int (0 : Int32)), .val (.ref b47), .val (.ref b50), .val (.ref b53), .val (.ref mu), .unset, .unset, .unset, .unset] [])) (fun _ q => XS.ifnullNo X.here X.hx rfl (hb hby at_108) rfl q) ?_
          refine Goes.by (g' := (mkF m 113 #[.val (.int p0), .val (.int (0 : Int32)), .val (.int (0 : Int32)), .val (.int (0 : Int32)), .val (.int (0 : Int32)), .val (.ref b47), .val (.ref b50), .val (.ref b53), .val (.ref mu), .unset, .unset, .unset, .unset] [(.ref mu)])) (fun _ q => XS.aload X.here X.hx rfl (hb hby at_111) rfl rfl q) ?_
          refine Goes.by (g' := (mkF m 115 #[.val (.int p0), .val (.int (0 : Int32)), .val (.int (0 : Int32)), .val (.int (0 : Int32)), .val (.int (0 : Int32)), .val (.ref b47), .val (.ref b50), .val (.ref b53), .val (.ref mu), .unset, .unset, .unset, .unset] [(.ref b50), (.ref mu)])) (fun _ q => XS.aload X.here X.hx rfl (hb hby at_113) rfl rfl q) ?_
          refine X.acmp rfl rfl (cd := .eq) (x := (.ref mu)) (y := (.ref b50)) (same := false) (pc' := 118) (hb hby at_115) (decide_eq_false fun q => ne_mu_b50 (Value.ref.inj q)) (by decide) (by decide) ?_
          show Goes _ _ _ _ _ _ _ _ T (mkF m 118 #[.val (.int p0), .val (.int (0 : Int32)), .val (.int (0 : Int32)), .val (.int (0 : Int32)), .val (.int (0 : Int32)), .val (.ref b47), .val (.ref b50), .val (.ref b53), .val (.ref mu), .unset, .unset, .unset, .unset] [])
          refine Goes.by (g' := (mkF m 120 #[.val (.int p0), .val (.int (0 : Int32)), .val (.int (0 : Int32)), .val (.int (0 : Int32)), .val (.int (0 : Int32)), .val (.ref b47), .val (.ref b50), .val (.ref b53), .val (.ref mu), .unset, .unset, .unset, .unset] [(.ref mu)])) (fun _ q => XS.aload X.here X.hx rfl (hb hby at_118) rfl rfl q) ?_
          refine Goes.by (g' := (mkF m 122 #[.val (.int p0), .val (.int (0 : Int32)), .val (.int (0 : Int32)), .val (.int (0 : Int32)), .val (.int (0 : Int32)), .val (.ref b47), .val (.ref b50), .val (.ref b53), .val (.ref mu), .unset, .unset, .unset, .unset] [(.ref b53), (.ref mu)])) (fun _ q => XS.aload X.here X.hx rfl (hb hby at_120) rfl rfl q) ?_
          refine X.acmp rfl rfl (cd := .eq) (x := (.ref mu)) (y := (.ref b53)) (same := false) (pc' := 125) (hb hby at_122) (decide_eq_false fun q => ne_mu_b53 (Value.ref.inj q)) (by decide) (by decide) ?_
          show Goes _ _ _ _ _ _ _ _ T (mkF m 125 #[.val (.int p0), .val (.int (0 : Int32)), .val (.int (0 : Int32)), .val (.int (0 : Int32)), .val (.int (0 : Int32)), .val (.ref b47), .val (.ref b50), .val (.ref b53), .val (.ref mu), .unset, .unset, .unset, .unset] [])
          refine Goes.by (g' := (mkF m 126 #[.val (.int p0), .val (.int (0 : Int32)), .val (.int (0 : Int32)), .val (.int (0 : Int32)), .val (.int (0 : Int32)), .val (.ref b47), .val (.ref b50), .val (.ref b53), .val (.ref mu), .unset, .unset, .unset, .unset] [(.int (1 : Int32))])) (fun _ q => XS.iconst X.here X.hx rfl (hb hby at_125) q) ?_
          refine Goes.by (g' := (mkF m 130 #[.val (.int p0), .val (.int (0 : Int32)), .val (.int (0 : Int32)), .val (.int (0 : Int32)), .val (.int (0 : Int32)), .val (.ref b47), .val (.ref b50), .val (.ref b53), .val (.ref mu), .unset, .unset, .unset, .unset] [(.int (1 : Int32))])) (fun _ q => XS.goto X.here X.hx rfl (pc0 := 126) (pc' := 130) rfl (hb hby at_126) (by decide) (by decide) q) ?_
          refine Goes.by (g' := (mkF m 132 #[.val (.int p0), .val (.int (0 : Int32)), .val (.int (0 : Int32)), .val (.int (0 : Int32)), .val (.int (0 : Int32)), .val (.ref b47), .val (.ref b50), .val (.ref b53), .val (.ref mu), .val (.int (1 : Int32)), .unset, .unset, .unset] [])) (fun _ q => XS.istore X.here X.hx rfl (hb hby at_130) rfl (l' := #[.val (.int p0), .val (.int (0 : Int32)), .val (.int (0 : Int32)), .val (.int (0 : Int32)), .val (.int (0 : Int32)), .val (.ref b47), .val (.ref b50), .val (.ref b53), .val (.ref mu), .val (.int (1 : Int32)), .unset, .unset, .unset]) rfl q) ?_
          refine Goes.by (g' := (mkF m 133 #[.val (.int p0), .val (.int (0 : Int32)), .val (.int (0 : Int32)), .val (.int (0 : Int32)), .val (.int (0 : Int32)), .val (.ref b47), .val (.ref b50), .val (.ref b53), .val (.ref mu), .val (.int (1 : Int32)), .unset, .unset, .unset] [(.int (0 : Int32))])) (fun _ q => XS.iloadN X.here X.hx rfl (hb hby at_132) rfl q) ?_
          refine Goes.by (g' := (mkF m 153 #[.val (.int p0), .val (.int (0 : Int32)), .val (.int (0 : Int32)), .val (.int (0 : Int32)), .val (.int (0 : Int32)), .val (.ref b47), .val (.ref b50), .val (.ref b53), .val (.ref mu), .val (.int (1 : Int32)), .unset, .unset, .unset] [])) (fun _ q => XS.ifYes X.here X.hx rfl (pc0 := 133) (pc' := 153) rfl (hb hby at_133) rfl ((if0 _ _).trans (teq (show (0 : Int32) = (0 : Int32) from (by decide))).1) (by decide) (by decide) q) ?_
          refine Goes.by (g' := (mkF m 155 #[.val (.int p0), .val (.int (0 : Int32)), .val (.int (0 : Int32)), .val (.int (0 : Int32)), .val (.int (0 : Int32)), .val (.ref b47), .val (.ref b50), .val (.ref b53), .val (.ref mu), .val (.int (1 : Int32)), .unset, .unset, .unset] [(.int (0 : Int32))])) (fun _ q => XS.iload X.here X.hx rfl (hb hby at_153) rfl q) ?_
          refine Goes.by (g' := (mkF m 163 #[.val (.int p0), .val (.int (0 : Int32)), .val (.int (0 : Int32)), .val (.int (0 : Int32)), .val (.int (0 : Int32)), .val (.ref b47), .val (.ref b50), .val (.ref b53), .val (.ref mu), .val (.int (1 : Int32)), .unset, .unset, .unset] [])) (fun _ q => XS.ifYes X.here X.hx rfl (pc0 := 155) (pc' := 163) rfl (hb hby at_155) rfl ((if0 _ _).trans (teq (show (0 : Int32) = (0 : Int32) from (by decide))).1) (by decide) (by decide) q) ?_
          refine Goes.by (g' := (mkF m 165 #[.val (.int p0), .val (.int (0 : Int32)), .val (.int (0 : Int32)), .val (.int (0 : Int32)), .val (.int (0 : Int32)), .val (.ref b47), .val (.ref b50), .val (.ref b53), .val (.ref mu), .val (.int (1 : Int32)), .unset, .unset, .unset] [(.ref b53)])) (fun _ q => XS.aload X.here X.hx rfl (hb hby at_163) rfl rfl q) ?_
          refine Goes.by (g' := (mkF m 167 #[.val (.int p0), .val (.int (0 : Int32)), .val (.int (0 : Int32)), .val (.int (0 : Int32)), .val (.int (0 : Int32)), .val (.ref b47), .val (.ref b50), .val (.ref b53), .val (.ref mu), .val (.int (1 : Int32)), .val (.ref b53), .unset, .unset] [])) (fun _ q => XS.astore X.here X.hx rfl (hb hby at_165) rfl rfl (l' := #[.val (.int p0), .val (.int (0 : Int32)), .val (.int (0 : Int32)), .val (.int (0 : Int32)), .val (.int (0 : Int32)), .val (.ref b47), .val (.ref b50), .val (.ref b53), .val (.ref mu), .val (.int (1 : Int32)), .val (.ref b53), .unset, .unset]) rfl q) ?_
          refine Goes.by (g' := (mkF m 169 #[.val (.int p0), .val (.int (0 : Int32)), .val (.int (0 : Int32)), .val (.int (0 : Int32)), .val (.int (0 : Int32)), .val (.ref b47), .val (.ref b50), .val (.ref b53), .val (.ref mu), .val (.int (1 : Int32)), .val (.ref b53), .unset, .unset] [(.ref b47)])) (fun _ q => XS.aload X.here X.hx rfl (hb hby at_167) rfl rfl q) ?_
          refine Goes.by (g' := (mkF m 171 #[.val (.int p0), .val (.int (0 : Int32)), .val (.int (0 : Int32)), .val (.int (0 : Int32)), .val (.int (0 : Int32)), .val (.ref b47), .val (.ref b50), .val (.ref b53), .val (.ref mu), .val (.int (1 : Int32)), .val (.ref b53), .unset, .unset] [(.ref b53), (.ref b47)])) (fun _ q => XS.aload X.here X.hx rfl (hb hby at_169) rfl rfl q) ?_
          have X_o := X
          refine X.callV E_b47 (hw _ (List.mem_of_getElem? (i := 105) rfl)) (hw _ (List.mem_of_getElem? (i := 106) rfl)) (hw _ (List.mem_of_getElem? (i := 108) rfl)) (hw _ (List.mem_of_getElem? (i := 103) rfl)) rfl (hw _ (List.mem_of_getElem? (i := 107) rfl)) (hw _ (List.mem_of_getElem? (i := 2) rfl)) (hw _ (List.mem_of_getElem? (i := 109) rfl)) (by decide) pd_2932898788 (argsL := [(.ref b53)]) rfl (rm_setMutations l Z a0 hw n0 h55 X.n0le b47 b53 (.ref mu) ga_b47 E_b47 E_b53 F_b47_mutations (.ref a_WRITE) F_b47_durability (.int (0 : Int32)) F_b47_allowCreate) (by rw [hml]; rfl) rfl (by decide) (leB rfl) (hb hby at_171) (by decide) (by decide) (fun T h57 v X hQ => ?_)
          obtain ⟨rfl, K, F_b47_mutations, F_b47_durability, F_b47_allowCreate⟩ := hQ
          have O_ := O_.keep K (allS ga_b47 all0)
          have E_b47 := E_b47.keep K
          have E_mu := E_mu.keep K
          have E_b50 := E_b50.keep K
          have E_b53 := E_b53.keep K
          show Goes _ _ _ _ _ _ _ _ T (mkF m 174 #[.val (.int p0), .val (.int (0 : Int32)), .val (.int (0 : Int32)), .val (.int (0 : Int32)), .val (.int (0 : Int32)), .val (.ref b47), .val (.ref b50), .val (.ref b53), .val (.ref mu), .val (.int (1 : Int32)), .val (.ref b53), .unset, .unset] [])
          refine Goes.by (g' := (mkF m 176 #[.val (.int p0), .val (.int (0 : Int32)), .val (.int (0 : Int32)), .val (.int (0 : Int32)), .val (.int (0 : Int32)), .val (.ref b47), .val (.ref b50), .val (.ref b53), .val (.ref mu), .val (.int (1 : Int32)), .val (.ref b53), .unset, .unset] [(.ref b47)])) (fun _ q => XS.aload X.here X.hx rfl (hb hby at_174) rfl rfl q) ?_
          have X_o := X
          refine X.callV E_b47 (hw _ (List.mem_of_getElem? (i := 100) rfl)) (hw _ (List.mem_of_getElem? (i := 101) rfl)) (hw _ (List.mem_of_getElem? (i := 103) rfl)) (hw _ (List.mem_of_getElem? (i := 103) rfl)) rfl (hw _ (List.mem_of_getElem? (i := 102) rfl)) (hw _ (List.mem_of_getElem? (i := 2) rfl)) (hw _ (List.mem_of_getElem? (i := 104) rfl)) (by decide) pd_2544813166 (argsL := []) rfl (rm_getMutations l Z a0 hw n0 h57 X.n0le b47 b53  F_b47_mutations) (by rw [hml]; rfl) rfl (by decide) (leB rfl) (hb hby at_176) (by decide) (by decide) (fun T h58 v X hQ => ?_)
          obtain ⟨rfl, hh⟩ := hQ
          rw [hh] at X
          clear hh
          show Goes _ _ _ _ _ _ _ _ T (mkF m 179 #[.val (.int p0), .val (.int (0 : Int32)), .val (.int (0 : Int32)), .val (.int (0 : Int32)), .val (.int (0 : Int32)), .val (.ref b47), .val (.ref b50), .val (.ref b53), .val (.ref mu), .val (.int (1 : Int32)), .val (.ref b53), .unset, .unset] [(.ref b53)])
          refine Goes.by (g' := (mkF m 181 #[.val (.int p0), .val (.int (0 : Int32)), .val (.int (0 : Int32)), .val (.int (0 : Int32)), .val (.int (0 : Int32)), .val (.ref b47), .val (.ref b50), .val (.ref b53), .val (.ref mu), .val (.int (1 : Int32)), .val (.ref b53), .val (.ref b53), .unset] [])) (fun _ q => XS.astore X.here X.hx rfl (hb hby at_179) rfl rfl (l' := #[.val (.int p0), .val (.int (0 : Int32)), .val (.int (0 : Int32)), .val (.int (0 : Int32)), .val (.int (0 : Int32)), .val (.ref b47), .val (.ref b50), .val (.ref b53), .val (.ref mu), .val (.int (1 : Int32)), .val (.ref b53), .val (.ref b53), .unset]) rfl q) ?_
          refine Goes.by (g' := (mkF m 182 #[.val (.int p0), .val (.int (0 : Int32)), .val (.int (0 : Int32)), .val (.int (0 : Int32)), .val (.int (0 : Int32)), .val (.ref b47), .val (.ref b50), .val (.ref b53), .val (.ref mu), .val (.int (1 : Int32)), .val (.ref b53), .val (.ref b53), .unset] [(.int (0 : Int32))])) (fun _ q => XS.iloadN X.here X.hx rfl (hb hby at_181) rfl q) ?_
          refine Goes.by (g' := (mkF m 191 #[.val (.int p0), .val (.int (0 : Int32)), .val (.int (0 : Int32)), .val (.int (0 : Int32)), .val (.int (0 : Int32)), .val (.ref b47), .val (.ref b50), .val (.ref b53), .val (.ref mu), .val (.int (1 : Int32)), .val (.ref b53), .val (.ref b53), .unset] [])) (fun _ q => XS.ifYes X.here X.hx rfl (pc0 := 182) (pc' := 191) rfl (hb hby at_182) rfl ((if0 _ _).trans (teq (show (0 : Int32) = (0 : Int32) from (by decide))).1) (by decide) (by decide) q) ?_
          refine X.getS (Or.inl (hw _ (List.mem_of_getElem? (i := 123) rfl))) (host := "") Via.refl (S_WRITE.ext O_.2) (hb hby at_191) (fun T X => ?_)
          show Goes _ _ _ _ _ _ _ _ T (mkF m 194 #[.val (.int p0), .val (.int (0 : Int32)), .val (.int (0 : Int32)), .val (.int (0 : Int32)), .val (.int (0 : Int32)), .val (.ref b47), .val (.ref b50), .val (.ref b53), .val (.ref mu), .val (.int (1 : Int32)), .val (.ref b53), .val (.ref b53), .unset] [(.ref a_WRITE)])
          refine Goes.by (g' := (mkF m 196 #[.val (.int p0), .val (.int (0 : Int32)), .val (.int (0 : Int32)), .val (.int (0 : Int32)), .val (.int (0 : Int32)), .val (.ref b47), .val (.ref b50), .val (.ref b53), .val (.ref mu), .val (.int (1 : Int32)), .val (.ref b53), .val (.ref b53), .val (.ref a_WRITE)] [])) (fun _ q => XS.astore X.here X.hx rfl (hb hby at_194) rfl rfl (l' := #[.val (.int p0), .val (.int (0 : Int32)), .val (.int (0 : Int32)), .val (.int (0 : Int32)), .val (.int (0 : Int32)), .val (.ref b47), .val (.ref b50), .val (.ref b53), .val (.ref mu), .val (.int (1 : Int32)), .val (.ref b53), .val (.ref b53), .val (.ref a_WRITE)]) rfl q) ?_
          refine Goes.by (g' := (mkF m 198 #[.val (.int p0), .val (.int (0 : Int32)), .val (.int (0 : Int32)), .val (.int (0 : Int32)), .val (.int (0 : Int32)), .val (.ref b47), .val (.ref b50), .val (.ref b53), .val (.ref mu), .val (.int (1 : Int32)), .val (.ref b53), .val (.ref b53), .val (.ref a_WRITE)] [(.int (1 : Int32))])) (fun _ q => XS.iload X.here X.hx rfl (hb hby at_196) rfl q) ?_
          refine Goes.by (g' := (mkF m 201 #[.val (.int p0), .val (.int (0 : Int32)), .val (.int (0 : Int32)), .val (.int (0 : Int32)), .val (.int (0 : Int32)), .val (.ref b47), .val (.ref b50), .val (.ref b53), .val (.ref mu), .val (.int (1 : Int32)), .val (.ref b53), .val (.ref b53), .val (.ref a_WRITE)] [])) (fun _ q => XS.ifNo X.here X.hx rfl (hb hby at_198) rfl ((if0 _ _).trans (feq (show ¬ (1 : Int32) = (0 : Int32) from (by decide))).1) q) ?_
          refine Goes.by (g' := (mkF m 203 #[.val (.int p0), .val (.int (0 : Int32)), .val (.int (0 : Int32)), .val (.int (0 : Int32)), .val (.int (0 : Int32)), .val (.ref b47), .val (.ref b50), .val (.ref b53), .val (.ref mu), .val (.int (1 : Int32)), .val (.ref b53), .val (.ref b53), .val (.ref a_WRITE)] [(.ref b53)])) (fun _ q => XS.aload X.here X.hx rfl (hb hby at_201) rfl rfl q) ?_
          refine Goes.by (g' := (mkF m 205 #[.val (.int p0), .val (.int (0 : Int32)), .val (.int (0 : Int32)), .val (.int (0 : Int32)), .val (.int (0 : Int32)), .val (.ref b47), .val (.ref b50), .val (.ref b53), .val (.ref mu), .val (.int (1 : Int32)), .val (.ref b53), .val (.ref b53), .val (.ref a_WRITE)] [(.ref b53), (.ref b53)])) (fun _ q => XS.aload X.here X.hx rfl (hb hby at_203) rfl rfl q) ?_
          refine X.acmp rfl rfl (cd := .ne) (x := (.ref b53)) (y := (.ref b53)) (same := true) (pc' := 208) (hb hby at_205) (decide_eq_true rfl) (by decide) (by decide) ?_
          show Goes _ _ _ _ _ _ _ _ T (mkF m 208 #[.val (.int p0), .val (.int (0 : Int32)), .val (.int (0 : Int32)), .val (.int (0 : Int32)), .val (.int (0 : Int32)), .val (.ref b47), .val (.ref b50), .val (.ref b53), .val (.ref mu), .val (.int (1 : Int32)), .val (.ref b53), .val (.ref b53), .val (.ref a_WRITE)] [])
          refine Goes.by (g' := (mkF m 210 #[.val (.int p0), .val (.int (0 : Int32)), .val (.int (0 : Int32)), .val (.int (0 : Int32)), .val (.int (0 : Int32)), .val (.ref b47), .val (.ref b50), .val (.ref b53), .val (.ref mu), .val (.int (1 : Int32)), .val (.ref b53), .val (.ref b53), .val (.ref a_WRITE)] [(.ref b47)])) (fun _ q => XS.aload X.here X.hx rfl (hb hby at_208) rfl rfl q) ?_
          have X_o := X
          refine X.callV E_b47 (hw _ (List.mem_of_getElem? (i := 124) rfl)) (hw _ (List.mem_of_getElem? (i := 125) rfl)) (hw _ (List.mem_of_getElem? (i := 127) rfl)) (hw _ (List.mem_of_getElem? (i := 103) rfl)) rfl (hw _ (List.mem_of_getElem? (i := 126) rfl)) (hw _ (List.mem_of_getElem? (i := 2) rfl)) (hw _ (List.mem_of_getElem? (i := 128) rfl)) (by decide) pd_193422000 (argsL := []) rfl (rm_getAllowCreate l Z a0 hw n0 h57 X.n0le b47 (0 : Int32) (by decide) F_b47_allowCreate) (by rw [hml]; rfl) rfl (by decide) (leB rfl) (hb hby at_210) (by decide) (by decide) (fun T h59 v X hQ => ?_)
          obtain ⟨rfl, hh⟩ := hQ
          rw [hh] at X
          clear hh
          show Goes _ _ _ _ _ _ _ _ T (mkF m 213 #[.val (.int p0), .val (.int (0 : Int32)), .val (.int (0 : Int32)), .val (.int (0 : Int32)), .val (.int (0 : Int32)), .val (.ref b47), .val (.ref b50), .val (.ref b53), .val (.ref mu), .val (.int (1 : Int32)), .val (.ref b53), .val (.ref b53), .val (.ref a_WRITE)] [(.int (0 : Int32))])
          refine Goes.by (g' := (mkF m 214 #[.val (.int p0), .val (.int (0 : Int32)), .val (.int (0 : Int32)), .val (.int (0 : Int32)), .val (.int (0 : Int32)), .val (.ref b47), .val (.ref b50), .val (.ref b53), .val (.ref mu), .val (.int (1 : Int32)), .val (.ref b53), .val (.ref b53), .val (.ref a_WRITE)] [(.int (0 : Int32)), (.int (0 : Int32))])) (fun _ q => XS.iloadN X.here X.hx rfl (hb hby at_213) rfl q) ?_
          refine Goes.by (g' := (mkF m 217 #[.val (.int p0), .val (.int (0 : Int32)), .val (.int (0 : Int32)), .val (.int (0 : Int32)), .val (.int (0 : Int32)), .val (.ref b47), .val (.ref b50), .val (.ref b53), .val (.ref mu), .val (.int (1 : Int32)), .val (.ref b53), .val (.ref b53), .val (.ref a_WRITE)] [])) (fun _ q => XS.icmpNo X.here X.hx rfl (hb hby at_214) rfl (teq (show (0 : Int32) = (0 : Int32) from (by decide))).2 q) ?_
          refine Goes.by (g' := (mkF m 219 #[.val (.int p0), .val (.int (0 : Int32)), .val (.int (0 : Int32)), .val (.int (0 : Int32)), .val (.int (0 : Int32)), .val (.ref b47), .val (.ref b50), .val (.ref b53), .val (.ref mu), .val (.int (1 : Int32)), .val (.ref b53), .val (.ref b53), .val (.ref a_WRITE)] [(.ref b47)])) (fun _ q => XS.aload X.here X.hx rfl (hb hby at_217) rfl rfl q) ?_
          have X_o := X
          refine X.callV E_b47 (hw _ (List.mem_of_getElem? (i := 131) rfl)) (hw _ (List.mem_of_getElem? (i := 132) rfl)) (hw _ (List.mem_of_getElem? (i := 134) rfl)) (hw _ (List.mem_of_getElem? (i := 103) rfl)) rfl (hw _ (List.mem_of_getElem? (i := 133) rfl)) (hw _ (List.mem_of_getElem? (i := 2) rfl)) (hw _ (List.mem_of_getElem? (i := 135) rfl)) (by decide) pd_2323304547 (argsL := []) rfl (rm_getDurability l Z a0 hw n0 h57 X.n0le b47 a_WRITE  F_b47_durability) (by rw [hml]; rfl) rfl (by decide) (leB rfl) (hb hby at_219) (by decide) (by decide) (fun T h60 v X hQ => ?_)
          obtain ⟨rfl, hh⟩ := hQ
          rw [hh] at X
          clear hh
          show Goes _ _ _ _ _ _ _ _ T (mkF m 222 #[.val (.int p0), .val (.int (0 : Int32)), .val (.int (0 : Int32)), .val (.int (0 : Int32)), .val (.int (0 : Int32)), .val (.ref b47), .val (.ref b50), .val (.ref b53), .val (.ref mu), .val (.int (1 : Int32)), .val (.ref b53), .val (.ref b53), .val (.ref a_WRITE)] [(.ref a_WRITE)])
          refine Goes.by (g' := (mkF m 224 #[.val (.int p0), .val (.int (0 : Int32)), .val (.int (0 : Int32)), .val (.int (0 : Int32)), .val (.int (0 : Int32)), .val (.ref b47), .val (.ref b50), .val (.ref b53), .val (.ref mu), .val (.int (1 : Int32)), .val (.ref b53), .val (.ref b53), .val (.ref a_WRITE)] [(.ref a_WRITE), (.ref a_WRITE)])) (fun _ q => XS.aload X.here X.hx rfl (hb hby at_222) rfl rfl q) ?_
          refine X.acmp rfl rfl (cd := .ne) (x := (.ref a_WRITE)) (y := (.ref a_WRITE)) (same := true) (pc' := 227) (hb hby at_224) (decide_eq_true rfl) (by decide) (by decide) ?_
          show Goes _ _ _ _ _ _ _ _ T (mkF m 227 #[.val (.int p0), .val (.int (0 : Int32)), .val (.int (0 : Int32)), .val (.int (0 : Int32)), .val (.int (0 : Int32)), .val (.ref b47), .val (.ref b50), .val (.ref b53), .val (.ref mu), .val (.int (1 : Int32)), .val (.ref b53), .val (.ref b53), .val (.ref a_WRITE)] [])
          refine Goes.by (g' := (mkF m 228 #[.val (.int p0), .val (.int (0 : Int32)), .val (.int (0 : Int32)), .val (.int (0 : Int32)), .val (.int (0 : Int32)), .val (.ref b47), .val (.ref b50), .val (.ref b53), .val (.ref mu), .val (.int (1 : Int32)), .val (.ref b53), .val (.ref b53), .val (.ref a_WRITE)] [(.int (1 : Int32))])) (fun _ q => XS.iconst X.here X.hx rfl (hb hby at_227) q) ?_
          refine Goes.by (g' := (mkF m 232 #[.val (.int p0), .val (.int (0 : Int32)), .val (.int (0 : Int32)), .val (.int (0 : Int32)), .val (.int (0 : Int32)), .val (.ref b47), .val (.ref b50), .val (.ref b53), .val (.ref mu), .val (.int (1 : Int32)), .val (.ref b53), .val (.ref b53), .val (.ref a_WRITE)] [(.int (1 : Int32))])) (fun _ q => XS.goto X.here X.hx rfl (pc0 := 228) (pc' := 232) rfl (hb hby at_228) (by decide) (by decide) q) ?_
          exact X.retZ hret (hb hby at_232) (by decide) (by decide) rfl
        · skip
          refine Goes.by (g' := (mkF m 43 #[.val (.int p0), .val (.int (0 : Int32)), .val (.int (0 : Int32)), .val (.int (0 : Int32)), .unset, .unset, .unset, .unset, .unset, .unset, .unset, .unset, .unset] [])) (fun _ q => XS.ifNo X.here X.hx rfl (hb hby at_40) rfl ((if0 _ _).trans (feq hB46).1) q) ?_
          refine Goes.by (g' := (mkF m 44 #[.val (.int p0), .val (.int (0 : Int32)), .val (.int (0 : Int32)), .val (.int (0 : Int32)), .unset, .unset, .unset, .unset, .unset, .unset, .unset, .unset, .unset] [(.int (1 : Int32))])) (fun _ q => XS.iconst X.here X.hx rfl (hb hby at_43) q) ?_
          refine Goes.by (g' := (mkF m 48 #[.val (.int p0), .val (.int (0 : Int32)), .val (.int (0 : Int32)), .val (.int (0 : Int32)), .unset, .unset, .unset, .unset, .unset, .unset, .unset, .unset, .unset] [(.int (1 : Int32))])) (fun _ q => XS.goto X.here X.hx rfl (pc0 := 44) (pc' := 48) rfl (hb hby at_44) (by decide) (by decide) q) ?_
          refine Goes.by (g' := (mkF m 50 #[.val (.int p0), .val (.int (0 : Int32)), .val (.int (0 : Int32)), .val (.int (0 : Int32)), .val (.int (1 : Int32)), .unset, .unset, .unset, .unset, .unset, .unset, .unset, .unset] [])) (fun _ q => XS.istore X.here X.hx rfl (hb hby at_48) rfl (l' := #[.val (.int p0), .val (.int (0 : Int32)), .val (.int (0 : Int32)), .val (.int (0 : Int32)), .val (.int (1 : Int32)), .unset, .unset, .unset, .unset, .unset, .unset, .unset, .unset]) rfl q) ?_
          refine X.newO (hw _ (List.mem_of_getElem? (i := 0) rfl)) (hw _ (List.mem_of_getElem? (i := 1) rfl)) (hw _ (List.mem_of_getElem? (i := 2) rfl)) (hb hby at_50) (by decide) (by decide) (fun T h62 b61 X g_b61 ga_b61 E E_b61 D_b61 => ?_)
          have O_ := O_.ext E
          have F_b61_mutations : Fld Z h62 b61 "com/example/hafiza/hafiza/StoreConfig" "mutations" "Lcom/example/hafiza/hafiza/Mutations;" .null := D_b61 (Or.inl (hw _ (List.mem_of_getElem? (i := 92) rfl))) (ty := (.object "com/example/hafiza/hafiza/Mutations")) (by decide)
          have F_b61_durability : Fld Z h62 b61 "com/example/hafiza/hafiza/StoreConfig" "durability" "Lcom/example/hafiza/hafiza/Durability;" .null := D_b61 (Or.inl (hw _ (List.mem_of_getElem? (i := 97) rfl))) (ty := (.object "com/example/hafiza/hafiza/Durability")) (by decide)
          have F_b61_allowCreate : Fld Z h62 b61 "com/example/hafiza/hafiza/StoreConfig" "allowCreate" "Z" (.int (0 : Int32)) := D_b61 (Or.inl (hw _ (List.mem_of_getElem? (i := 130) rfl))) (ty := .boolean) (by decide)
          show Goes _ _ _ _ _ _ _ _ T (mkF m 53 #[.val (.int p0), .val (.int (0 : Int32)), .val (.int (0 : Int32)), .val (.int (0 : Int32)), .val (.int (1 : Int32)), .unset, .unset, .unset, .unset, .unset, .unset, .unset, .unset] [(.ref b61)])
          refine Goes.by (g' := (mkF m 54 #[.val (.int p0), .val (.int (0 : Int32)), .val (.int (0 : Int32)), .val (.int (0 : Int32)), .val (.int (1 : Int32)), .unset, .unset, .unset, .unset, .unset, .unset, .unset, .unset] [(.ref b61), (.ref b61)])) (fun _ q => XS.dup X.here X.hx rfl (hb hby at_53) rfl rfl q) ?_
          have X_o := X
          refine X.callN rfl (hw _ (List.mem_of_getElem? (i := 3) rfl)) (hw _ (List.mem_of_getElem? (i := 4) rfl)) (hw _ (List.mem_of_getElem? (i := 2) rfl)) (hw _ (List.mem_of_getElem? (i := 5) rfl)) (by decide) pd_193421996 (argsL := []) rfl (rmSC l Z a0 hw n0 h62 X.n0le b61 ga_b61 E_b61 F_b61_mutations F_b61_durability F_b61_allowCreate a_WRITE S_WRITE O_) (by rw [hml]; rfl) rfl (by decide) (leB rfl) (hb hby at_54) (by decide) (by decide) (fun T h63 v X hQ => ?_)
          obtain ⟨rfl, K, mu, gz, E_mu, F_b61_mutations, F_b61_durability, F_b61_allowCreate⟩ := hQ
          have ga_mu : n0 ≤ mu := Nat.le_trans X_o.n0le gz
          have ne_b61_mu : b61 ≠ mu := Nat.ne_of_lt (Nat.lt_of_lt_of_le E_b61.lt gz)
          have O_ := O_.keep K (allS ga_b61 all0)
          have E_b61 := E_b61.keep K
          show Goes _ _ _ _ _ _ _ _ T (mkF m 57 #[.val (.int p0), .val (.int (0 : Int32)), .val (.int (0 : Int32)), .val (.int (0 : Int32)), .val (.int (1 : Int32)), .unset, .unset, .unset, .unset, .unset, .unset, .unset, .unset] [(.ref b61)])
          refine Goes.by (g' := (mkF m 59 #[.val (.int p0), .val (.int (0 : Int32)), .val (.int (0 : Int32)), .val (.int (0 : Int32)), .val (.int (1 : Int32)), .val (.ref b61), .unset, .unset, .unset, .unset, .unset, .unset, .unset] [])) (fun _ q => XS.astore X.here X.hx rfl (hb hby at_57) rfl rfl (l' := #[.val (.int p0), .val (.int (0 : Int32)), .val (.int (0 : Int32)), .val (.int (0 : Int32)), .val (.int (1 : Int32)), .val (.ref b61), .unset, .unset, .unset, .unset, .unset, .unset, .unset]) rfl q) ?_
          refine Goes.by (g' := (mkF m 60 #[.val (.int p0), .val (.int (0 : Int32)), .val (.int (0 : Int32)), .val (.int (0 : Int32)), .val (.int (1 : Int32)), .val (.ref b61), .unset, .unset, .unset, .unset, .unset, .unset, .unset] [(.int (0 : Int32))])) (fun _ q => XS.iloadN X.here X.hx rfl (hb hby at_59) rfl q) ?_
          refine Goes.by (g' := (mkF m 69 #[.val (.int p0), .val (.int (0 : Int32)), .val (.int (0 : Int32)), .val (.int (0 : Int32)), .val (.int (1 : Int32)), .val (.ref b61), .unset, .unset, .unset, .unset, .unset, .unset, .unset] [])) (fun _ q => XS.ifYes X.here X.hx rfl (pc0 := 60) (pc' := 69) rfl (hb hby at_60) rfl ((if0 _ _).trans (teq (show (0 : Int32) = (0 : Int32) from (by decide))).1) (by decide) (by decide) q) ?_
          refine Goes.by (g' := (mkF m 70 #[.val (.int p0), .val (.int (0 : Int32)), .val (.int (0 : Int32)), .val (.int (0 : Int32)), .val (.int (1 : Int32)), .val (.ref b61), .unset, .unset, .unset, .unset, .unset, .unset, .unset] [(.int (0 : Int32))])) (fun _ q => XS.iloadN X.here X.hx rfl (hb hby at_69) rfl q) ?_
          refine Goes.by (g' := (mkF m 81 #[.val (.int p0), .val (.int (0 : Int32)), .val (.int (0 : Int32)), .val (.int (0 : Int32)), .val (.int (1 : Int32)), .val (.ref b61), .unset, .unset, .unset, .unset, .unset, .unset, .unset] [])) (fun _ q => XS.ifYes X.here X.hx rfl (pc0 := 70) (pc' := 81) rfl (hb hby at_70) rfl ((if0 _ _).trans (teq (show (0 : Int32) = (0 : Int32) from (by decide))).1) (by decide) (by decide) q) ?_
          refine X.newO (hw _ (List.mem_of_getElem? (i := 98) rfl)) (hw _ (List.mem_of_getElem? (i := 10) rfl)) (hw _ (List.mem_of_getElem? (i := 11) rfl)) (hb hby at_81) (by decide) (by decide) (fun T h65 b64 X g_b64 ga_b64 E E_b64 D_b64 => ?_)
          have ne_b61_b64 : b61 ≠ b64 := by rw [g_b64]; exact Nat.ne_of_lt E_b61.lt
          have ne_mu_b64 : mu ≠ b64 := by rw [g_b64]; exact Nat.ne_of_lt E_mu.lt
          have O_ := O_.ext E
          have E_b61 := E_b61.ext E
          have E_mu := E_mu.ext E
          have F_b61_mutations := F_b61_mutations.ext E
          have F_b61_durability := F_b61_durability.ext E
          have F_b61_allowCreate := F_b61_allowCreate.ext E
          have F_b64_renamers : Fld Z h65 b64 "com/example/hafiza/hafiza/Mutations" "renamers" "Ljava/util/Set;" .null := D_b64 (Or.inr (hw _ (List.mem_of_getElem? (i := 86) rfl))) (ty := (.object "java/util/Set")) (by decide)
          have F_b64_deleters : Fld Z h65 b64 "com/example/hafiza/hafiza/Mutations" "deleters" "Ljava/util/Set;" .null := D_b64 (Or.inr (hw _ (List.mem_of_getElem? (i := 88) rfl))) (ty := (.object "java/util/Set")) (by decide)
          have F_b64_converters : Fld Z h65 b64 "com/example/hafiza/hafiza/Mutations" "converters" "Ljava/util/Set;" .null := D_b64 (Or.inr (hw _ (List.mem_of_getElem? (i := 90) rfl))) (ty := (.object "java/util/Set")) (by decide)
          show Goes _ _ _ _ _ _ _ _ T (mkF m 84 #[.val (.int p0), .val (.int (0 : Int32)), .val (.int (0 : Int32)), .val (.int (0 : Int32)), .val (.int (1 : Int32)), .val (.ref b61), .unset, .unset, .unset, .unset, .unset, .unset, .unset] [(.ref b64)])
          refine Goes.by (g' := (mkF m 85 #[.val (.int p0), .val (.int (0 : Int32)), .val (.int (0 : Int32)), .val (.int (0 : Int32)), .val (.int (1 : Int32)), .val (.ref b61), .unset, .unset, .unset, .unset, .unset, .unset, .unset] [(.ref b64), (.ref b64)])) (fun _ q => XS.dup X.here X.hx rfl (hb hby at_84) rfl rfl q) ?_
          have X_o := X
          refine X.callN rfl (hw _ (List.mem_of_getElem? (i := 99) rfl)) (hw _ (List.mem_of_getElem? (i := 13) rfl)) (hw _ (List.mem_of_getElem? (i := 11) rfl)) (hw _ (List.mem_of_getElem? (i := 14) rfl)) (by decide) pd_193421996 (argsL := []) rfl (rmMU l Z a0 hw n0 h65 X.n0le b64 ga_b64 E_b64 F_b64_renamers F_b64_deleters F_b64_converters) (by rw [hml]; rfl) rfl (by decide) (leB rfl) (hb hby at_85) (by decide) (by decide) (fun T h66 v X hQ => ?_)
          obtain ⟨rfl, K⟩ := hQ
          have O_ := O_.keep K (allS ga_b64 all0)
          have E_b61 := E_b61.keep K
          have E_mu := E_mu.keep K
          have F_b61_mutations := F_b61_mutations.keep K (ninS ne_b61_b64 nin0)
          have F_b61_durability := F_b61_durability.keep K (ninS ne_b61_b64 nin0)
          have F_b61_allowCreate := F_b61_allowCreate.keep K (ninS ne_b61_b64 nin0)
          have E_b64 := E_b64.keep K
          show Goes _ _ _ _ _ _ _ _ T (mkF m 88 #[.val (.int p0), .val (.int (0 : Int32)), .val (.int (0 : Int32)), .val (.int (0 : Int32)), .val (.int (1 : Int32)), .val (.ref b61), .unset, .unset, .unset, .unset, .unset, .unset, .unset] [(.ref b64)])
          refine Goes.by (g' := (mkF m 90 #[.val (.int p0), .val (.int (0 : Int32)), .val (.int (0 : Int32)), .val (.int (0 : Int32)), .val (.int (1 : Int32)), .val (.ref b61), .val (.ref b64), .unset, .unset, .unset, .unset, .unset, .unset] [])) (fun _ q => XS.astore X.here X.hx rfl (hb hby at_88) rfl rfl (l' := #[.val (.int p0), .val (.int (0 : Int32)), .val (.int (0 : Int32)), .val (.int (0 : Int32)), .val (.int (1 : Int32)), .val (.ref b61), .val (.ref b64), .unset, .unset, .unset, .unset, .unset, .unset]) rfl q) ?_
          refine X.newO (hw _ (List.mem_of_getElem? (i := 98) rfl)) (hw _ (List.mem_of_getElem? (i := 10) rfl)) (hw _ (List.mem_of_getElem? (i := 11) rfl)) (hb hby at_90) (by decide) (by decide) (fun T h68 b67 X g_b67 ga_b67 E E_b67 D_b67 => ?_)
          have ne_b61_b67 : b61 ≠ b67 := by rw [g_b67]; exact Nat.ne_of_lt E_b61.lt
          have ne_mu_b67 : mu ≠ b67 := by rw [g_b67]; exact Nat.ne_of_lt E_mu.lt
          have ne_b64_b67 : b64 ≠ b67 := by rw [g_b67]; exact Nat.ne_of_lt E_b64.lt
          have O_ := O_.ext E
          have E_b61 := E_b61.ext E
          have E_mu := E_mu.ext E
          have F_b61_mutations := F_b61_mutations.ext E
          have F_b61_durability := F_b61_durability.ext E
          have F_b61_allowCreate := F_b61_allowCreate.ext E
          have E_b64 := E_b64.ext E
          have F_b67_renamers : Fld Z h68 b67 "com/example/hafiza/hafiza/Mutations" "renamers" "Ljava/util/Set;" .null := D_b67 (Or.inr (hw _ (List.mem_of_getElem? (i := 86) rfl))) (ty := (.object "java/util/Set")) (by decide)
          have F_b67_deleters : Fld Z h68 b67 "com/example/hafiza/hafiza/Mutations" "deleters" "Ljava/util/Set;" .null := D_b67 (Or.inr (hw _ (List.mem_of_getElem? (i := 88) rfl))) (ty := (.object "java/util/Set")) (by decide)
          have F_b67_converters : Fld Z h68 b67 "com/example/hafiza/hafiza/Mutations" "converters" "Ljava/util/Set;" .null := D_b67 (Or.inr (hw _ (List.mem_of_getElem? (i := 90) rfl))) (ty := (.object "java/util/Set")) (by decide)
          show Goes _ _ _ _ _ _ _ _ T (mkF m 93 #[.val (.int p0), .val (.int (0 : Int32)), .val (.int (0 : Int32)), .val (.int (0 : Int32)), .val (.int (1 : Int32)), .val (.ref b61), .val (.ref b64), .unset, .unset, .unset, .unset, .unset, .unset] [(.ref b67)])
          refine Goes.by (g' := (mkF m 94 #[.val (.int p0), .val (.int (0 : Int32)), .val (.int (0 : Int32)), .val (.int (0 : Int32)), .val (.int (1 : Int32)), .val (.ref b61), .val (.ref b64), .unset, .unset, .unset, .unset, .unset, .unset] [(.ref b67), (.ref b67)])) (fun _ q => XS.dup X.here X.hx rfl (hb hby at_93) rfl rfl q) ?_
          have X_o := X
          refine X.callN rfl (hw _ (List.mem_of_getElem? (i := 99) rfl)) (hw _ (List.mem_of_getElem? (i := 13) rfl)) (hw _ (List.mem_of_getElem? (i := 11) rfl)) (hw _ (List.mem_of_getElem? (i := 14) rfl)) (by decide) pd_193421996 (argsL := []) rfl (rmMU l Z a0 hw n0 h68 X.n0le b67 ga_b67 E_b67 F_b67_renamers F_b67_deleters F_b67_converters) (by rw [hml]; rfl) rfl (by decide) (leB rfl) (hb hby at_94) (by decide) (by decide) (fun T h69 v X hQ => ?_)
          obtain ⟨rfl, K⟩ := hQ
          have O_ := O_.keep K (allS ga_b67 all0)
          have E_b61 := E_b61.keep K
          have E_mu := E_mu.keep K
          have F_b61_mutations := F_b61_mutations.keep K (ninS ne_b61_b67 nin0)
          have F_b61_durability := F_b61_durability.keep K (ninS ne_b61_b67 nin0)
          have F_b61_allowCreate := F_b61_allowCreate.keep K (ninS ne_b61_b67 nin0)
          have E_b64 := E_b64.keep K
          have E_b67 := E_b67.keep K
          show Goes _ _ _ _ _ _ _ _ T (mkF m 97 #[.val (.int p0), .val (.int (0 : Int32)), .val (.int (0 : Int32)), .val (.int (0 : Int32)), .val (.int (1 : Int32)), .val (.ref b61), .val (.ref b64), .unset, .unset, .unset, .unset, .unset, .unset] [(.ref b67)])
          refine Goes.by (g' := (mkF m 99 #[.val (.int p0), .val (.int (0 : Int32)), .val (.int (0 : Int32)), .val (.int (0 : Int32)), .val (.int (1 : Int32)), .val (.ref b61), .val (.ref b64), .val (.ref b67), .unset, .unset, .unset, .unset, .unset] [])) (fun _ q => XS.astore X.here X.hx rfl (hb hby at_97) rfl rfl (l' := #[.val (.int p0), .val (.int (0 : Int32)), .val (.int (0 : Int32)), .val (.int (0 : Int32)), .val (.int (1 : Int32)), .val (.ref b61), .val (.ref b64), .val (.ref b67), .unset, .unset, .unset, .unset, .unset]) rfl q) ?_
          refine Goes.by (g' := (mkF m 101 #[.val (.int p0), .val (.int (0 : Int32)), .val (.int (0 : Int32)), .val (.int (0 : Int32)), .val (.int (1 : Int32)), .val (.ref b61), .val (.ref b64), .val (.ref b67), .unset, .unset, .unset, .unset, .unset] [(.ref b61)])) (fun _ q => XS.aload X.here X.hx rfl (hb hby at_99) rfl rfl q) ?_
          have X_o := X
          refine X.callV E_b61 (hw _ (List.mem_of_getElem? (i := 100) rfl)) (hw _ (List.mem_of_getElem? (i := 101) rfl)) (hw _ (List.mem_of_getElem? (i := 103) rfl)) (hw _ (List.mem_of_getElem? (i := 103) rfl)) rfl (hw _ (List.mem_of_getElem? (i := 102) rfl)) (hw _ (List.mem_of_getElem? (i := 2) rfl)) (hw _ (List.mem_of_getElem? (i := 104) rfl)) (by decide) pd_2544813166 (argsL := []) rfl (rm_getMutations l Z a0 hw n0 h69 X.n0le b61 mu  F_b61_mutations) (by rw [hml]; rfl) rfl (by decide) (leB rfl) (hb hby at_101) (by decide) (by decide) (fun T h70 v X hQ => ?_)
          obtain ⟨rfl, hh⟩ := hQ
          rw [hh] at X
          clear hh
          show Goes _ _ _ _ _ _ _ _ T (mkF m 104 #[.val (.int p0), .val (.int (0 : Int32)), .val (.int (0 : Int32)), .val (.int (0 : Int32)), .val (.int (1 : Int32)), .val (.ref b61), .val (.ref b64), .val (.ref b67), .unset, .unset, .unset, .unset, .unset] [(.ref mu)])
          refine Goes.by (g' := (mkF m 106 #[.val (.int p0), .val (.int (0 : Int32)), .val (.int (0 : Int32)), .val (.int (0 : Int32)), .val (.int (1 : Int32)), .val (.ref b61), .val (.ref b64), .val (.ref b67), .val (.ref mu), .unset, .unset, .unset, .unset] [])) (fun _ q => XS.astore X.here X.hx rfl (hb hby at_104) rfl rfl (l' := #[.val (.int p0), .val (.int (0 : Int32)), .val (.int (0 : Int32)), .val (.int (0 : Int32)), .val (.int (1 : Int32)), .val (.ref b61), .val (.ref b64), .val (.ref b67), .val (.ref mu), .unset, .unset, .unset, .unset]) rfl q) ?_
          refine Goes.by (g' := (mkF m 108 #[.val (.int p0), .val (.int (0 : Int32)), .val (.int (0 : Int32)), .val (.int (0 : Int32)), .val (.int (1 : Int32)), .val (.ref b61), .val (.ref b64), .val (.ref b67), .val (.ref mu), .unset, .unset, .unset, .unset] [(.ref mu)])) (fun _ q => XS.aload X.here X.hx rfl (hb hby at_106) rfl rfl q) ?_
          refine Goes.by (g' := (mkF m 111 #[.val (.int p0), .val (.int (0 : Int32)), .val (.int (0 : Int32)), .val (.int (0 : Int32)), .val (.int (1 : Int32)), .val (.ref b61), .val (.ref b64), .val (.ref b67), .val (.ref mu), .unset, .unset, .unset, .unset] [])) (fun _ q => XS.ifnullNo X.here X.hx rfl (hb hby at_108) rfl q) ?_
          refine Goes.by (g' := (mkF m 113 #[.val (.int p0), .val (.int (0 : Int32)), .val (.int (0 : Int32)), .val (.int (0 : Int32)), .val (.int (1 : Int32)), .val (.ref b61), .val (.ref b64), .val (.ref b67), .val (.ref mu), .unset, .unset, .unset, .unset] [(.ref mu)])) (fun _ q => XS.aload X.here X.hx rfl (hb hby at_111) rfl rfl q) ?_
          refine Goes.by (g' := (mkF m 115 #[.val (.int p0), .val (.int (0 : Int32)), .val (.int (0 : Int32)), .val (.int (0 : Int32)), .val (.int (1 : Int32)), .val (.ref b61), .val (.ref b64), .val (.ref b67), .val (.ref mu), .unset, .unset, .unset, .unset] [(.ref b64), (.ref mu)])) (fun _ q => XS.aload X.here X.hx rfl (hb hby at_113) rfl rfl q) ?_
          refine X.acmp rfl rfl (cd := .eq) (x := (.ref mu)) (y := (.ref b64)) (same := false) (pc' := 118) (hb hby at_115) (decide_eq_false fun q => ne_mu_b64 (Value.ref.inj q)) (by decide) (by decide) ?_
          show Goes _ _ _ _ _ _ _ _ T (mkF m 118 #[.val (.int p0), .val (.int (0 : Int32)), .val (.int (0 : Int32)), .val (.int (0 : Int32)), .val (.int (1 : Int32)), .val (.ref b61), .val (.ref b64), .val (.ref b67), .val (.ref mu), .unset, .unset, .unset, .unset] [])
          refine Goes.by (g' := (mkF m 120 #[.val (.int p0), .val (.int (0 : Int32)), .val (.int (0 : Int32)), .val (.int (0 : Int32)), .val (.int (1 : Int32)), .val (.ref b61), .val (.ref b64), .val (.ref b67), .val (.ref mu), .unset, .unset, .unset, .unset] [(.ref mu)])) (fun _ q => XS.aload X.here X.hx rfl (hb hby at_118) rfl rfl q) ?_
          refine Goes.by (g' := (mkF m 122 #[.val (.int p0), .val (.int (0 : Int32)), .val (.int (0 : Int32)), .val (.int (0 : Int32)), .val (.int (1 : Int32)), .val (.ref b61), .val (.ref b64), .val (.ref b67), .val (.ref mu), .unset, .unset, .unset, .unset] [(.ref b67), (.ref mu)])) (fun _ q => XS.aload X.here X.hx rfl (hb hby at_120) rfl rfl q) ?_
          refine X.acmp rfl rfl (cd := .eq) (x := (.ref mu)) (y := (.ref b67)) (same := false) (pc' := 125) (hb hby at_122) (decide_eq_false fun q => ne_mu_b67 (Value.ref.inj q)) (by decide) (by decide) ?_
          show Goes _ _ _ _ _ _ _ _ T (mkF m 125 #[.val (.int p0), .val (.int (0 : Int32)), .val (.int (0 : Int32)), .val (.int (0 : Int32)), .val (.int (1 : Int32)), .val (.ref b61), .val (.ref b64), .val (.ref b67), .val (.ref mu), .unset, .unset, .unset, .unset] [])
          refine Goes.by (g' := (mkF m 126 #[.val (.int p0), .val (.int (0 : Int32)), .val (.int (0 : Int32)), .val (.int (0 : Int32)), .val (.int (1 : Int32)), .val (.ref b61), .val (.ref b64), .val (.ref b67), .val (.ref mu), .unset, .unset, .unset, .unset] [(.int (1 : Int32))])) (fun _ q => XS.iconst X.here X.hx rfl (hb hby at_125) q) ?_
          refine Goes.by (g' := (mkF m 130 #[.val (.int p0), .val (.int (0 : Int32)), .val (.int (0 : Int32)), .val (.int (0 : Int32)), .val (.int (1 : Int32)), .val (.ref b61), .val (.ref b64), .val (.ref b67), .val (.ref mu), .unset, .unset, .unset, .unset] [(.int (1 : Int32))])) (fun _ q => XS.goto X.here X.hx rfl (pc0 := 126) (pc' := 130) rfl (hb hby at_126) (by decide) (by decide) q) ?_
          refine Goes.by (g' := (mkF m 132 #[.val (.int p0), .val (.int (0 : Int32)), .val (.int (0 : Int32)), .val (.int (0 : Int32)), .val (.int (1 : Int32)), .val (.ref b61), .val (.ref b64), .val (.ref b67), .val (.ref mu), .val (.int (1 : Int32)), .unset, .unset, .unset] [])) (fun _ q => XS.istore X.here X.hx rfl (hb hby at_130) rfl (l' := #[.val (.int p0), .val (.int (0 : Int32)), .val (.int (0 : Int32)), .val (.int (0 : Int32)), .val (.int (1 : Int32)), .val (.ref b61), .val (.ref b64), .val (.ref b67), .val (.ref mu), .val (.int (1 : Int32)), .unset, .unset, .unset]) rfl q) ?_
          refine Goes.by (g' := (mkF m 133 #[.val (.int p0), .val (.int (0 : Int32)), .val (.int (0 : Int32)), .val (.int (0 : Int32)), .val (.int (1 : Int32)), .val (.ref b61), .val (.ref b64), .val (.ref b67), .val (.ref mu), .val (.int (1 : Int32)), .unset, .unset, .unset] [(.int (0 : Int32))])) (fun _ q => XS.iloadN X.here X.hx rfl (hb hby at_132) rfl q) ?_
          refine Goes.by (g' := (mkF m 153 #[.val (.int p0), .val (.int (0 : Int32)), .val (.int (0 : Int32)), .val (.int (0 : Int32)), .val (.int (1 : Int32)), .val (.ref b61), .val (.ref b64), .val (.ref b67), .val (.ref mu), .val (.int (1 : Int32)), .unset, .unset, .unset] [])) (fun _ q => XS.ifYes X.here X.hx rfl (pc0 := 133) (pc' := 153) rfl (hb hby at_133) rfl ((if0 _ _).trans (teq (show (0 : Int32) = (0 : Int32) from (by decide))).1) (by decide) (by decide) q) ?_
          refine Goes.by (g' := (mkF m 155 #[.val (.int p0), .val (.int (0 : Int32)), .val (.int (0 : Int32)), .val (.int (0 : Int32)), .val (.int (1 : Int32)), .val (.ref b61), .val (.ref b64), .val (.ref b67), .val (.ref mu), .val (.int (1 : Int32)), .unset, .unset, .unset] [(.int (1 : Int32))])) (fun _ q => XS.iload X.here X.hx rfl (hb hby at_153) rfl q) ?_
          refine Goes.by (g' := (mkF m 158 #[.val (.int p0), .val (.int (0 : Int32)), .val (.int (0 : Int32)), .val (.int (0 : Int32)), .val (.int (1 : Int32)), .val (.ref b61), .val (.ref b64), .val (.ref b67), .val (.ref mu), .val (.int (1 : Int32)), .unset, .unset, .unset] [])) (fun _ q => XS.ifNo X.here X.hx rfl (hb hby at_155) rfl ((if0 _ _).trans (feq (show ¬ (1 : Int32) = (0 : Int32) from (by decide))).1) q) ?_
          refine Goes.by (g' := (mkF m 160 #[.val (.int p0), .val (.int (0 : Int32)), .val (.int (0 : Int32)), .val (.int (0 : Int32)), .val (.int (1 : Int32)), .val (.ref b61), .val (.ref b64), .val (.ref b67), .val (.ref mu), .val (.int (1 : Int32)), .unset, .unset, .unset] [(.ref b64)])) (fun _ q => XS.aload X.here X.hx rfl (hb hby at_158) rfl rfl q) ?_
          refine Goes.by (g' := (mkF m 165 #[.val (.int p0), .val (.int (0 : Int32)), .val (.int (0 : Int32)), .val (.int (0 : Int32)), .val (.int (1 : Int32)), .val (.ref b61), .val (.ref b64), .val (.ref b67), .val (.ref mu), .val (.int (1 : Int32)), .unset, .unset, .unset] [(.ref b64)])) (fun _ q => XS.goto X.here X.hx rfl (pc0 := 160) (pc' := 165) rfl (hb hby at_160) (by decide) (by decide) q) ?_
          refine Goes.by (g' := (mkF m 167 #[.val (.int p0), .val (.int (0 : Int32)), .val (.int (0 : Int32)), .val (.int (0 : Int32)), .val (.int (1 : Int32)), .val (.ref b61), .val (.ref b64), .val (.ref b67), .val (.ref mu), .val (.int (1 : Int32)), .val (.ref b64), .unset, .unset] [])) (fun _ q => XS.astore X.here X.hx rfl (hb hby at_165) rfl rfl (l' := #[.val (.int p0), .val (.int (0 : Int32)), .val (.int (0 : Int32)), .val (.int (0 : Int32)), .val (.int (1 : Int32)), .val (.ref b61), .val (.ref b64), .val (.ref b67), .val (.ref mu), .val (.int (1 : Int32)), .val (.ref b64), .unset, .unset]) rfl q) ?_
          refine Goes.by (g' := (mkF m 169 #[.val (.int p0), .val (.int (0 : Int32)), .val (.int (0 : Int32)), .val (.int (0 : Int32)), .val (.int (1 : Int32)), .val (.ref b61), .val (.ref b64), .val (.ref b67), .val (.ref mu), .val (.int (1 : Int32)), .val (.ref b64), .unset, .unset] [(.ref b61)])) (fun _ q => XS.aload X.here X.hx rfl (hb hby at_167) rfl rfl q) ?_
          refine Goes.by (g' := (mkF m 171 #[.val (.int p0), .val (.int (0 : Int32)), .val (.int (0 : Int32)), .val (.int (0 : Int32)), .val (.int (1 : Int32)), .val (.ref b61), .val (.ref b64), .val (.ref b67), .val (.ref mu), .val (.int (1 : Int32)), .val (.ref b64), .unset, .unset] [(.ref b64), (.ref b61)])) (fun _ q => XS.aload X.here X.hx rfl (hb hby at_169) rfl rfl q) ?_
          have X_o := X
          refine X.callV E_b61 (hw _ (List.mem_of_getElem? (i := 105) rfl)) (hw _ (List.mem_of_getElem? (i := 106) rfl)) (hw _ (List.mem_of_getElem? (i := 108) rfl)) (hw _ (List.mem_of_getElem? (i := 103) rfl)) rfl (hw _ (List.mem_of_getElem? (i := 107) rfl)) (hw _ (List.mem_of_getElem? (i := 2) rfl)) (hw _ (List.mem_of_getElem? (i := 109) rfl)) (by decide) pd_2932898788 (argsL := [(.ref b64)]) rfl (rm_setMutations l Z a0 hw n0 h69 X.n0le b61 b64 (.ref mu) ga_b61 E_b61 E_b64 F_b61_mutations (.ref a_WRITE) F_b61_durability (.int (0 : Int32)) F_b61_allowCreate) (by rw [hml]; rfl) rfl (by decide) (leB rfl) (hb hby at_171) (by decide) (by decide) (fun T h71 v X hQ => ?_)
          obtain ⟨rfl, K, F_b61_mutations, F_b61_durability, F_b61_allowCreate⟩ := hQ
          have O_ := O_.keep K (allS ga_b61 all0)
          have E_b61 := E_b61.keep K
          have E_mu := E_mu.keep K
          have E_b64 := E_b64.keep K
          have E_b67 := E_b67.keep K
          show Goes _ _ _ _ _ _ _ _ T (mkF m 174 #[.val (.int p0), .val (.int (0 : Int32)), .val (.int (0 : Int32)), .val (.int (0 : Int32)), .val (.int (1 : Int32)), .val (.ref b61), .val (.ref b64), .val (.ref b67), .val (.ref mu), .val (.int (1 : Int32)), .val (.ref b64), .unset, .unset] [])
          refine Goes.by (g' := (mkF m 176 #[.val (.int p0), .val (.int (0 : Int32)), .val (.int (0 : Int32)), .val (.int (0 : Int32)), .val (.int (1 : Int32)), .val (.ref b61), .val (.ref b64), .val (.ref b67), .val (.ref mu), .val (.int (1 : Int32)), .val (.ref b64), .unset, .unset] [(.ref b61)])) (fun _ q => XS.aload X.here X.hx rfl (hb hby at_174) rfl rfl q) ?_
          have X_o := X
          refine X.callV E_b61 (hw _ (List.mem_of_getElem? (i := 100) rfl)) (hw _ (List.mem_of_getElem? (i := 101) rfl)) (hw _ (List.mem_of_getElem? (i := 103) rfl)) (hw _ (List.mem_of_getElem? (i := 103) rfl)) rfl (hw _ (List.mem_of_getElem? (i := 102) rfl)) (hw _ (List.mem_of_getElem? (i := 2) rfl)) (hw _ (List.mem_of_getElem? (i := 104) rfl)) (by decide) pd_2544813166 (argsL := []) rfl (rm_getMutations l Z a0 hw n0 h71 X.n0le b61 b64  F_b61_mutations) (by rw [hml]; rfl) rfl (by decide) (leB rfl) (hb hby at_176) (by decide) (by decide) (fun T h72 v X hQ => ?_)
          obtain ⟨rfl, hh⟩ := hQ
          rw [hh] at X
          clear hh
          show Goes _ _ _ _ _ _ _ _ T (mkF m 179 #[.val (.int p0), .val (.int (0 : Int32)), .val (.int (0 : Int32)), .val (.int (0 : Int32)), .val (.int (1 : Int32)), .val (.ref b61), .val (.ref b64), .val (.ref b67), .val (.ref mu), .val (.int (1 : Int32)), .val (.ref b64), .unset, .unset] [(.ref b64)])
          refine Goes.by (g' := (mkF m 181 #[.val (.int p0), .val (.int (0 : Int32)), .val (.int (0 : Int32)), .val (.int (0 : Int32)), .val (.int (1 : Int32)), .val (.ref b61), .val (.ref b64), .val (.ref b67), .val (.ref mu), .val (.int (1 : Int32)), .val (.ref b64), .val (.ref b64), .unset] [])) (fun _ q => XS.astore X.here X.hx rfl (hb hby at_179) rfl rfl (l' := #[.val (.int p0), .val (.int (0 : Int32)), .val (.int (0 : Int32)), .val (.int (0 : Int32)), .val (.int (1 : Int32)), .val (.ref b61), .val (.ref b64), .val (.ref b67), .val (.ref mu), .val (.int (1 : Int32)), .val (.ref b64), .val (.ref b64), .unset]) rfl q) ?_
          refine Goes.by (g' := (mkF m 182 #[.val (.int p0), .val (.int (0 : Int32)), .val (.int (0 : Int32)), .val (.int (0 : Int32)), .val (.int (1 : Int32)), .val (.ref b61), .val (.ref b64), .val (.ref b67), .val (.ref mu), .val (.int (1 : Int32)), .val (.ref b64), .val (.ref b64), .unset] [(.int (0 : Int32))])) (fun _ q => XS.iloadN X.here X.hx rfl (hb hby at_181) rfl q) ?_
          refine Goes.by (g' := (mkF m 191 #[.val (.int p0), .val (.int (0 : Int32)), .val (.int (0 : Int32)), .val (.int (0 : Int32)), .val (.int (1 : Int32)), .val (.ref b61), .val (.ref b64), .val (.ref b67), .val (.ref mu), .val (.int (1 : Int32)), .val (.ref b64), .val (.ref b64), .unset] [])) (fun _ q => XS.ifYes X.here X.hx rfl (pc0 := 182) (pc' := 191) rfl (hb hby at_182) rfl ((if0 _ _).trans (teq (show (0 : Int32) = (0 : Int32) from (by decide))).1) (by decide) (by decide) q) ?_
          refine X.getS (Or.inl (hw _ (List.mem_of_getElem? (i := 123) rfl))) (host := "") Via.refl (S_WRITE.ext O_.2) (hb hby at_191) (fun T X => ?_)
          show Goes _ _ _ _ _ _ _ _ T (mkF m 194 #[.val (.int p0), .val (.int (0 : Int32)), .val (.int (0 : Int32)), .val (.int (0 : Int32)), .val (.int (1 : Int32)), .val (.ref b61), .val (.ref b64), .val (.ref b67), .val (.ref mu), .val (.int (1 : Int32)), .val (.ref b64), .val (.ref b64), .unset] [(.ref a_WRITE)])
          refine Goes.by (g' := (mkF m 196 #[.val (.int p0), .val (.int (0 : Int32)), .val (.int (0 : Int32)), .val (.int (0 : Int32)), .val (.int (1 : Int32)), .val (.ref b61), .val (.ref b64), .val (.ref b67), .val (.ref mu), .val (.int (1 : Int32)), .val (.ref b64), .val (.ref b64), .val (.ref a_WRITE)] [])) (fun _ q => XS.astore X.here X.hx rfl (hb hby at_194) rfl rfl (l' := #[.val (.int p0), .val (.int (0 : Int32)), .val (.int (0 : Int32)), .val (.int (0 : Int32)), .val (.int (1 : Int32)), .val (.ref b61), .val (.ref b64), .val (.ref b67), .val (.ref mu), .val (.int (1 : Int32)), .val (.ref b64), .val (.ref b64), .val (.ref a_WRITE)]) rfl q) ?_
          refine Goes.by (g' := (mkF m 198 #[.val (.int p0), .val (.int (0 : Int32)), .val (.int (0 : Int32)), .val (.int (0 : Int32)), .val (.int (1 : Int32)), .val (.ref b61), .val (.ref b64), .val (.ref b67), .val (.ref mu), .val (.int (1 : Int32)), .val (.ref b64), .val (.ref b64), .val (.ref a_WRITE)] [(.int (1 : Int32))])) (fun _ q => XS.iload X.here X.hx rfl (hb hby at_196) rfl q) ?_
          refine Goes.by (g' := (mkF m 201 #[.val (.int p0), .val (.int (0 : Int32)), .val (.int (0 : Int32)), .val (.int (0 : Int32)), .val (.int (1 : Int32)), .val (.ref b61), .val (.ref b64), .val (.ref b67), .val (.ref mu), .val (.int (1 : Int32)), .val (.ref b64), .val (.ref b64), .val (.ref a_WRITE)] [])) (fun _ q => XS.ifNo X.here X.hx rfl (hb hby at_198) rfl ((if0 _ _).trans (feq (show ¬ (1 : Int32) = (0 : Int32) from (by decide))).1) q) ?_
          refine Goes.by (g' := (mkF m 203 #[.val (.int p0), .val (.int (0 : Int32)), .val (.int (0 : Int32)), .val (.int (0 : Int32)), .val (.int (1 : Int32)), .val (.ref b61), .val (.ref b64), .val (.ref b67), .val (.ref mu), .val (.int (1 : Int32)), .val (.ref b64), .val (.ref b64), .val (.ref a_WRITE)] [(.ref b64)])) (fun _ q => XS.aload X.here X.hx rfl (hb hby at_201) rfl rfl q) ?_
          refine Goes.by (g' := (mkF m 205 #[.val (.int p0), .val (.int (0 : Int32)), .val (.int (0 : Int32)), .val (.int (0 : Int32)), .val (.int (1 : Int32)), .val (.ref b61), .val (.ref b64), .val (.ref b67), .val (.ref mu), .val (.int (1 : Int32)), .val (.ref b64), .val (.ref b64), .val (.ref a_WRITE)] [(.ref b64), (.ref b64)])) (fun _ q => XS.aload X.here X.hx rfl (hb hby at_203) rfl rfl q) ?_
          refine X.acmp rfl rfl (cd := .ne) (x := (.ref b64)) (y := (.ref b64)) (same := true) (pc' := 208) (hb hby at_205) (decide_eq_true rfl) (by decide) (by decide) ?_
          show Goes _ _ _ _ _ _ _ _ T (mkF m 208 #[.val (.int p0), .val (.int (0 : Int32)), .val (.int (0 : Int32)), .val (.int (0 : Int32)), .val (.int (1 : Int32)), .val (.ref b61), .val (.ref b64), .val (.ref b67), .val (.ref mu), .val (.int (1 : Int32)), .val (.ref b64), .val (.ref b64), .val (.ref a_WRITE)] [])
          refine Goes.by (g' := (mkF m 210 #[.val (.int p0), .val (.int (0 : Int32)), .val (.int (0 : Int32)), .val (.int (0 : Int32)), .val (.int (1 : Int32)), .val (.ref b61), .val (.ref b64), .val (.ref b67), .val (.ref mu), .val (.int (1 : Int32)), .val (.ref b64), .val (.ref b64), .val (.ref a_WRITE)] [(.ref b61)])) (fun _ q => XS.aload X.here X.hx rfl (hb hby at_208) rfl rfl q) ?_
          have X_o := X
          refine X.callV E_b61 (hw _ (List.mem_of_getElem? (i := 124) rfl)) (hw _ (List.mem_of_getElem? (i := 125) rfl)) (hw _ (List.mem_of_getElem? (i := 127) rfl)) (hw _ (List.mem_of_getElem? (i := 103) rfl)) rfl (hw _ (List.mem_of_getElem? (i := 126) rfl)) (hw _ (List.mem_of_getElem? (i := 2) rfl)) (hw _ (List.mem_of_getElem? (i := 128) rfl)) (by decide) pd_193422000 (argsL := []) rfl (rm_getAllowCreate l Z a0 hw n0 h71 X.n0le b61 (0 : Int32) (by decide) F_b61_allowCreate) (by rw [hml]; rfl) rfl (by decide) (leB rfl) (hb hby at_210) (by decide) (by decide) (fun T h73 v X hQ => ?_)
          obtain ⟨rfl, hh⟩ := hQ
          rw [hh] at X
          clear hh
          show Goes _ _ _ _ _ _ _ _ T (mkF m 213 #[.val (.int p0), .val (.int (0 : Int32)), .val (.int (0 : Int32)), .val (.int (0 : Int32)), .val (.int (1 : Int32)), .val (.ref b61), .val (.ref b64), .val (.ref b67), .val (.ref mu), .val (.int (1 : Int32)), .val (.ref b64), .val (.ref b64), .val (.ref a_WRITE)] [(.int (0 : Int32))])
          refine Goes.by (g' := (mkF m 214 #[.val (.int p0), .val (.int (0 : Int32)), .val (.int (0 : Int32)), .val (.int (0 : Int32)), .val (.int (1 : Int32)), .val (.ref b61), .val (.ref b64), .val (.ref b67), .val (.ref mu), .val (.int (1 : Int32)), .val (.ref b64), .val (.ref b64), .val (.ref a_WRITE)] [(.int (0 : Int32)), (.int (0 : Int32))])) (fun _ q => XS.iloadN X.here X.hx rfl (hb hby at_213) rfl q) ?_
          refine Goes.by (g' := (mkF m 217 #[.val (.int p0), .val (.int (0 : Int32)), .val (.int (0 : Int32)), .val (.int (0 : Int32)), .val (.int (1 : Int32)), .val (.ref b61), .val (.ref b64), .val (.ref b67), .val (.ref mu), .val (.int (1 : Int32)), .val (.ref b64), .val (.ref b64), .val (.ref a_WRITE)] [])) (fun _ q => XS.icmpNo X.here X.hx rfl (hb hby at_214) rfl (teq (show (0 : Int32) = (0 : Int32) from (by decide))).2 q) ?_
          refine Goes.by (g' := (mkF m 219 #[.val (.int p0), .val (.int (0 : Int32)), .val (.int (0 : Int32)), .val (.int (0 : Int32)), .val (.int (1 : Int32)), .val (.ref b61), .val (.ref b64), .val (.ref b67), .val (.ref mu), .val (.int (1 : Int32)), .val (.ref b64), .val (.ref b64), .val (.ref a_WRITE)] [(.ref b61)])) (fun _ q => XS.aload X.here X.hx rfl (hb hby at_217) rfl rfl q) ?_
          have X_o := X
          refine X.callV E_b61 (hw _ (List.mem_of_getElem? (i := 131) rfl)) (hw _ (List.mem_of_getElem? (i := 132) rfl)) (hw _ (List.mem_of_getElem? (i := 134) rfl)) (hw _ (List.mem_of_getElem? (i := 103) rfl)) rfl (hw _ (List.mem_of_getElem? (i := 133) rfl)) (hw _ (List.mem_of_getElem? (i := 2) rfl)) (hw _ (List.mem_of_getElem? (i := 135) rfl)) (by decide) pd_2323304547 (argsL := []) rfl (rm_getDurability l Z a0 hw n0 h71 X.n0le b61 a_WRITE  F_b61_durability) (by rw [hml]; rfl) rfl (by decide) (leB rfl) (hb hby at_219) (by decide) (by decide) (fun T h74 v X hQ => ?_)
          obtain ⟨rfl, hh⟩ := hQ
          rw [hh] at X
          clear hh
          show Goes _ _ _ _ _ _ _ _ T (mkF m 222 #[.val (.int p0), .val (.int (0 : Int32)), .val (.int (0 : Int32)), .val (.int (0 : Int32)), .val (.int (1 : Int32)), .val (.ref b61), .val (.ref b64), .val (.ref b67), .val (.ref mu), .val (.int (1 : Int32)), .val (.ref b64), .val (.ref b64), .val (.ref a_WRITE)] [(.ref a_WRITE)])
          refine Goes.by (g' := (mkF m 224 #[.val (.int p0), .val (.int (0 : Int32)), .val (.int (0 : Int32)), .val (.int (0 : Int32)), .val (.int (1 : Int32)), .val (.ref b61), .val (.ref b64), .val (.ref b67), .val (.ref mu), .val (.int (1 : Int32)), .val (.ref b64), .val (.ref b64), .val (.ref a_WRITE)] [(.ref a_WRITE), (.ref a_WRITE)])) (fun _ q => XS.aload X.here X.hx rfl (hb hby at_222) rfl rfl q) ?_
          refine X.acmp rfl rfl (cd := .ne) (x := (.ref a_WRITE)) (y := (.ref a_WRITE)) (same := true) (pc' := 227) (hb hby at_224) (decide_eq_true rfl) (by decide) (by decide) ?_
          show Goes _ _ _ _ _ _ _ _ T (mkF m 227 #[.val (.int p0), .val (.int (0 : Int32)), .val (.int (0 : Int32)), .val (.int (0 : Int32)), .val (.int (1 : Int32)), .val (.ref b61), .val (.ref b64), .val (.ref b67), .val (.ref mu), .val (.int (1 : Int32)), .val (.ref b64), .val (.ref b64), .val (.ref a_WRITE)] [])
          refine Goes.by (g' := (mkF m 228 #[.val (.int p0), .val (.int (0 : Int32)), .val (.int (0 : Int32)), .val (.int (0 : Int32)), .val (.int (1 : Int32)), .val (.ref b61), .val (.ref b64), .val (.ref b67), .val (.ref mu), .val (.int (1 : Int32)), .val (.ref b64), .val (.ref b64), .val (.ref a_WRITE)] [(.int (1 : Int32))])) (fun _ q => XS.iconst X.here X.hx rfl (hb hby at_227) q) ?_
          refine Goes.by (g' := (mkF m 232 #[.val (.int p0), .val (.int (0 : Int32)), .val (.int (0 : Int32)), .val (.int (0 : Int32)), .val (.int (1 : Int32)), .val (.ref b61), .val (.ref b64), .val (.ref b67), .val (.ref mu), .val (.int (1 : Int32)), .val (.ref b64), .val (.ref b64), .val (.ref a_WRITE)] [(.int (1 : Int32))])) (fun _ q => XS.goto X.here X.hx rfl (pc0 := 228) (pc' := 232) rfl (hb hby at_228) (by decide) (by decide) q) ?_
          exact X.retZ hret (hb hby at_232) (by decide) (by decide) rfl
      · skip
        refine Goes.by (g' := (mkF m 30 #[.val (.int p0), .val (.int (0 : Int32)), .val (.int (0 : Int32)), .unset, .unset, .unset, .unset, .unset, .unset, .unset, .unset, .unset, .unset] [])) (fun _ q => XS.ifNo X.here X.hx rfl (hb hby at_27) rfl ((if0 _ _).trans (feq hB45).1) q) ?_
        refine Goes.by (g' := (mkF m 31 #[.val (.int p0), .val (.int (0 : Int32)), .val (.int (0 : Int32)), .unset, .unset, .unset, .unset, .unset, .unset, .unset, .unset, .unset, .unset] [(.int (1 : Int32))])) (fun _ q => XS.iconst X.here X.hx rfl (hb hby at_30) q) ?_
        refine Goes.by (g' := (mkF m 35 #[.val (.int p0), .val (.int (0 : Int32)), .val (.int (0 : Int32)), .unset, .unset, .unset, .unset, .unset, .unset, .unset, .unset, .unset, .unset] [(.int (1 : Int32))])) (fun _ q => XS.goto X.here X.hx rfl (pc0 := 31) (pc' := 35) rfl (hb hby at_31) (by decide) (by decide) q) ?_
        refine Goes.by (g' := (mkF m 36 #[.val (.int p0), .val (.int (0 : Int32)), .val (.int (0 : Int32)), .val (.int (1 : Int32)), .unset, .unset, .unset, .unset, .unset, .unset, .unset, .unset, .unset] [])) (fun _ q => XS.istoreN X.here X.hx rfl (hb hby at_35) rfl (l' := #[.val (.int p0), .val (.int (0 : Int32)), .val (.int (0 : Int32)), .val (.int (1 : Int32)), .unset, .unset, .unset, .unset, .unset, .unset, .unset, .unset, .unset]) rfl q) ?_
        refine Goes.by (g' := (mkF m 37 #[.val (.int p0), .val (.int (0 : Int32)), .val (.int (0 : Int32)), .val (.int (1 : Int32)), .unset, .unset, .unset, .unset, .unset, .unset, .unset, .unset, .unset] [(.int p0)])) (fun _ q => XS.iloadN X.here X.hx rfl (hb hby at_36) rfl q) ?_
        refine Goes.by (g' := (mkF m 39 #[.val (.int p0), .val (.int (0 : Int32)), .val (.int (0 : Int32)), .val (.int (1 : Int32)), .unset, .unset, .unset, .unset, .unset, .unset, .unset, .unset, .unset] [(.int (8 : Int32)), (.int p0)])) (fun _ q => XS.bipush X.here X.hx rfl (hb hby at_37) q) ?_
        refine Goes.by (g' := (mkF m 40 #[.val (.int p0), .val (.int (0 : Int32)), .val (.int (0 : Int32)), .val (.int (1 : Int32)), .unset, .unset, .unset, .unset, .unset, .unset, .unset, .unset, .unset] [(.int (p0 &&& (8 : Int32)))])) (fun _ q => XS.iand X.here X.hx rfl (hb hby at_39) rfl q) ?_
        by_cases hB75 : (p0 &&& (8 : Int32)) = (0 : Int32)
        · skip
          refine Goes.by (g' := (mkF m 47 #[.val (.int p0), .val (.int (0 : Int32)), .val (.int (0 : Int32)), .val (.int (1 : Int32)), .unset, .unset, .unset, .unset, .unset, .unset, .unset, .unset, .unset] [])) (fun _ q => XS.ifYes X.here X.hx rfl (pc0 := 40) (pc' := 47) rfl (hb hby at_40) rfl ((if0 _ _).trans (teq hB75).1) (by decide) (by decide) q) ?_
          refine Goes.by (g' := (mkF m 48 #[.val (.int p0), .val (.int (0 : Int32)), .val (.int (0 : Int32)), .val (.int (1 : Int32)), .unset, .unset, .unset, .unset, .unset, .unset, .unset, .unset, .unset] [(.int (0 : Int32))])) (fun _ q => XS.iconst X.here X.hx rfl (hb hby at_47) q) ?_
          refine Goes.by (g' := (mkF m 50 #[.val (.int p0), .val (.int (0 : Int32)), .val (.int (0 : Int32)), .val (.int (1 : Int32)), .val (.int (0 : Int32)), .unset, .unset, .unset, .unset, .unset, .unset, .unset, .unset] [])) (fun _ q => XS.istore X.here X.hx rfl (hb hby at_48) rfl (l' := #[.val (.int p0), .val (.int (0 : Int32)), .val (.int (0 : Int32)), .val (.int (1 : Int32)), .val (.int (0 : Int32)), .unset, .unset, .unset, .unset, .unset, .unset, .unset, .unset]) rfl q) ?_
          refine X.newO (hw _ (List.mem_of_getElem? (i := 0) rfl)) (hw _ (List.mem_of_getElem? (i := 1) rfl)) (hw _ (List.mem_of_getElem? (i := 2) rfl)) (hb hby at_50) (by decide) (by decide) (fun T h77 b76 X g_b76 ga_b76 E E_b76 D_b76 => ?_)
          have O_ := O_.ext E
          have F_b76_mutations : Fld Z h77 b76 "com/example/hafiza/hafiza/StoreConfig" "mutations" "Lcom/example/hafiza/hafiza/Mutations;" .null := D_b76 (Or.inl (hw _ (List.mem_of_getElem? (i := 92) rfl))) (ty := (.object "com/example/hafiza/hafiza/Mutations")) (by decide)
          have F_b76_durability : Fld Z h77 b76 "com/example/hafiza/hafiza/StoreConfig" "durability" "Lcom/example/hafiza/hafiza/Durability;" .null := D_b76 (Or.inl (hw _ (List.mem_of_getElem? (i := 97) rfl))) (ty := (.object "com/example/hafiza/hafiza/Durability")) (by decide)
          have F_b76_allowCreate : Fld Z h77 b76 "com/example/hafiza/hafiza/StoreConfig" "allowCreate" "Z" (.int (0 : Int32)) := D_b76 (Or.inl (hw _ (List.mem_of_getElem? (i := 130) rfl))) (ty := .boolean) (by decide)
          show Goes _ _ _ _ _ _ _ _ T (mkF m 53 #[.val (.int p0), .val (.int (0 : Int32)), .val (.int (0 : Int32)), .val (.int (1 : Int32)), .val (.int (0 : Int32)), .unset, .unset, .unset, .unset, .unset, .unset, .unset, .unset] [(.ref b76)])
          refine Goes.by (g' := (mkF m 54 #[.val (.int p0), .val (.int (0 : Int32)), .val (.int (0 : Int32)), .val (.int (1 : Int32)), .val (.int (0 : Int32)), .unset, .unset, .unset, .unset, .unset, .unset, .unset, .unset] [(.ref b76), (.ref b76)])) (fun _ q => XS.dup X.here X.hx rfl (hb hby at_53) rfl rfl q) ?_
          have X_o := X
          refine X.callN rfl (hw _ (List.mem_of_getElem? (i := 3) rfl)) (hw _ (List.mem_of_getElem? (i := 4) rfl)) (hw _ (List.mem_of_getElem? (i := 2) rfl)) (hw _ (List.mem_of_getElem? (i := 5) rfl)) (by decide) pd_193421996 (argsL := []) rfl (rmSC l Z a0 hw n0 h77 X.n0le b76 ga_b76 E_b76 F_b76_mutations F_b76_durability F_b76_allowCreate a_WRITE S_WRITE O_) (by rw [hml]; rfl) rfl (by decide) (leB rfl) (hb hby at_54) (by decide) (by decide) (fun T h78 v X hQ => ?_)
          obtain ⟨rfl, K, mu, gz, E_mu, F_b76_mutations, F_b76_durability, F_b76_allowCreate⟩ := hQ
          have ga_mu : n0 ≤ mu := Nat.le_trans X_o.n0le gz
          have ne_b76_mu : b76 ≠ mu := Nat.ne_of_lt (Nat.lt_of_lt_of_le E_b76.lt gz)
          have O_ := O_.keep K (allS ga_b76 all0)
          have E_b76 := E_b76.keep K
          show Goes _ _ _ _ _ _ _ _ T (mkF m 57 #[.val (.int p0), .val (.int (0 : Int32)), .val (.int (0 : Int32)), .val (.int (1 : Int32)), .val (.int (0 : Int32)), .unset, .unset, .unset, .unset, .unset, .unset, .unset, .unset] [(.ref b76)])
          refine Goes.by (g' := (mkF m 59 #[.val (.int p0), .val (.int (0 : Int32)), .val (.int (0 : Int32)), .val (.int (1 : Int32)), .val (.int (0 : Int32)), .val (.ref b76), .unset, .unset, .unset, .unset, .unset, .unset, .unset] [])) (fun _ q => XS.astore X.here X.hx rfl (hb hby at_57) rfl rfl (l' := #[.val (.int p0), .val (.int (0 : Int32)), .val (.int (0 : Int32)), .val (.int (1 : Int32)), .val (.int (0 : Int32)), .val (.ref b76), .unset, .unset, .unset, .unset, .unset, .unset, .unset]) rfl q) ?_
          refine Goes.by (g' := (mkF m 60 #[.val (.int p0), .val (.int (0 : Int32)), .val (.int (0 : Int32)), .val (.int (1 : Int32)), .val (.int (0 : Int32)), .val (.ref b76), .unset, .unset, .unset, .unset, .unset, .unset, .unset] [(.int (0 : Int32))])) (fun _ q => XS.iloadN X.here X.hx rfl (hb hby at_59) rfl q) ?_
          refine Goes.by (g' := (mkF m 69 #[.val (.int p0), .val (.int (0 : Int32)), .val (.int (0 : Int32)), .val (.int (1 : Int32)), .val (.int (0 : Int32)), .val (.ref b76), .unset, .unset, .unset, .unset, .unset, .unset, .unset] [])) (fun _ q => XS.ifYes X.here X.hx rfl (pc0 := 60) (pc' := 69) rfl (hb hby at_60) rfl ((if0 _ _).trans (teq (show (0 : Int32) = (0 : Int32) from (by decide))).1) (by decide) (by decide) q) ?_
          refine Goes.by (g' := (mkF m 70 #[.val (.int p0), .val (.int (0 : Int32)), .val (.int (0 : Int32)), .val (.int (1 : Int32)), .val (.int (0 : Int32)), .val (.ref b76), .unset, .unset, .unset, .unset, .unset, .unset, .unset] [(.int (0 : Int32))])) (fun _ q => XS.iloadN X.here X.hx rfl (hb hby at_69) rfl q) ?_
          refine Goes.by (g' := (mkF m 81 #[.val (.int p0), .val (.int (0 : Int32)), .val (.int (0 : Int32)), .val (.int (1 : Int32)), .val (.int (0 : Int32)), .val (.ref b76), .unset, .unset, .unset, .unset, .unset, .unset, .unset] [])) (fun _ q => XS.ifYes X.here X.hx rfl (pc0 := 70) (pc' := 81) rfl (hb hby at_70) rfl ((if0 _ _).trans (teq (show (0 : Int32) = (0 : Int32) from (by decide))).1) (by decide) (by decide) q) ?_
          refine X.newO (hw _ (List.mem_of_getElem? (i := 98) rfl)) (hw _ (List.mem_of_getElem? (i := 10) rfl)) (hw _ (List.mem_of_getElem? (i := 11) rfl)) (hb hby at_81) (by decide) (by decide) (fun T h80 b79 X g_b79 ga_b79 E E_b79 D_b79 => ?_)
          have ne_b76_b79 : b76 ≠ b79 := by rw [g_b79]; exact Nat.ne_of_lt E_b76.lt
          have ne_mu_b79 : mu ≠ b79 := by rw [g_b79]; exact Nat.ne_of_lt E_mu.lt
          have O_ := O_.ext E
          have E_b76 := E_b76.ext E
          have E_mu := E_mu.ext E
          have F_b76_mutations := F_b76_mutations.ext E
          have F_b76_durability := F_b76_durability.ext E
          have F_b76_allowCreate := F_b76_allowCreate.ext E
          have F_b79_renamers : Fld Z h80 b79 "com/example/hafiza/hafiza/Mutations" "renamers" "Ljava/util/Set;" .null := D_b79 (Or.inr (hw _ (List.mem_of_getElem? (i := 86) rfl))) (ty := (.object "java/util/Set")) (by decide)
          have F_b79_deleters : Fld Z h80 b79 "com/example/hafiza/hafiza/Mutations" "deleters" "Ljava/util/Set;" .null := D_b79 (Or.inr (hw _ (List.mem_of_getElem? (i := 88) rfl))) (ty := (.object "java/util/Set")) (by decide)
          have F_b79_converters : Fld Z h80 b79 "com/example/hafiza/hafiza/Mutations" "converters" "Ljava/util/Set;" .null := D_b79 (Or.inr (hw _ (List.mem_of_getElem? (i := 90) rfl))) (ty := (.object "java/util/Set")) (by decide)
          show Goes _ _ _ _ _ _ _ _ T (mkF m 84 #[.val (.int p0), .val (.int (0 : Int32)), .val (.int (0 : Int32)), .val (.int (1 : Int32)), .val (.int (0 : Int32)), .val (.ref b76), .unset, .unset, .unset, .unset, .unset, .unset, .unset] [(.ref b79)])
          refine Goes.by (g' := (mkF m 85 #[.val (.int p0), .val (.int (0 : Int32)), .val (.int (0 : Int32)), .val (.int (1 : Int32)), .val (.int (0 : Int32)), .val (.ref b76), .unset, .unset, .unset, .unset, .unset, .unset, .unset] [(.ref b79), (.ref b79)])) (fun _ q => XS.dup X.here X.hx rfl (hb hby at_84) rfl rfl q) ?_
          have X_o := X
          refine X.callN rfl (hw _ (List.mem_of_getElem? (i := 99) rfl)) (hw _ (List.mem_of_getElem? (i := 13) rfl)) (hw _ (List.mem_of_getElem? (i := 11) rfl)) (hw _ (List.mem_of_getElem? (i := 14) rfl)) (by decide) pd_193421996 (argsL := []) rfl (rmMU l Z a0 hw n0 h80 X.n0le b79 ga_b79 E_b79 F_b79_renamers F_b79_deleters F_b79_converters) (by rw [hml]; rfl) rfl (by decide) (leB rfl) (hb hby at_85) (by decide) (by decide) (fun T h81 v X hQ => ?_)
          obtain ⟨rfl, K⟩ := hQ
          have O_ := O_.keep K (allS ga_b79 all0)
          have E_b76 := E_b76.keep K
          have E_mu := E_mu.keep K
          have F_b76_mutations := F_b76_mutations.keep K (ninS ne_b76_b79 nin0)
          have F_b76_durability := F_b76_durability.keep K (ninS ne_b76_b79 nin0)
          have F_b76_allowCreate := F_b76_allowCreate.keep K (ninS ne_b76_b79 nin0)
          have E_b79 := E_b79.keep K
          show Goes _ _ _ _ _ _ _ _ T (mkF m 88 #[.val (.int p0), .val (.int (0 : Int32)), .val (.int (0 : Int32)), .val (.int (1 : Int32)), .val (.int (0 : Int32)), .val (.ref b76), .unset, .unset, .unset, .unset, .unset, .unset, .unset] [(.ref b79)])
          refine Goes.by (g' := (mkF m 90 #[.val (.int p0), .val (.int (0 : Int32)), .val (.int (0 : Int32)), .val (.int (1 : Int32)), .val (.int (0 : Int32)), .val (.ref b76), .val (.ref b79), .unset, .unset, .unset, .unset, .unset, .unset] [])) (fun _ q => XS.astore X.here X.hx rfl (hb hby at_88) rfl rfl (l' := #[.val (.int p0), .val (.int (0 : Int32)), .val (.int (0 : Int32)), .val (.int (1 : Int32)), .val (.int (0 : Int32)), .val (.ref b76), .val (.ref b79), .unset, .unset, .unset, .unset, .unset, .unset]) rfl q) ?_
          refine X.newO (hw _ (List.mem_of_getElem? (i := 98) rfl)) (hw _ (List.mem_of_getElem? (i := 10) rfl)) (hw _ (List.mem_of_getElem? (i := 11) rfl)) (hb hby at_90) (by decide) (by decide) (fun T h83 b82 X g_b82 ga_b82 E E_b82 D_b82 => ?_)
          have ne_b76_b82 : b76 ≠ b82 := by rw [g_b82]; exact Nat.ne_of_lt E_b76.lt
          have ne_mu_b82 : mu ≠ b82 := by rw [g_b82]; exact Nat.ne_of_lt E_mu.lt
          have ne_b79_b82 : b79 ≠ b82 := by rw [g_b82]; exact Nat.ne_of_lt E_b79.lt
          have O_ := O_.ext E
          have E_b76 := E_b76.ext E
          have E_mu := E_mu.ext E
          have F_b76_mutations := F_b76_mutations.ext E
          have F_b76_durability := F_b76_durability.ext E
          have F_b76_allowCreate := F_b76_allowCreate.ext E
          have E_b79 := E_b79.ext E
          have F_b82_renamers : Fld Z h83 b82 "com/example/hafiza/hafiza/Mutations" "renamers" "Ljava/util/Set;" .null := D_b82 (Or.inr (hw _ (List.mem_of_getElem? (i := 86) rfl))) (ty := (.object "java/util/Set")) (by decide)
          have F_b82_deleters : Fld Z h83 b82 "com/example/hafiza/hafiza/Mutations" "deleters" "Ljava/util/Set;" .null := D_b82 (Or.inr (hw _ (List.mem_of_getElem? (i := 88) rfl))) (ty := (.object "java/util/Set")) (by decide)
          have F_b82_converters : Fld Z h83 b82 "com/example/hafiza/hafiza/Mutations" "converters" "Ljava/util/Set;" .null := D_b82 (Or.inr (hw _ (List.mem_of_getElem? (i := 90) rfl))) (ty := (.object "java/util/Set")) (by decide)
          show Goes _ _ _ _ _ _ _ _ T (mkF m 93 #[.val (.int p0), .val (.int (0 : Int32)), .val (.int (0 : Int32)), .val (.int (1 : Int32)), .val (.int (0 : Int32)), .val (.ref b76), .val (.ref b79), .unset, .unset, .unset, .unset, .unset, .unset] [(.ref b82)])
          refine Goes.by (g' := (mkF m 94 #[.val (.int p0), .val (.int (0 : Int32)), .val (.int (0 : Int32)), .val (.int (1 : Int32)), .val (.int (0 : Int32)), .val (.ref b76), .val (.ref b79), .unset, .unset, .unset, .unset, .unset, .unset] [(.ref b82), (.ref b82)])) (fun _ q => XS.dup X.here X.hx rfl (hb hby at_93) rfl rfl q) ?_
          have X_o := X
          refine X.callN rfl (hw _ (List.mem_of_getElem? (i := 99) rfl)) (hw _ (List.mem_of_getElem? (i := 13) rfl)) (hw _ (List.mem_of_getElem? (i := 11) rfl)) (hw _ (List.mem_of_getElem? (i := 14) rfl)) (by decide) pd_193421996 (argsL := []) rfl (rmMU l Z a0 hw n0 h83 X.n0le b82 ga_b82 E_b82 F_b82_renamers F_b82_deleters F_b82_converters) (by rw [hml]; rfl) rfl (by decide) (leB rfl) (hb hby at_94) (by decide) (by decide) (fun T h84 v X hQ => ?_)
          obtain ⟨rfl, K⟩ := hQ
          have O_ := O_.keep K (allS ga_b82 all0)
          have E_b76 := E_b76.keep K
          have E_mu := E_mu.keep K
          have F_b76_mutations := F_b76_mutations.keep K (ninS ne_b76_b82 nin0)
          have F_b76_durability := F_b76_durability.keep K (ninS ne_b76_b82 nin0)
          have F_b76_allowCreate := F_b76_allowCreate.keep K (ninS ne_b76_b82 nin0)
          have E_b79 := E_b79.keep K
          have E_b82 := E_b82.keep K
          show Goes _ _ _ _ _ _ _ _ T (mkF m 97 #[.val (.int p0), .val (.int (0 : Int32)), .val (.int (0 : Int32)), .val (.int (1 : Int32)), .val (.int (0 : Int32)), .val (.ref b76), .val (.ref b79), .unset, .unset, .unset, .unset, .unset, .unset] [(.ref b82)])
          refine Goes.by (g' := (mkF m 99 #[.val (.int p0), .val (.int (0 : Int32)), .val (.int (0 : Int32)), .val (.int (1 : Int32)), .val (.int (0 : Int32)), .val (.ref b76), .val (.ref b79), .val (.ref b82), .unset, .unset, .unset, .unset, .unset] [])) (fun _ q => XS.astore X.here X.hx rfl (hb hby at_97) rfl rfl (l' := #[.val (.int p0), .val (.int (0 : Int32)), .val (.int (0 : Int32)), .val (.int (1 : Int32)), .val (.int (0 : Int32)), .val (.ref b76), .val (.ref b79), .val (.ref b82), .unset, .unset, .unset, .unset, .unset]) rfl q) ?_
          refine Goes.by (g' := (mkF m 101 #[.val (.int p0), .val (.int (0 : Int32)), .val (.int (0 : Int32)), .val (.int (1 : Int32)), .val (.int (0 : Int32)), .val (.ref b76), .val (.ref b79), .val (.ref b82), .unset, .unset, .unset, .unset, .unset] [(.ref b76)])) (fun _ q => XS.aload X.here X.hx rfl (hb hby at_99) rfl rfl q) ?_
          have X_o := X
          refine X.callV E_b76 (hw _ (List.mem_of_getElem? (i := 100) rfl)) (hw _ (List.mem_of_getElem? (i := 101) rfl)) (hw _ (List.mem_of_getElem? (i := 103) rfl)) (hw _ (List.mem_of_getElem? (i := 103) rfl)) rfl (hw _ (List.mem_of_getElem? (i := 102) rfl)) (hw _ (List.mem_of_getElem? (i := 2) rfl)) (hw _ (List.mem_of_getElem? (i := 104) rfl)) (by decide) pd_2544813166 (argsL := []) rfl (rm_getMutations l Z a0 hw n0 h84 X.n0le b76 mu  F_b76_mutations) (by rw [hml]; rfl) rfl (by decide) (leB rfl) (hb hby at_101) (by decide) (by decide) (fun T h85 v X hQ => ?_)
          obtain ⟨rfl, hh⟩ := hQ
          rw [hh] at X
          clear hh
          show Goes _ _ _ _ _ _ _ _ T (mkF m 104 #[.val (.int p0), .val (.int (0 : Int32)), .val (.int (0 : Int32)), .val (.int (1 : Int32)), .val (.int (0 : Int32)), .val (.ref b76), .val (.ref b79), .val (.ref b82), .unset, .unset, .unset, .unset, .unset] [(.ref mu)])
          refine Goes.by (g' := (mkF m 106 #[.val (.int p0), .val (.int (0 : Int32)), .val (.int (0 : Int32)), .val (.int (1 : Int32)), .val (.int (0 : Int32)), .val (.ref b76), .val (.ref b79), .val (.ref b82), .val (.ref mu), .unset, .unset, .unset, .unset] [])) (fun _ q => XS.astore X.here X.hx rfl (hb hby at_104) rfl rfl (l' := #[.val (.int p0), .val (.int (0 : Int32)), .val (.int (0 : Int32)), .val (.int (1 : Int32)), .val (.int (0 : Int32)), .val (.ref b76), .val (.ref b79), .val (.ref b82), .val (.ref mu), .unset, .unset, .unset, .unset]) rfl q) ?_
          refine Goes.by (g' := (mkF m 108 #[.val (.int p0), .val (.int (0 : Int32)), .val (.int (0 : Int32)), .val (.int (1 : Int32)), .val (.int (0 : Int32)), .val (.ref b76), .val (.ref b79), .val (.ref b82), .val (.ref mu), .unset, .unset, .unset, .unset] [(.ref mu)])) (fun _ q => XS.aload X.here X.hx rfl (hb hby at_106) rfl rfl q) ?_
          refine Goes.by (g' := (mkF m 111 #[.val (.int p0), .val (.int (0 : Int32)), .val (.int (0 : Int32)), .val (.int (1 : Int32)), .val (.int (0 : Int32)), .val (.ref b76), .val (.ref b79), .val (.ref b82), .val (.ref mu), .unset, .unset, .unset, .unset] [])) (fun _ q => XS.ifnullNo X.here X.hx rfl (hb hby at_108) rfl q) ?_
          refine Goes.by (g' := (mkF m 113 #[.val (.int p0), .val (.int (0 : Int32)), .val (.int (0 : Int32)), .val (.int (1 : Int32)), .val (.int (0 : Int32)), .val (.ref b76), .val (.ref b79), .val (.ref b82), .val (.ref mu), .unset, .unset, .unset, .unset] [(.ref mu)])) (fun _ q => XS.aload X.here X.hx rfl (hb hby at_111) rfl rfl q) ?_
          refine Goes.by (g' := (mkF m 115 #[.val (.int p0), .val (.int (0 : Int32)), .val (.int (0 : Int32)), .val (.int (1 : Int32)), .val (.int (0 : Int32)), .val (.ref b76), .val (.ref b79), .val (.ref b82), .val (.ref mu), .unset, .unset, .unset, .unset] [(.ref b79), (.ref mu)])) (fun _ q => XS.aload X.here X.hx rfl (hb hby at_113) rfl rfl q) ?_
          refine X.acmp rfl rfl (cd := .eq) (x := (.ref mu)) (y := (.ref b79)) (same := false) (pc' := 118) (hb hby at_115) (decide_eq_false fun q => ne_mu_b79 (Value.ref.inj q)) (by decide) (by decide) ?_
          show Goes _ _ _ _ _ _ _ _ T (mkF m 118 #[.val (.int p0), .val (.int (0 : Int32)), .val (.int (0 : Int32)), .val (.int (1 : Int32)), .val (.int (0 : Int32)), .val (.ref b76), .val (.ref b79), .val (.ref b82), .val (.ref mu), .unset, .unset, .unset, .unset] [])
          refine Goes.by (g' := (mkF m 120 #[.val (.int p0), .val (.int (0 : Int32)), .val (.int (0 : Int32)), .val (.int (1 : Int32)), .val (.int (0 : Int32)), .val (.ref b76), .val (.ref b79), .val (.ref b82), .val (.ref mu), .unset, .unset, .unset, .unset] [(.ref mu)])) (fun _ q => XS.aload X.here X.hx rfl (hb hby at_118) rfl rfl q) ?_
          refine Goes.by (g' := (mkF m 122 #[.val (.int p0), .val (.int (0 : Int32)), .val (.int (0 : Int32)), .val (.int (1 : Int32)), .val (.int (0 : Int32)), .val (.ref b76), .val (.ref b79), .val (.ref b82), .val (.ref mu), .unset, .unset, .unset, .unset] [(.ref b82), (.ref mu)])) (fun _ q => XS.aload X.here X.hx rfl (hb hby at_120) rfl rfl q) ?_
          refine X.acmp rfl rfl (cd := .eq) (x := (.ref mu)) (y := (.ref b82)) (same := false) (pc' := 125) (hb hby at_122) (decide_eq_false fun q => ne_mu_b82 (Value.ref.inj q)) (by decide) (by decide) ?_
          show Goes _ _ _ _ _ _ _ _ T (mkF m 125 #[.val (.int p0), .val (.int (0 : Int32)), .val (.int (0 : Int32)), .val (.int (1 : Int32)), .val (.int (0 : Int32)), .val (.ref b76), .val (.ref b79), .val (.ref b82), .val (.ref mu), .unset, .unset, .unset, .unset] [])
          refine Goes.by (g' := (mkF m 126 #[.val (.int p0), .val (.int (0 : Int32)), .val (.int (0 : Int32)), .val (.int (1 : Int32)), .val (.int (0 : Int32)), .val (.ref b76), .val (.ref b79), .val (.ref b82), .val (.ref mu), .unset, .unset, .unset, .unset] [(.int (1 : Int32))])) (fun _ q => XS.iconst X.here X.hx rfl (hb hby at_125) q) ?_
          refine Goes.by (g' := (mkF m 130 #[.val (.int p0), .val (.int (0 : Int32)), .val (.int (0 : Int32)), .val (.int (1 : Int32)), .val (.int (0 : Int32)), .val (.ref b76), .val (.ref b79), .val (.ref b82), .val (.ref mu), .unset, .unset, .unset, .unset] [(.int (1 : Int32))])) (fun _ q => XS.goto X.here X.hx rfl (pc0 := 126) (pc' := 130) rfl (hb hby at_126) (by decide) (by decide) q) ?_
          refine Goes.by (g' := (mkF m 132 #[.val (.int p0), .val (.int (0 : Int32)), .val (.int (0 : Int32)), .val (.int (1 : Int32)), .val (.int (0 : Int32)), .val (.ref b76), .val (.ref b79), .val (.ref b82), .val (.ref mu), .val (.int (1 : Int32)), .unset, .unset, .unset] [])) (fun _ q => XS.istore X.here X.hx rfl (hb hby at_130) rfl (l' := #[.val (.int p0), .val (.int (0 : Int32)), .val (.int (0 : Int32)), .val (.int (1 : Int32)), .val (.int (0 : Int32)), .val (.ref b76), .val (.ref b79), .val (.ref b82), .val (.ref mu), .val (.int (1 : Int32)), .unset, .unset, .unset]) rfl q) ?_
          refine Goes.by (g' := (mkF m 133 #[.val (.int p0), .val (.int (0 : Int32)), .val (.int (0 : Int32)), .val (.int (1 : Int32)), .val (.int (0 : Int32)), .val (.ref b76), .val (.ref b79), .val (.ref b82), .val (.ref mu), .val (.int (1 : Int32)), .unset, .unset, .unset] [(.int (1 : Int32))])) (fun _ q => XS.iloadN X.here X.hx rfl (hb hby at_132) rfl q) ?_
          refine Goes.by (g' := (mkF m 136 #[.val (.int p0), .val (.int (0 : Int32)), .val (.int (0 : Int32)), .val (.int (1 : Int32)), .val (.int (0 : Int32)), .val (.ref b76), .val (.ref b79), .val (.ref b82), .val (.ref mu), .val (.int (1 : Int32)), .unset, .unset, .unset] [])) (fun _ q => XS.ifNo X.here X.hx rfl (hb hby at_133) rfl ((if0 _ _).trans (feq (show ¬ (1 : Int32) = (0 : Int32) from (by decide))).1) q) ?_
          refine Goes.by (g' := (mkF m 138 #[.val (.int p0), .val (.int (0 : Int32)), .val (.int (0 : Int32)), .val (.int (1 : Int32)), .val (.int (0 : Int32)), .val (.ref b76), .val (.ref b79), .val (.ref b82), .val (.ref mu), .val (.int (1 : Int32)), .unset, .unset, .unset] [(.ref b76)])) (fun _ q => XS.aload X.here X.hx rfl (hb hby at_136) rfl rfl q) ?_
          refine Goes.by (g' := (mkF m 140 #[.val (.int p0), .val (.int (0 : Int32)), .val (.int (0 : Int32)), .val (.int (1 : Int32)), .val (.int (0 : Int32)), .val (.ref b76), .val (.ref b79), .val (.ref b82), .val (.ref mu), .val (.int (1 : Int32)), .unset, .unset, .unset] [(.int (0 : Int32)), (.ref b76)])) (fun _ q => XS.iload X.here X.hx rfl (hb hby at_138) rfl q) ?_
          refine Goes.by (g' := (mkF m 148 #[.val (.int p0), .val (.int (0 : Int32)), .val (.int (0 : Int32)), .val (.int (1 : Int32)), .val (.int (0 : Int32)), .val (.ref b76), .val (.ref b79), .val (.ref b82), .val (.ref mu), .val (.int (1 : Int32)), .unset, .unset, .unset] [(.ref b76)])) (fun _ q => XS.ifYes X.here X.hx rfl (pc0 := 140) (pc' := 148) rfl (hb hby at_140) rfl ((if0 _ _).trans (teq (show (0 : Int32) = (0 : Int32) from (by decide))).1) (by decide) (by decide) q) ?_
          refine Goes.by (g' := (mkF m 150 #[.val (.int p0), .val (.int (0 : Int32)), .val (.int (0 : Int32)), .val (.int (1 : Int32)), .val (.int (0 : Int32)), .val (.ref b76), .val (.ref b79), .val (.ref b82), .val (.ref mu), .val (.int (1 : Int32)), .unset, .unset, .unset] [(.ref b79), (.ref b76)])) (fun _ q => XS.aload X.here X.hx rfl (hb hby at_148) rfl rfl q) ?_
          have X_o := X
          refine X.callV E_b76 (hw _ (List.mem_of_getElem? (i := 105) rfl)) (hw _ (List.mem_of_getElem? (i := 106) rfl)) (hw _ (List.mem_of_getElem? (i := 108) rfl)) (hw _ (List.mem_of_getElem? (i := 103) rfl)) rfl (hw _ (List.mem_of_getElem? (i := 107) rfl)) (hw _ (List.mem_of_getElem? (i := 2) rfl)) (hw _ (List.mem_of_getElem? (i := 109) rfl)) (by decide) pd_2932898788 (argsL := [(.ref b79)]) rfl (rm_setMutations l Z a0 hw n0 h84 X.n0le b76 b79 (.ref mu) ga_b76 E_b76 E_b79 F_b76_mutations (.ref a_WRITE) F_b76_durability (.int (0 : Int32)) F_b76_allowCreate) (by rw [hml]; rfl) rfl (by decide) (leB rfl) (hb hby at_150) (by decide) (by decide) (fun T h86 v X hQ => ?_)
          obtain ⟨rfl, K, F_b76_mutations, F_b76_durability, F_b76_allowCreate⟩ := hQ
          have O_ := O_.keep K (allS ga_b76 all0)
          have E_b76 := E_b76.keep K
          have E_mu := E_mu.keep K
          have E_b79 := E_b79.keep K
          have E_b82 := E_b82.keep K
          show Goes _ _ _ _ _ _ _ _ T (mkF m 153 #[.val (.int p0), .val (.int (0 : Int32)), .val (.int (0 : Int32)), .val (.int (1 : Int32)), .val (.int (0 : Int32)), .val (.ref b76), .val (.ref b79), .val (.ref b82), .val (.ref mu), .val (.int (1 : Int32)), .unset, .unset, .unset] [])
          refine Goes.by (g' := (mkF m 155 #[.val (.int p0), .val (.int (0 : Int32)), .val (.int (0 : Int32)), .val (.int (1 : Int32)), .val (.int (0 : Int32)), .val (.ref b76), .val (.ref b79), .val (.ref b82), .val (.ref mu), .val (.int (1 : Int32)), .unset, .unset, .unset] [(.int (0 : Int32))])) (fun _ q => XS.iload X.here X.hx rfl (hb hby at_153) rfl q) ?_
          refine Goes.by (g' := (mkF m 163 #[.val (.int p0), .val (.int (0 : Int32)), .val (.int (0 : Int32)), .val (.int (1 : Int32)), .val (.int (0 : Int32)), .val (.ref b76), .val (.ref b79), .val (.ref b82), .val (.ref mu), .val (.int (1 : Int32)), .unset, .unset, .unset] [])) (fun _ q => XS.ifYes X.here X.hx rfl (pc0 := 155) (pc' := 163) rfl (hb hby at_155) rfl ((if0 _ _).trans (teq (show (0 : Int32) = (0 : Int32) from (by decide))).1) (by decide) (by decide) q) ?_
          refine Goes.by (g' := (mkF m 165 #[.val (.int p0), .val (.int (0 : Int32)), .val (.int (0 : Int32)), .val (.int (1 : Int32)), .val (.int (0 : Int32)), .val (.ref b76), .val (.ref b79), .val (.ref b82), .val (.ref mu), .val (.int (1 : Int32)), .unset, .unset, .unset] [(.ref b82)])) (fun _ q => XS.aload X.here X.hx rfl (hb hby at_163) rfl rfl q) ?_
          refine Goes.by (g' := (mkF m 167 #[.val (.int p0), .val (.int (0 : Int32)), .val (.int (0 : Int32)), .val (.int (1 : Int32)), .val (.int (0 : Int32)), .val (.ref b76), .val (.ref b79), .val (.ref b82), .val (.ref mu), .val (.int (1 : Int32)), .val (.ref b82), .unset, .unset] [])) (fun _ q => XS.astore X.here X.hx rfl (hb hby at_165) rfl rfl (l' := #[.val (.int p0), .val (.int (0 : Int32)), .val (.int (0 : Int32)), .val (.int (1 : Int32)), .val (.int (0 : Int32)), .val (.ref b76), .val (.ref b79), .val (.ref b82), .val (.ref mu), .val (.int (1 : Int32)), .val (.ref b82), .unset, .unset]) rfl q) ?_
          refine Goes.by (g' := (mkF m 169 #[.val (.int p0), .val (.int (0 : Int32)), .val (.int (0 : Int32)), .val (.int (1 : Int32)), .val (.int (0 : Int32)), .val (.ref b76), .val (.ref b79), .val (.ref b82), .val (.ref mu), .val (.int (1 : Int32)), .val (.ref b82), .unset, .unset] [(.ref b76)])) (fun _ q => XS.aload X.here X.hx rfl (hb hby at_167) rfl rfl q) ?_
          refine Goes.by (g' := (mkF m 171 #[.val (.int p0), .val (.int (0 : Int32)), .val (.int (0 : Int32)), .val (.int (1 : Int32)), .val (.int (0 : Int32)), .val (.ref b76), .val (.ref b79), .val (.ref b82), .val (.ref mu), .val (.int (1 : Int32)), .val (.ref b82), .unset, .unset] [(.ref b82), (.ref b76)])) (fun _ q => XS.aload X.here X.hx rfl (hb hby at_169) rfl rfl q) ?_
          have X_o := X
          refine X.callV E_b76 (hw _ (List.mem_of_getElem? (i := 105) rfl)) (hw _ (List.mem_of_getElem? (i := 106) rfl)) (hw _ (List.mem_of_getElem? (i := 108) rfl)) (hw _ (List.mem_of_getElem? (i := 103) rfl)) rfl (hw _ (List.mem_of_getElem? (i := 107) rfl)) (hw _ (List.mem_of_getElem? (i := 2) rfl)) (hw _ (List.mem_of_getElem? (i := 109) rfl)) (by decide) pd_2932898788 (argsL := [(.ref b82)]) rfl (rm_setMutations l Z a0 hw n0 h86 X.n0le b76 b82 (.ref b79) ga_b76 E_b76 E_b82 F_b76_mutations (.ref a_WRITE) F_b76_durability (.int (0 : Int32)) F_b76_allowCreate) (by rw [hml]; rfl) rfl (by decide) (leB rfl) (hb hby at_171) (by decide) (by decide) (fun T h87 v X hQ => ?_)
          obtain ⟨rfl, K, F_b76_mutations, F_b76_durability, F_b76_allowCreate⟩ := hQ
          have O_ := O_.keep K (allS ga_b76 all0)
          have E_b76 := E_b76.keep K
          have E_mu := E_mu.keep K
          have E_b79 := E_b79.keep K
          have E_b82 := E_b82.keep K
          show Goes _ _ _ _ _ _ _ _ T (mkF m 174 #[.val (.int p0), .val (.int (0 : Int32)), .val (.int (0 : Int32)), .val (.int (1 : Int32)), .val (.int (0 : Int32)), .val (.ref b76), .val (.ref b79), .val (.ref b82), .val (.ref mu), .val (.int (1 : Int32)), .val (.ref b82), .unset, .unset] [])
          refine Goes.by (g' := (mkF m 176 #[.val (.int p0), .val (.int (0 : Int32)), .val (.int (0 : Int32)), .val (.int (1 : Int32)), .val (.int (0 : Int32)), .val (.ref b76), .val (.ref b79), .val (.ref b82), .val (.ref mu), .val (.int (1 : Int32)), .val (.ref b82), .unset, .unset] [(.ref b76)])) (fun _ q => XS.aload X.here X.hx rfl (hb hby at_174) rfl rfl q) ?_
          have X_o := X
          refine X.callV E_b76 (hw _ (List.mem_of_getElem? (i := 100) rfl)) (hw _ (List.mem_of_getElem? (i := 101) rfl)) (hw _ (List.mem_of_getElem? (i := 103) rfl)) (hw _ (List.mem_of_getElem? (i := 103) rfl)) rfl (hw _ (List.mem_of_getElem? (i := 102) rfl)) (hw _ (List.mem_of_getElem? (i := 2) rfl)) (hw _ (List.mem_of_getElem? (i := 104) rfl)) (by decide) pd_2544813166 (argsL := []) rfl (rm_getMutations l Z a0 hw n0 h87 X.n0le b76 b82  F_b76_mutations) (by rw [hml]; rfl) rfl (by decide) (leB rfl) (hb hby at_176) (by decide) (by decide) (fun T h88 v X hQ => ?_)
          obtain ⟨rfl, hh⟩ := hQ
          rw [hh] at X
          clear hh
          show Goes _ _ _ _ _ _ _ _ T (mkF m 179 #[.val (.int p0), .val (.int (0 : Int32)), .val (.int (0 : Int32)), .val (.int (1 : Int32)), .val (.int (0 : Int32)), .val (.ref b76), .val (.ref b79), .val (.ref b82), .val (.ref mu), .val (.int (1 : Int32)), .val (.ref b82), .unset, .unset] [(.ref b82)])
          refine Goes.by (g' := (mkF m 181 #[.val (.int p0), .val (.int (0 : Int32)), .val (.int (0 : Int32)), .val (.int (1 : Int32)), .val (.int (0 : Int32)), .val (.ref b76), .val (.ref b79), .val (.ref b82), .val (.ref mu), .val (.int (1 : Int32)), .val (.ref b82), .val (.ref b82), .unset] [])) (fun _ q => XS.astore X.here X.hx rfl (hb hby at_179) rfl rfl (l' := #[.val (.int p0), .val (.int (0 : Int32)), .val (.int (0 : Int32)), .val (.int (1 : Int32)), .val (.int (0 : Int32)), .val (.ref b76), .val (.ref b79), .val (.ref b82), .val (.ref mu), .val (.int (1 : Int32)), .val (.ref b82), .val (.ref b82), .unset]) rfl q) ?_
          refine Goes.by (g' := (mkF m 182 #[.val (.int p0), .val (.int (0 : Int32)), .val (.int (0 : Int32)), .val (.int (1 : Int32)), .val (.int (0 : Int32)), .val (.ref b76), .val (.ref b79), .val (.ref b82), .val (.ref mu), .val (.int (1 : Int32)), .val (.ref b82), .val (.ref b82), .unset] [(.int (0 : Int32))])) (fun _ q => XS.iloadN X.here X.hx rfl (hb hby at_181) rfl q) ?_
          refine Goes.by (g' := (mkF m 191 #[.val (.int p0), .val (.int (0 : Int32)), .val (.int (0 : Int32)), .val (.int (1 : Int32)), .val (.int (0 : Int32)), .val (.ref b76), .val (.ref b79), .val (.ref b82), .val (.ref mu), .val (.int (1 : Int32)), .val (.ref b82), .val (.ref b82), .unset] [])) (fun _ q => XS.ifYes X.here X.hx rfl (pc0 := 182) (pc' := 191) rfl (hb hby at_182) rfl ((if0 _ _).trans (teq (show (0 : Int32) = (0 : Int32) from (by decide))).1) (by decide) (by decide) q) ?_
          refine X.getS (Or.inl (hw _ (List.mem_of_getElem? (i := 123) rfl))) (host := "") Via.refl (S_WRITE.ext O_.2) (hb hby at_191) (fun T X => ?_)
          show Goes _ _ _ _ _ _ _ _ T (mkF m 194 #[.val (.int p0), .val (.int (0 : Int32)), .val (.int (0 : Int32)), .val (.int (1 : Int32)), .val (.int (0 : Int32)), .val (.ref b76), .val (.ref b79), .val (.ref b82), .val (.ref mu), .val (.int (1 : Int32)), .val (.ref b82), .val (.ref b82), .unset] [(.ref a_WRITE)])
          refine Goes.by (g' := (mkF m 196 #[.val (.int p0), .val (.int (0 : Int32)), .val (.int (0 : Int32)), .val (.int (1 : Int32)), .val (.int (0 : Int32)), .val (.ref b76), .val (.ref b79), .val (.ref b82), .val (.ref mu), .val (.int (1 : Int32)), .val (.ref b82), .val (.ref b82), .val (.ref a_WRITE)] [])) (fun _ q => XS.astore X.here X.hx rfl (hb hby at_194) rfl rfl (l' := #[.val (.int p0), .val (.int (0 : Int32)), .val (.int (0 : Int32)), .val (.int (1 : Int32)), .val (.int (0 : Int32)), .val (.ref b76), .val (.ref b79), .val (.ref b82), .val (.ref mu), .val (.int (1 : Int32)), .val (.ref b82), .val (.ref b82), .val (.ref a_WRITE)]) rfl q) ?_
          refine Goes.by (g' := (mkF m 198 #[.val (.int p0), .val (.int (0 : Int32)), .val (.int (0 : Int32)), .val (.int (1 : Int32)), .val (.int (0 : Int32)), .val (.ref b76), .val (.ref b79), .val (.ref b82), .val (.ref mu), .val (.int (1 : Int32)), .val (.ref b82), .val (.ref b82), .val (.ref a_WRITE)] [(.int (1 : Int32))])) (fun _ q => XS.iload X.here X.hx rfl (hb hby at_196) rfl q) ?_
          refine Goes.by (g' := (mkF m 201 #[.val (.int p0), .val (.int (0 : Int32)), .val (.int (0 : Int32)), .val (.int (1 : Int32)), .val (.int (0 : Int32)), .val (.ref b76), .val (.ref b79), .val (.ref b82), .val (.ref mu), .val (.int (1 : Int32)), .val (.ref b82), .val (.ref b82), .val (.ref a_WRITE)] [])) (fun _ q => XS.ifNo X.here X.hx rfl (hb hby at_198) rfl ((if0 _ _).trans (feq (show ¬ (1 : Int32) = (0 : Int32) from (by decide))).1) q) ?_
          refine Goes.by (g' := (mkF m 203 #[.val (.int p0), .val (.int (0 : Int32)), .val (.int (0 : Int32)), .val (.int (1 : Int32)), .val (.int (0 : Int32)), .val (.ref b76), .val (.ref b79), .val (.ref b82), .val (.ref mu), .val (.int (1 : Int32)), .val (.ref b82), .val (.ref b82), .val (.ref a_WRITE)] [(.ref b82)])) (fun _ q => XS.aload X.here X.hx rfl (hb hby at_201) rfl rfl q) ?_
          refine Goes.by (g' := (mkF m 205 #[.val (.int p0), .val (.int (0 : Int32)), .val (.int (0 : Int32)), .val (.int (1 : Int32)), .val (.int (0 : Int32)), .val (.ref b76), .val (.ref b79), .val (.ref b82), .val (.ref mu), .val (.int (1 : Int32)), .val (.ref b82), .val (.ref b82), .val (.ref a_WRITE)] [(.ref b82), (.ref b82)])) (fun _ q => XS.aload X.here X.hx rfl (hb hby at_203) rfl rfl q) ?_
          refine X.acmp rfl rfl (cd := .ne) (x := (.ref b82)) (y := (.ref b82)) (same := true) (pc' := 208) (hb hby at_205) (decide_eq_true rfl) (by decide) (by decide) ?_
          show Goes _ _ _ _ _ _ _ _ T (mkF m 208 #[.val (.int p0), .val (.int (0 : Int32)), .val (.int (0 : Int32)), .val (.int (1 : Int32)), .val (.int (0 : Int32)), .val (.ref b76), .val (.ref b79), .val (.ref b82), .val (.ref mu), .val (.int (1 : Int32)), .val (.ref b82), .val (.ref b82), .val (.ref a_WRITE)] [])
          refine Goes.by (g' := (mkF m 210 #[.val (.int p0), .val (.int (0 : Int32)), .val (.int (0 : Int32)), .val (.int (1 : Int32)), .val (.int (0 : Int32)), .val (.ref b76), .val (.ref b79), .val (.ref b82), .val (.ref mu), .val (.int (1 : Int32)), .val (.ref b82), .val (.ref b82), .val (.ref a_WRITE)] [(.ref b76)])) (fun _ q => XS.aload X.here X.hx rfl (hb hby at_208) rfl rfl q) ?_
          have X_o := X
          refine X.callV E_b76 (hw _ (List.mem_of_getElem? (i := 124) rfl)) (hw _ (List.mem_of_getElem? (i := 125) rfl)) (hw _ (List.mem_of_getElem? (i := 127) rfl)) (hw _ (List.mem_of_getElem? (i := 103) rfl)) rfl (hw _ (List.mem_of_getElem? (i := 126) rfl)) (hw _ (List.mem_of_getElem? (i := 2) rfl)) (hw _ (List.mem_of_getElem? (i := 128) rfl)) (by decide) pd_193422000 (argsL := []) rfl (rm_getAllowCreate l Z a0 hw n0 h87 X.n0le b76 (0 : Int32) (by decide) F_b76_allowCreate) (by rw [hml]; rfl) rfl (by decide) (leB rfl) (hb hby at_210) (by decide) (by decide) (fun T h89 v X hQ => ?_)
          obtain ⟨rfl, hh⟩ := hQ
          rw [hh] at X
          clear hh
          show Goes _ _ _ _ _ _ _ _ T (mkF m 213 #[.val (.int p0), .val (.int (0 : Int32)), .val (.int (0 : Int32)), .val (.int (1 : Int32)), .val (.int (0 : Int32)), .val (.ref b76), .val (.ref b79), .val (.ref b82), .val (.ref mu), .val (.int (1 : Int32)), .val (.ref b82), .val (.ref b82), .val (.ref a_WRITE)] [(.int (0 : Int32))])
          refine Goes.by (g' := (mkF m 214 #[.val (.int p0), .val (.int (0 : Int32)), .val (.int (0 : Int32)), .val (.int (1 : Int32)), .val (.int (0 : Int32)), .val (.ref b76), .val (.ref b79), .val (.ref b82), .val (.ref mu), .val (.int (1 : Int32)), .val (.ref b82), .val (.ref b82), .val (.ref a_WRITE)] [(.int (0 : Int32)), (.int (0 : Int32))])) (fun _ q => XS.iloadN X.here X.hx rfl (hb hby at_213) rfl q) ?_
          refine Goes.by (g' := (mkF m 217 #[.val (.int p0), .val (.int (0 : Int32)), .val (.int (0 : Int32)), .val (.int (1 : Int32)), .val (.int (0 : Int32)), .val (.ref b76), .val (.ref b79), .val (.ref b82), .val (.ref mu), .val (.int (1 : Int32)), .val (.ref b82), .val (.ref b82), .val (.ref a_WRITE)] [])) (fun _ q => XS.icmpNo X.here X.hx rfl (hb hby at_214) rfl (teq (show (0 : Int32) = (0 : Int32) from (by decide))).2 q) ?_
          refine Goes.by (g' := (mkF m 219 #[.val (.int p0), .val (.int (0 : Int32)), .val (.int (0 : Int32)), .val (.int (1 : Int32)), .val (.int (0 : Int32)), .val (.ref b76), .val (.ref b79), .val (.ref b82), .val (.ref mu), .val (.int (1 : Int32)), .val (.ref b82), .val (.ref b82), .val (.ref a_WRITE)] [(.ref b76)])) (fun _ q => XS.aload X.here X.hx rfl (hb hby at_217) rfl rfl q) ?_
          have X_o := X
          refine X.callV E_b76 (hw _ (List.mem_of_getElem? (i := 131) rfl)) (hw _ (List.mem_of_getElem? (i := 132) rfl)) (hw _ (List.mem_of_getElem? (i := 134) rfl)) (hw _ (List.mem_of_getElem? (i := 103) rfl)) rfl (hw _ (List.mem_of_getElem? (i := 133) rfl)) (hw _ (List.mem_of_getElem? (i := 2) rfl)) (hw _ (List.mem_of_getElem? (i := 135) rfl)) (by decide) pd_2323304547 (argsL := []) rfl (rm_getDurability l Z a0 hw n0 h87 X.n0le b76 a_WRITE  F_b76_durability) (by rw [hml]; rfl) rfl (by decide) (leB rfl) (hb hby at_219) (by decide) (by decide) (fun T h90 v X hQ => ?_)
          obtain ⟨rfl, hh⟩ := hQ
          rw [hh] at X
          clear hh
          show Goes _ _ _ _ _ _ _ _ T (mkF m 222 #[.val (.int p0), .val (.int (0 : Int32)), .val (.int (0 : Int32)), .val (.int (1 : Int32)), .val (.int (0 : Int32)), .val (.ref b76), .val (.ref b79), .val (.ref b82), .val (.ref mu), .val (.int (1 : Int32)), .val (.ref b82), .val (.ref b82), .val (.ref a_WRITE)] [(.ref a_WRITE)])
          refine Goes.by (g' := (mkF m 224 #[.val (.int p0), .val (.int (0 : Int32)), .val (.int (0 : Int32)), .val (.int (1 : Int32)), .val (.int (0 : Int32)), .val (.ref b76), .val (.ref b79), .val (.ref b82), .val (.ref mu), .val (.int (1 : Int32)), .val (.ref b82), .val (.ref b82), .val (.ref a_WRITE)] [(.ref a_WRITE), (.ref a_WRITE)])) (fun _ q => XS.aload X.here X.hx rfl (hb hby at_222) rfl rfl q) ?_
          refine X.acmp rfl rfl (cd := .ne) (x := (.ref a_WRITE)) (y := (.ref a_WRITE)) (same := true) (pc' := 227) (hb hby at_224) (decide_eq_true rfl) (by decide) (by decide) ?_
          show Goes _ _ _ _ _ _ _ _ T (mkF m 227 #[.val (.int p0), .val (.int (0 : Int32)), .val (.int (0 : Int32)), .val (.int (1 : Int32)), .val (.int (0 : Int32)), .val (.ref b76), .val (.ref b79), .val (.ref b82), .val (.ref mu), .val (.int (1 : Int32)), .val (.ref b82), .val (.ref b82), .val (.ref a_WRITE)] [])
          refine Goes.by (g' := (mkF m 228 #[.val (.int p0), .val (.int (0 : Int32)), .val (.int (0 : Int32)), .val (.int (1 : Int32)), .val (.int (0 : Int32)), .val (.ref b76), .val (.ref b79), .val (.ref b82), .val (.ref mu), .val (.int (1 : Int32)), .val (.ref b82), .val (.ref b82), .val (.ref a_WRITE)] [(.int (1 : Int32))])) (fun _ q => XS.iconst X.here X.hx rfl (hb hby at_227) q) ?_
          refine Goes.by (g' := (mkF m 232 #[.val (.int p0), .val (.int (0 : Int32)), .val (.int (0 : Int32)), .val (.int (1 : Int32)), .val (.int (0 : Int32)), .val (.ref b76), .val (.ref b79), .val (.ref b82), .val (.ref mu), .val (.int (1 : Int32)), .val (.ref b82), .val (.ref b82), .val (.ref a_WRITE)] [(.int (1 : Int32))])) (fun _ q => XS.goto X.here X.hx rfl (pc0 := 228) (pc' := 232) rfl (hb hby at_228) (by decide) (by decide) q) ?_
          exact X.retZ hret (hb hby at_232) (by decide) (by decide) rfl
        · skip
          refine Goes.by (g' := (mkF m 43 #[.val (.int p0), .val (.int (0 : Int32)), .val (.int (0 : Int32)), .val (.int (1 : Int32)), .unset, .unset, .unset, .unset, .unset, .unset, .unset, .unset, .unset] [])) (fun _ q => XS.ifNo X.here X.hx rfl (hb hby at_40) rfl ((if0 _ _).trans (feq hB75).1) q) ?_
          refine Goes.by (g' := (mkF m 44 #[.val (.int p0), .val (.int (0 : Int32)), .val (.int (0 : Int32)), .val (.int (1 : Int32)), .unset, .unset, .unset, .unset, .unset, .unset, .unset, .unset, .unset] [(.int (1 : Int32))])) (fun _ q => XS.iconst X.here X.hx rfl (hb hby at_43) q) ?_
          refine Goes.by (g' := (mkF m 48 #[.val (.int p0), .val (.int (0 : Int32)), .val (.int (0 : Int32)), .val (.int (1 : Int32)), .unset, .unset, .unset, .unset, .unset, .unset, .unset, .unset, .unset] [(.int (1 : Int32))])) (fun _ q => XS.goto X.here X.hx rfl (pc0 := 44) (pc' := 48) rfl (hb hby at_44) (by decide) (by decide) q) ?_
          refine Goes.by (g' := (mkF m 50 #[.val (.int p0), .val (.int (0 : Int32)), .val (.int (0 : Int32)), .val (.int (1 : Int32)), .val (.int (1 : Int32)), .unset, .unset, .unset, .unset, .unset, .unset, .unset, .unset] [])) (fun _ q => XS.istore X.here X.hx rfl (hb hby at_48) rfl (l' := #[.val (.int p0), .val (.int (0 : Int32)), .val (.int (0 : Int32)), .val (.int (1 : Int32)), .val (.int (1 : Int32)), .unset, .unset, .unset, .unset, .unset, .unset, .unset, .unset]) rfl q) ?_
          refine X.newO (hw _ (List.mem_of_getElem? (i := 0) rfl)) (hw _ (List.mem_of_getElem? (i := 1) rfl)) (hw _ (List.mem_of_getElem? (i := 2) rfl)) (hb hby at_50) (by decide) (by decide) (fun T h92 b91 X g_b91 ga_b91 E E_b91 D_b91 => ?_)
          have O_ := O_.ext E
          have F_b91_mutations : Fld Z h92 b91 "com/example/hafiza/hafiza/StoreConfig" "mutations" "Lcom/example/hafiza/hafiza/Mutations;" .null := D_b91 (Or.inl (hw _ (List.mem_of_getElem? (i := 92) rfl))) (ty := (.object "com/example/hafiza/hafiza/Mutations")) (by decide)
          have F_b91_durability : Fld Z h92 b91 "com/example/hafiza/hafiza/StoreConfig" "durability" "Lcom/example/hafiza/hafiza/Durability;" .null := D_b91 (Or.inl (hw _ (List.mem_of_getElem? (i := 97) rfl))) (ty := (.object "com/example/hafiza/hafiza/Durability")) (by decide)
          have F_b91_allowCreate : Fld Z h92 b91 "com/example/hafiza/hafiza/StoreConfig" "allowCreate" "Z" (.int (0 : Int32)) := D_b91 (Or.inl (hw _ (List.mem_of_getElem? (i := 130) rfl))) (ty := .boolean) (by decide)
          show Goes _ _ _ _ _ _ _ _ T (mkF m 53 #[.val (.int p0), .val (.int (0 : Int32)), .val (.int (0 : Int32)), .val (.int (1 : Int32)), .val (.int (1 : Int32)), .unset, .unset, .unset, .unset, .unset, .unset, .unset, .unset] [(.ref b91)])
          refine Goes.by (g' := (mkF m 54 #[.val (.int p0), .val (.int (0 : Int32)), .val (.int (0 : Int32)), .val (.int (1 : Int32)), .val (.int (1 : Int32)), .unset, .unset, .unset, .unset, .unset, .unset, .unset, .unset] [(.ref b91), (.ref b91)])) (fun _ q => XS.dup X.here X.hx rfl (hb hby at_53) rfl rfl q) ?_
          have X_o := X
          refine X.callN rfl (hw _ (List.mem_of_getElem? (i := 3) rfl)) (hw _ (List.mem_of_getElem? (i := 4) rfl)) (hw _ (List.mem_of_getElem? (i := 2) rfl)) (hw _ (List.mem_of_getElem? (i := 5) rfl)) (by decide) pd_193421996 (argsL := []) rfl (rmSC l Z a0 hw n0 h92 X.n0le b91 ga_b91 E_b91 F_b91_mutations F_b91_durability F_b91_allowCreate a_WRITE S_WRITE O_) (by rw [hml]; rfl) rfl (by decide) (leB rfl) (hb hby at_54) (by decide) (by decide) (fun T h93 v X hQ => ?_)
          obtain ⟨rfl, K, mu, gz, E_mu, F_b91_mutations, F_b91_durability, F_b91_allowCreate⟩ := hQ
          have ga_mu : n0 ≤ mu := Nat.le_trans X_o.n0le gz
          have ne_b91_mu : b91 ≠ mu := Nat.ne_of_lt (Nat.lt_of_lt_of_le E_b91.lt gz)
          have O_ := O_.keep K (allS ga_b91 all0)
          have E_b91 := E_b91.keep K
          show Goes _ _ _ _ _ _ _ _ T (mkF m 57 #[.val (.int p0), .val (.int (0 : Int32)), .val (.int (0 : Int32)), .val (.int (1 : Int32)), .val (.int (1 : Int32)), .unset, .unset, .unset, .unset, .unset, .unset, .unset, .unset] [(.ref b91)])
          refine Goes.by (g' := (mkF m 59 #[.val (.int p0), .val (.int (0 : Int32)), .val (.int (0 : Int32)), .val (.int (1 : Int32)), .val (.int (1 : Int32)), .val (.ref b91), .unset, .unset, .unset, .unset, .unset, .unset, .unset] [])) (fun _ q => XS.astore X.here X.hx rfl (hb hby at_57) rfl rfl (l' := #[.val (.int p0), .val (.int (0 : Int32)), .val (.int (0 : Int32)), .val (.int (1 : Int32)), .val (.int (1 : Int32)), .val (.ref b91), .unset, .unset, .unset, .unset, .unset, .unset, .unset]) rfl q) ?_
          refine Goes.by (g' := (mkF m 60 #[.val (.int p0), .val (.int (0 : Int32)), .val (.int (0 : Int32)), .val (.int (1 : Int32)), .val (.int (1 : Int32)), .val (.ref b91), .unset, .unset, .unset, .unset, .unset, .unset, .unset] [(.int (0 : Int32))])) (fun _ q => XS.iloadN X.here X.hx rfl (hb hby at_59) rfl q) ?_
          refine Goes.by (g' := (mkF m 69 #[.val (.int p0), .val (.int (0 : Int32)), .val (.int (0 : Int32)), .val (.int (1 : Int32)), .val (.int (1 : Int32)), .val (.ref b91), .unset, .unset, .unset, .unset, .unset, .unset, .unset] [])) (fun _ q => XS.ifYes X.here X.hx rfl (pc0 := 60) (pc' := 69) rfl (hb hby at_60) rfl ((if0 _ _).trans (teq (show (0 : Int32) = (0 : Int32) from (by decide))).1) (by decide) (by decide) q) ?_
          refine Goes.by (g' := (mkF m 70 #[.val (.int p0), .val (.int (0 : Int32)), .val (.int (0 : Int32)), .val (.int (1 : Int32)), .val (.int (1 : Int32)), .val (.ref b91), .unset, .unset, .unset, .unset, .unset, .unset, .unset] [(.int (0 : Int32))])) (fun _ q => XS.iloadN X.here X.hx rfl (hb hby at_69) rfl q) ?_
          refine Goes.by (g' := (mkF m 81 #[.val (.int p0), .val (.int (0 : Int32)), .val (.int (0 : Int32)), .val (.int (1 : Int32)), .val (.int (1 : Int32)), .val (.ref b91), .unset, .unset, .unset, .unset, .unset, .unset, .unset] [])) (fun _ q => XS.ifYes X.here X.hx rfl (pc0 := 70) (pc' := 81) rfl (hb hby at_70) rfl ((if0 _ _).trans (teq (show (0 : Int32) = (0 : Int32) from (by decide))).1) (by decide) (by decide) q) ?_
          refine X.newO (hw _ (List.mem_of_getElem? (i := 98) rfl)) (hw _ (List.mem_of_getElem? (i := 10) rfl)) (hw _ (List.mem_of_getElem? (i := 11) rfl)) (hb hby at_81) (by decide) (by decide) (fun T h95 b94 X g_b94 ga_b94 E E_b94 D_b94 => ?_)
          have ne_b91_b94 : b91 ≠ b94 := by rw [g_b94]; exact Nat.ne_of_lt E_b91.lt
          have ne_mu_b94 : mu ≠ b94 := by rw [g_b94]; exact Nat.ne_of_lt E_mu.lt
          have O_ := O_.ext E
          have E_b91 := E_b91.ext E
          have E_mu := E_mu.ext E
          have F_b91_mutations := F_b91_mutations.ext E
          have F_b91_durability := F_b91_durability.ext E
          have F_b91_allowCreate := F_b91_allowCreate.ext E
          have F_b94_renamers : Fld Z h95 b94 "com/example/hafiza/hafiza/Mutations" "renamers" "Ljava/util/Set;" .null := D_b94 (Or.inr (hw _ (List.mem_of_getElem? (i := 86) rfl))) (ty := (.object "java/util/Set")) (by decide)
          have F_b94_deleters : Fld Z h95 b94 "com/example/hafiza/hafiza/Mutations" "deleters" "Ljava/util/Set;" .null := D_b94 (Or.inr (hw _ (List.mem_of_getElem? (i := 88) rfl))) (ty := (.object "java/util/Set")) (by decide)
          have F_b94_converters : Fld Z h95 b94 "com/example/hafiza/hafiza/Mutations" "converters" "Ljava/util/Set;" .null := D_b94 (Or.inr (hw _ (List.mem_of_getElem? (i := 90) rfl))) (ty := (.object "java/util/Set")) (by decide)
          show Goes _ _ _ _ _ _ _ _ T (mkF m 84 #[.val (.int p0), .val (.int (0 : Int32)), .val (.int (0 : Int32)), .val (.int (1 : Int32)), .val (.int (1 : Int32)), .val (.ref b91), .unset, .unset, .unset, .unset, .unset, .unset, .unset] [(.ref b94)])
          refine Goes.by (g' := (mkF m 85 #[.val (.int p0), .val (.int (0 : Int32)), .val (.int (0 : Int32)), .val (.int (1 : Int32)), .val (.int (1 : Int32)), .val (.ref b91), .unset, .unset, .unset, .unset, .unset, .unset, .unset] [(.ref b94), (.ref b94)])) (fun _ q => XS.dup X.here X.hx rfl (hb hby at_84) rfl rfl q) ?_
          have X_o := X
          refine X.callN rfl (hw _ (List.mem_of_getElem? (i := 99) rfl)) (hw _ (List.mem_of_getElem? (i := 13) rfl)) (hw _ (List.mem_of_getElem? (i := 11) rfl)) (hw _ (List.mem_of_getElem? (i := 14) rfl)) (by decide) pd_193421996 (argsL := []) rfl (rmMU l Z a0 hw n0 h95 X.n0le b94 ga_b94 E_b94 F_b94_renamers F_b94_deleters F_b94_converters) (by rw [hml]; rfl) rfl (by decide) (leB rfl) (hb hby at_85) (by decide) (by decide) (fun T h96 v X hQ => ?_)
          obtain ⟨rfl, K⟩ := hQ
          have O_ := O_.keep K (allS ga_b94 all0)
          have E_b91 := E_b91.keep K
          have E_mu := E_mu.keep K
          have F_b91_mutations := F_b91_mutations.keep K (ninS ne_b91_b94 nin0)
          have F_b91_durability := F_b91_durability.keep K (ninS ne_b91_b94 nin0)
          have F_b91_allowCreate := F_b91_allowCreate.keep K (ninS ne_b91_b94 nin0)
          have E_b94 := E_b94.keep K
          show Goes _ _ _ _ _ _ _ _ T (mkF m 88 #[.val (.int p0), .val (.int (0 : Int32)), .val (.int (0 : Int32)), .val (.int (1 : Int32)), .val (.int (1 : Int32)), .val (.ref b91), .unset, .unset, .unset, .unset, .unset, .unset, .unset] [(.ref b94)])
          refine Goes.by (g' := (mkF m 90 #[.val (.int p0), .val (.int (0 : Int32)), .val (.int (0 : Int32)), .val (.int (1 : Int32)), .val (.int (1 : Int32)), .val (.ref b91), .val (.ref b94), .unset, .unset, .unset, .unset, .unset, .unset] [])) (fun _ q => XS.astore X.here X.hx rfl (hb hby at_88) rfl rfl (l' := #[.val (.int p0), .val (.int (0 : Int32)), .val (.int (0 : Int32)), .val (.int (1 : Int32)), .val (.int (1 : Int32)), .val (.ref b91), .val (.ref b94), .unset, .unset, .unset, .unset, .unset, .unset]) rfl q) ?_
          refine X.newO (hw _ (List.mem_of_getElem? (i := 98) rfl)) (hw _ (List.mem_of_getElem? (i := 10) rfl)) (hw _ (List.mem_of_getElem? (i := 11) rfl)) (hb hby at_90) (by decide) (by decide) (fun T h98 b97 X g_b97 ga_b97 E E_b97 D_b97 => ?_)
          have ne_b91_b97 : b91 ≠ b97 := by rw [g_b97]; exact Nat.ne_of_lt E_b91.lt
          have ne_mu_b97 : mu ≠ b97 := by rw [g_b97]; exact Nat.ne_of_lt E_mu.lt
          have ne_b94_b97 : b94 ≠ b97 := by rw [g_b97]; exact Nat.ne_of_lt E_b94.lt
          have O_ := O_.ext E
          have E_b91 := E_b91.ext E
          have E_mu := E_mu.ext E
          have F_b91_mutations := F_b91_mutations.ext E
          have F_b91_durability := F_b91_durability.ext E
          have F_b91_allowCreate := F_b91_allowCreate.ext E
          have E_b94 := E_b94.ext E
          have F_b97_renamers : Fld Z h98 b97 "com/example/hafiza/hafiza/Mutations" "renamers" "Ljava/util/Set;" .null := D_b97 (Or.inr (hw _ (List.mem_of_getElem? (i := 86) rfl))) (ty := (.object "java/util/Set")) (by decide)
          have F_b97_deleters : Fld Z h98 b97 "com/example/hafiza/hafiza/Mutations" "deleters" "Ljava/util/Set;" .null := D_b97 (Or.inr (hw _ (List.mem_of_getElem? (i := 88) rfl))) (ty := (.object "java/util/Set")) (by decide)
          have F_b97_converters : Fld Z h98 b97 "com/example/hafiza/hafiza/Mutations" "converters" "Ljava/util/Set;" .null := D_b97 (Or.inr (hw _ (List.mem_of_getElem? (i := 90) rfl))) (ty := (.object "java/util/Set")) (by decide)
          show Goes _ _ _ _ _ _ _ _ T (mkF m 93 #[.val (.int p0), .val (.int (0 : Int32)), .val (.int (0 : Int32)), .val (.int (1 : Int32)), .val (.int (1 : Int32)), .val (.ref b91), .val (.ref b94), .unset, .unset, .unset, .unset, .unset, .unset] [(.ref b97)])
          refine Goes.by (g' := (mkF m 94 #[.val (.int p0), .val (.int (0 : Int32)), .val (.int (0 : Int32)), .val (.int (1 : Int32)), .val (.int (1 : Int32)), .val (.ref b91), .val (.ref b94), .unset, .unset, .unset, .unset, .unset, .unset] [(.ref b97), (.ref b97)])) (fun _ q => XS.dup X.here X.hx rfl (hb hby at_93) rfl rfl q) ?_
          have X_o := X
          refine X.callN rfl (hw _ (List.mem_of_getElem? (i := 99) rfl)) (hw _ (List.mem_of_getElem? (i := 13) rfl)) (hw _ (List.mem_of_getElem? (i := 11) rfl)) (hw _ (List.mem_of_getElem? (i := 14) rfl)) (by decide) pd_193421996 (argsL := []) rfl (rmMU l Z a0 hw n0 h98 X.n0le b97 ga_b97 E_b97 F_b97_renamers F_b97_deleters F_b97_converters) (by rw [hml]; rfl) rfl (by decide) (leB rfl) (hb hby at_94) (by decide) (by decide) (fun T h99 v X hQ => ?_)
          obtain ⟨rfl, K⟩ := hQ
          have O_ := O_.keep K (allS ga_b97 all0)
          have E_b91 := E_b91.keep K
          have E_mu := E_mu.keep K
          have F_b91_mutations := F_b91_mutations.keep K (ninS ne_b91_b97 nin0)
          have F_b91_durability := F_b91_durability.keep K (ninS ne_b91_b97 nin0)
          have F_b91_allowCreate := F_b91_allowCreate.keep K (ninS ne_b91_b97 nin0)
          have E_b94 := E_b94.keep K
          have E_b97 := E_b97.keep K
          show Goes _ _ _ _ _ _ _ _ T (mkF m 97 #[.val (.int p0), .val (.int (0 : Int32)), .val (.int (0 : Int32)), .val (.int (1 : Int32)), .val (.int (1 : Int32)), .val (.ref b91), .val (.ref b94), .unset, .unset, .unset, .unset, .unset, .unset] [(.ref b97)])
          refine Goes.by (g' := (mkF m 99 #[.val (.int p0), .val (.int (0 : Int32)), .val (.int (0 : Int32)), .val (.int (1 : Int32)), .val (.int (1 : Int32)), .val (.ref b91), .val (.ref b94), .val (.ref b97), .unset, .unset, .unset, .unset, .unset] [])) (fun _ q => XS.astore X.here X.hx rfl (hb hby at_97) rfl rfl (l' := #[.val (.int p0), .val (.int (0 : Int32)), .val (.int (0 : Int32)), .val (.int (1 : Int32)), .val (.int (1 : Int32)), .val (.ref b91), .val (.ref b94), .val (.ref b97), .unset, .unset, .unset, .unset, .unset]) rfl q) ?_
          refine Goes.by (g' := (mkF m 101 #[.val (.int p0), .val (.int (0 : Int32)), .val (.int (0 : Int32)), .val (.int (1 : Int32)), .val (.int (1 : Int32)), .val (.ref b91), .val (.ref b94), .val (.ref b97), .unset, .unset, .unset, .unset, .unset] [(.ref b91)])) (fun _ q => XS.aload X.here X.hx rfl (hb hby at_99) rfl rfl q) ?_
          have X_o := X
          refine X.callV E_b91 (hw _ (List.mem_of_getElem? (i := 100) rfl)) (hw _ (List.mem_of_getElem? (i := 101) rfl)) (hw _ (List.mem_of_getElem? (i := 103) rfl)) (hw _ (List.mem_of_getElem? (i := 103) rfl)) rfl (hw _ (List.mem_of_getElem? (i := 102) rfl)) (hw _ (List.mem_of_getElem? (i := 2) rfl)) (hw _ (List.mem_of_getElem? (i := 104) rfl)) (by decide) pd_2544813166 (argsL := []) rfl (rm_getMutations l Z a0 hw n0 h99 X.n0le b91 mu  F_b91_mutations) (by rw [hml]; rfl) rfl (by decide) (leB rfl) (hb hby at_101) (by decide) (by decide) (fun T h100 v X hQ => ?_)
          obtain ⟨rfl, hh⟩ := hQ
          rw [hh] at X
          clear hh
          show Goes _ _ _ _ _ _ _ _ T (mkF m 104 #[.val (.int p0), .val (.int (0 : Int32)), .val (.int (0 : Int32)), .val (.int (1 : Int32)), .val (.int (1 : Int32)), .val (.ref b91), .val (.ref b94), .val (.ref b97), .unset, .unset, .unset, .unset, .unset] [(.ref mu)])
          refine Goes.by (g' := (mkF m 106 #[.val (.int p0), .val (.int (0 : Int32)), .val (.int (0 : Int32)), .val (.int (1 : Int32)), .val (.int (1 : Int32)), .val (.ref b91), .val (.ref b94), .val (.ref b97), .val (.ref mu), .unset, .unset, .unset, .unset] [])) (fun _ q => XS.astore X.here X.hx rfl (hb hby at_104) rfl rfl (l' := #[.val (.int p0), .val (.int (0 : Int32)), .val (.int (0 : Int32)), .val (.int (1 : Int32)), .val (.int (1 : Int32)), .val (.ref b91), .val (.ref b94), .val (.ref b97), .val (.ref mu), .unset, .unset, .unset, .unset]) rfl q) ?_
          refine Goes.by (g' := (mkF m 108 #[.val (.int p0), .val (.int (0 : Int32)), .val (.int (0 : Int32)), .val (.int (1 : Int32)), .val (.int (1 : Int32)), .val (.ref b91), .val (.ref b94), .val (.ref b97), .val (.ref mu), .unset, .unset, .unset, .unset] [(.ref mu)])) (fun _ q => XS.aload X.here X.hx rfl (hb hby at_106) rfl rfl q) ?_
          refine Goes.by (g' := (mkF m 111 #[.val (.int p0), .val (.int (0 : Int32)), .val (.int (0 : Int32)), .val (.int (1 : Int32)), .val (.int (1 : Int32)), .val (.ref b91), .val (.ref b94), .val (.ref b97), .val (.ref mu), .unset, .unset, .unset, .unset] [])) (fun _ q => XS.ifnullNo X.here X.hx rfl (hb hby at_108) rfl q) ?_
          refine Goes.by (g' := (mkF m 113 #[.val (.int p0), .val (.int (0 : Int32)), .val (.int (0 : Int32)), .val (.int (1 : Int32)), .val (.int (1 : Int32)), .val (.ref b91), .val (.ref b94), .val (.ref b97), .val (.ref mu), .unset, .unset, .unset, .unset] [(.ref mu)])) (fun _ q => XS.aload X.here X.hx rfl (hb hby at_111) rfl rfl q) ?_
          refine Goes.by (g' := (mkF m 115 #[.val (.int p0), .val (.int (0 : Int32)), .val (.int (0 : Int32)), .val (.int (1 : Int32)), .val (.int (1 : Int32)), .val (.ref b91), .val (.ref b94), .val (.ref b97), .val (.ref mu), .unset, .unset, .unset, .unset] [(.ref b94), (.ref mu)])) (fun _ q => XS.aload X.here X.hx rfl (hb hby at_113) rfl rfl q) ?_
          refine X.acmp rfl rfl (cd := .eq) (x := (.ref mu)) (y := (.ref b94)) (same := false) (pc' := 118) (hb hby at_115) (decide_eq_false fun q => ne_mu_b94 (Value.ref.inj q)) (by decide) (by decide) ?_
          show Goes _ _ _ _ _ _ _ _ T (mkF m 118 #[.val (.int p0), .val (.int (0 : Int32)), .val (.int (0 : Int32)), .val (.int (1 : Int32)), .val (.int (1 : Int32)), .val (.ref b91), .val (.ref b94), .val (.ref b97), .val (.ref mu), .unset, .unset, .unset, .unset] [])
          refine Goes.by (g' := (mkF m 120 #[.val (.int p0), .val (.int (0 : Int32)), .val (.int (0 : Int32)), .val (.int (1 : Int32)), .val (.int (1 : Int32)), .val (.ref b91), .val (.ref b94), .val (.ref b97), .val (.ref mu), .unset, .unset, .unset, .unset] [(.ref mu)])) (fun _ q => XS.aload X.here X.hx rfl (hb hby at_118) rfl rfl q) ?_
          refine Goes.by (g' := (mkF m 122 #[.val (.int p0), .val (.int (0 : Int32)), .val (.int (0 : Int32)), .val (.int (1 : Int32)), .val (.int (1 : Int32)), .val (.ref b91), .val (.ref b94), .val (.ref b97), .val (.ref mu), .unset, .unset, .unset, .unset] [(.ref b97), (.ref mu)])) (fun _ q => XS.aload X.here X.hx rfl (hb hby at_120) rfl rfl q) ?_
          refine X.acmp rfl rfl (cd := .eq) (x := (.ref mu)) (y := (.ref b97)) (same := false) (pc' := 125) (hb hby at_122) (decide_eq_false fun q => ne_mu_b97 (Value.ref.inj q)) (by decide) (by decide) ?_
          show Goes _ _ _ _ _ _ _ _ T (mkF m 125 #[.val (.int p0), .val (.int (0 : Int32)), .val (.int (0 : Int32)), .val (.int (1 : Int32)), .val (.int (1 : Int32)), .val (.ref b91), .val (.ref b94), .val (.ref b97), .val (.ref mu), .unset, .unset, .unset, .unset] [])
          refine Goes.by (g' := (mkF m 126 #[.val (.int p0), .val (.int (0 : Int32)), .val (.int (0 : Int32)), .val (.int (1 : Int32)), .val (.int (1 : Int32)), .val (.ref b91), .val (.ref b94), .val (.ref b97), .val (.ref mu), .unset, .unset, .unset, .unset] [(.int (1 : Int32))])) (fun _ q => XS.iconst X.here X.hx rfl (hb hby at_125) q) ?_
          refine Goes.by (g' := (mkF m 130 #[.val (.int p0), .val (.int (0 : Int32)), .val (.int (0 : Int32)), .val (.int (1 : Int32)), .val (.int (1 : Int32)), .val (.ref b91), .val (.ref b94), .val (.ref b97), .val (.ref mu), .unset, .unset, .unset, .unset] [(.int (1 : Int32))])) (fun _ q => XS.goto X.here X.hx rfl (pc0 := 126) (pc' := 130) rfl (hb hby at_126) (by decide) (by decide) q) ?_
          refine Goes.by (g' := (mkF m 132 #[.val (.int p0), .val (.int (0 : Int32)), .val (.int (0 : Int32)), .val (.int (1 : Int32)), .val (.int (1 : Int32)), .val (.ref b91), .val (.ref b94), .val (.ref b97), .val (.ref mu), .val (.int (1 : Int32)), .unset, .unset, .unset] [])) (fun _ q => XS.istore X.here X.hx rfl (hb hby at_130) rfl (l' := #[.val (.int p0), .val (.int (0 : Int32)), .val (.int (0 : Int32)), .val (.int (1 : Int32)), .val (.int (1 : Int32)), .val (.ref b91), .val (.ref b94), .val (.ref b97), .val (.ref mu), .val (.int (1 : Int32)), .unset, .unset, .unset]) rfl q) ?_
          refine Goes.by (g' := (mkF m 133 #[.val (.int p0), .val (.int (0 : Int32)), .val (.int (0 : Int32)), .val (.int (1 : Int32)), .val (.int (1 : Int32)), .val (.ref b91), .val (.ref b94), .val (.ref b97), .val (.ref mu), .val (.int (1 : Int32)), .unset, .unset, .unset] [(.int (1 : Int32))])) (fun _ q => XS.iloadN X.here X.hx rfl (hb hby at_132) rfl q) ?_
          refine Goes.by (g' := (mkF m 136 #[.val (.int p0), .val (.int (0 : Int32)), .val (.int (0 : Int32)), .val (.int (1 : Int32)), .val (.int (1 : Int32)), .val (.ref b91), .val (.ref b94), .val (.ref b97), .val (.ref mu), .val (.int (1 : Int32)), .unset, .unset, .unset] [])) (fun _ q => XS.ifNo X.here X.hx rfl (hb hby at_133) rfl ((if0 _ _).trans (feq (show ¬ (1 : Int32) = (0 : Int32) from (by decide))).1) q) ?_
          refine Goes.by (g' := (mkF m 138 #[.val (.int p0), .val (.int (0 : Int32)), .val (.int (0 : Int32)), .val (.int (1 : Int32)), .val (.int (1 : Int32)), .val (.ref b91), .val (.ref b94), .val (.ref b97), .val (.ref mu), .val (.int (1 : Int32)), .unset, .unset, .unset] [(.ref b91)])) (fun _ q => XS.aload X.here X.hx rfl (hb hby at_136) rfl rfl q) ?_
          refine Goes.by (g' := (mkF m 140 #[.val (.int p0), .val (.int (0 : Int32)), .val (.int (0 : Int32)), .val (.int (1 : Int32)), .val (.int (1 : Int32)), .val (.ref b91), .val (.ref b94), .val (.ref b97), .val (.ref mu), .val (.int (1 : Int32)), .unset, .unset, .unset] [(.int (1 : Int32)), (.ref b91)])) (fun _ q => XS.iload X.here X.hx rfl (hb hby at_138) rfl q) ?_
          refine Goes.by (g' := (mkF m 143 #[.val (.int p0), .val (.int (0 : Int32)), .val (.int (0 : Int32)), .val (.int (1 : Int32)), .val (.int (1 : Int32)), .val (.ref b91), .val (.ref b94), .val (.ref b97), .val (.ref mu), .val (.int (1 : Int32)), .unset, .unset, .unset] [(.ref b91)])) (fun _ q => XS.ifNo X.here X.hx rfl (hb hby at_140) rfl ((if0 _ _).trans (feq (show ¬ (1 : Int32) = (0 : Int32) from (by decide))).1) q) ?_
          refine Goes.by (g' := (mkF m 145 #[.val (.int p0), .val (.int (0 : Int32)), .val (.int (0 : Int32)), .val (.int (1 : Int32)), .val (.int (1 : Int32)), .val (.ref b91), .val (.ref b94), .val (.ref b97), .val (.ref mu), .val (.int (1 : Int32)), .unset, .unset, .unset] [(.ref b97), (.ref b91)])) (fun _ q => XS.aload X.here X.hx rfl (hb hby at_143) rfl rfl q) ?_
          refine Goes.by (g' := (mkF m 150 #[.val (.int p0), .val (.int (0 : Int32)), .val (.int (0 : Int32)), .val (.int (1 : Int32)), .val (.int (1 : Int32)), .val (.ref b91), .val (.ref b94), .val (.ref b97), .val (.ref mu), .val (.int (1 : Int32)), .unset, .unset, .unset] [(.ref b97), (.ref b91)])) (fun _ q => XS.goto X.here X.hx rfl (pc0 := 145) (pc' := 150) rfl (hb hby at_145) (by decide) (by decide) q) ?_
          have X_o := X
          refine X.callV E_b91 (hw _ (List.mem_of_getElem? (i := 105) rfl)) (hw _ (List.mem_of_getElem? (i := 106) rfl)) (hw _ (List.mem_of_getElem? (i := 108) rfl)) (hw _ (List.mem_of_getElem? (i := 103) rfl)) rfl (hw _ (List.mem_of_getElem? (i := 107) rfl)) (hw _ (List.mem_of_getElem? (i := 2) rfl)) (hw _ (List.mem_of_getElem? (i := 109) rfl)) (by decide) pd_2932898788 (argsL := [(.ref b97)]) rfl (rm_setMutations l Z a0 hw n0 h99 X.n0le b91 b97 (.ref mu) ga_b91 E_b91 E_b97 F_b91_mutations (.ref a_WRITE) F_b91_durability (.int (0 : Int32)) F_b91_allowCreate) (by rw [hml]; rfl) rfl (by decide) (leB rfl) (hb hby at_150) (by decide) (by decide) (fun T h101 v X hQ => ?_)
          obtain ⟨rfl, K, F_b91_mutations, F_b91_durability, F_b91_allowCreate⟩ := hQ
          have O_ := O_.keep K (allS ga_b91 all0)
          have E_b91 := E_b91.keep K
          have E_mu := E_mu.keep K
          have E_b94 := E_b94.keep K
          have E_b97 := E_b97.keep K
          show Goes _ _ _ _ _ _ _ _ T (mkF m 153 #[.val (.int p0), .val (.int (0 : Int32)), .val (.int (0 : Int32)), .val (.int (1 : Int32)), .val (.int (1 : Int32)), .val (.ref b91), .val (.ref b94), .val (.ref b97), .val (.ref mu), .val (.int (1 : Int32)), .unset, .unset, .unset] [])
          refine Goes.by (g' := (mkF m 155 #[.val (.int p0), .val (.int (0 : Int32)), .val (.int (0 : Int32)), .val (.int (1 : Int32)), .val (.int (1 : Int32)), .val (.ref b91), .val (.ref b94), .val (.ref b97), .val (.ref mu), .val (.int (1 : Int32)), .unset, .unset, .unset] [(.int (1 : Int32))])) (fun _ q => XS.iload X.here X.hx rfl (hb hby at_153) rfl q) ?_
          refine Goes.by (g' := (mkF m 158 #[.val (.int p0), .val (.int (0 : Int32)), .val (.int (0 : Int32)), .val (.int (1 : Int32)), .val (.int (1 : Int32)), .val (.ref b91), .val (.ref b94), .val (.ref b97), .val (.ref mu), .val (.int (1 : Int32)), .unset, .unset, .unset] [])) (fun _ q => XS.ifNo X.here X.hx rfl (hb hby at_155) rfl ((if0 _ _).trans (feq (show ¬ (1 : Int32) = (0 : Int32) from (by decide))).1) q) ?_
          refine Goes.by (g' := (mkF m 160 #[.val (.int p0), .val (.int (0 : Int32)), .val (.int (0 : Int32)), .val (.int (1 : Int32)), .val (.int (1 : Int32)), .val (.ref b91), .val (.ref b94), .val (.ref b97), .val (.ref mu), .val (.int (1 : Int32)), .unset, .unset, .unset] [(.ref b94)])) (fun _ q => XS.aload X.here X.hx rfl (hb hby at_158) rfl rfl q) ?_
          refine Goes.by (g' := (mkF m 165 #[.val (.int p0), .val (.int (0 : Int32)), .val (.int (0 : Int32)), .val (.int (1 : Int32)), .val (.int (1 : Int32)), .val (.ref b91), .val (.ref b94), .val (.ref b97), .val (.ref mu), .val (.int (1 : Int32)), .unset, .unset, .unset] [(.ref b94)])) (fun _ q => XS.goto X.here X.hx rfl (pc0 := 160) (pc' := 165) rfl (hb hby at_160) (by decide) (by decide) q) ?_
          refine Goes.by (g' := (mkF m 167 #[.val (.int p0), .val (.int (0 : Int32)), .val (.int (0 : Int32)), .val (.int (1 : Int32)), .val (.int (1 : Int32)), .val (.ref b91), .val (.ref b94), .val (.ref b97), .val (.ref mu), .val (.int (1 : Int32)), .val (.ref b94), .unset, .unset] [])) (fun _ q => XS.astore X.here X.hx rfl (hb hby at_165) rfl rfl (l' := #[.val (.int p0), .val (.int (0 : Int32)), .val (.int (0 : Int32)), .val (.int (1 : Int32)), .val (.int (1 : Int32)), .val (.ref b91), .val (.ref b94), .val (.ref b97), .val (.ref mu), .val (.int (1 : Int32)), .val (.ref b94), .unset, .unset]) rfl q) ?_
          refine Goes.by (g' := (mkF m 169 #[.val (.int p0), .val (.int (0 : Int32)), .val (.int (0 : Int32)), .val (.int (1 : Int32)), .val (.int (1 : Int32)), .val (.ref b91), .val (.ref b94), .val (.ref b97), .val (.ref mu), .val (.int (1 : Int32)), .val (.ref b94), .unset, .unset] [(.ref b91)])) (fun _ q => XS.aload X.here X.hx rfl (hb hby at_167) rfl rfl q) ?_
          refine Goes.by (g' := (mkF m 171 #[.val (.int p0), .val (.int (0 : Int32)), .val (.int (0 : Int32)), .val (.int (1 : Int32)), .val (.int (1 : Int32)), .val (.ref b91), .val (.ref b94), .val (.ref b97), .val (.ref mu), .val (.int (1 : Int32)), .val (.ref b94), .unset, .unset] [(.ref b94), (.ref b91)])) (fun _ q => XS.aload X.here X.hx rfl (hb hby at_169) rfl rfl q) ?_
          have X_o := X
          refine X.callV E_b91 (hw _ (List.mem_of_getElem? (i := 105) rfl)) (hw _ (List.mem_of_getElem? (i := 106) rfl)) (hw _ (List.mem_of_getElem? (i := 108) rfl)) (hw _ (List.mem_of_getElem? (i := 103) rfl)) rfl (hw _ (List.mem_of_getElem? (i := 107) rfl)) (hw _ (List.mem_of_getElem? (i := 2) rfl)) (hw _ (List.mem_of_getElem? (i := 109) rfl)) (by decide) pd_2932898788 (argsL := [(.ref b94)]) rfl (rm_setMutations l Z a0 hw n0 h101 X.n0le b91 b94 (.ref b97) ga_b91 E_b91 E_b94 F_b91_mutations (.ref a_WRITE) F_b91_durability (.int (0 : Int32)) F_b91_allowCreate) (by rw [hml]; rfl) rfl (by decide) (leB rfl) (hb hby at_171) (by decide) (by decide) (fun T h102 v X hQ => ?_)
          obtain ⟨rfl, K, F_b91_mutations, F_b91_durability, F_b91_allowCreate⟩ := hQ
          have O_ := O_.keep K (allS ga_b91 all0)
          have E_b91 := E_b91.keep K
          have E_mu := E_mu.keep K
          have E_b94 := E_b94.keep K
          have E_b97 := E_b97.keep K
          show Goes _ _ _ _ _ _ _ _ T (mkF m 174 #[.val (.int p0), .val (.int (0 : Int32)), .val (.int (0 : Int32)), .val (.int (1 : Int32)), .val (.int (1 : Int32)), .val (.ref b91), .val (.ref b94), .val (.ref b97), .val (.ref mu), .val (.int (1 : Int32)), .val (.ref b94), .unset, .unset] [])
          refine Goes.by (g' := (mkF m 176 #[.val (.int p0), .val (.int (0 : Int32)), .val (.int (0 : Int32)), .val (.int (1 : Int32)), .val (.int (1 : Int32)), .val (.ref b91), .val (.ref b94), .val (.ref b97), .val (.ref mu), .val (.int (1 : Int32)), .val (.ref b94), .unset, .unset] [(.ref b91)])) (fun _ q => XS.aload X.here X.hx rfl (hb hby at_174) rfl rfl q) ?_
          have X_o := X
          refine X.callV E_b91 (hw _ (List.mem_of_getElem? (i := 100) rfl)) (hw _ (List.mem_of_getElem? (i := 101) rfl)) (hw _ (List.mem_of_getElem? (i := 103) rfl)) (hw _ (List.mem_of_getElem? (i := 103) rfl)) rfl (hw _ (List.mem_of_getElem? (i := 102) rfl)) (hw _ (List.mem_of_getElem? (i := 2) rfl)) (hw _ (List.mem_of_getElem? (i := 104) rfl)) (by decide) pd_2544813166 (argsL := []) rfl (rm_getMutations l Z a0 hw n0 h102 X.n0le b91 b94  F_b91_mutations) (by rw [hml]; rfl) rfl (by decide) (leB rfl) (hb hby at_176) (by decide) (by decide) (fun T h103 v X hQ => ?_)
          obtain ⟨rfl, hh⟩ := hQ
          rw [hh] at X
          clear hh
          show Goes _ _ _ _ _ _ _ _ T (mkF m 179 #[.val (.int p0), .val (.int (0 : Int32)), .val (.int (0 : Int32)), .val (.int (1 : Int32)), .val (.int (1 : Int32)), .val (.ref b91), .val (.ref b94), .val (.ref b97), .val (.ref mu), .val (.int (1 : Int32)), .val (.ref b94), .unset, .unset] [(.ref b94)])
          refine Goes.by (g' := (mkF m 181 #[.val (.int p0), .val (.int (0 : Int32)), .val (.int (0 : Int32)), .val (.int (1 : Int32)), .val (.int (1 : Int32)), .val (.ref b91), .val (.ref b94), .val (.ref b97), .val (.ref mu), .val (.int (1 : Int32)), .val (.ref b94), .val (.ref b94), .unset] [])) (fun _ q => XS.astore X.here X.hx rfl (hb hby at_179) rfl rfl (l' := #[.val (.int p0), .val (.int (0 : Int32)), .val (.int (0 : Int32)), .val (.int (1 : Int32)), .val (.int (1 : Int32)), .val (.ref b91), .val (.ref b94), .val (.ref b97), .val (.ref mu), .val (.int (1 : Int32)), .val (.ref b94), .val (.ref b94), .unset]) rfl q) ?_
          refine Goes.by (g' := (mkF m 182 #[.val (.int p0), .val (.int (0 : Int32)), .val (.int (0 : Int32)), .val (.int (1 : Int32)), .val (.int (1 : Int32)), .val (.ref b91), .val (.ref b94), .val (.ref b97), .val (.ref mu), .val (.int (1 : Int32)), .val (.ref b94), .val (.ref b94), .unset] [(.int (0 : Int32))])) (fun _ q => XS.iloadN X.here X.hx rfl (hb hby at_181) rfl q) ?_
          refine Goes.by (g' := (mkF m 191 #[.val (.int p0), .val (.int (0 : Int32)), .val (.int (0 : Int32)), .val (.int (1 : Int32)), .val (.int (1 : Int32)), .val (.ref b91), .val (.ref b94), .val (.ref b97), .val (.ref mu), .val (.int (1 : Int32)), .val (.ref b94), .val (.ref b94), .unset] [])) (fun _ q => XS.ifYes X.here X.hx rfl (pc0 := 182) (pc' := 191) rfl (hb hby at_182) rfl ((if0 _ _).trans (teq (show (0 : Int32) = (0 : Int32) from (by decide))).1) (by decide) (by decide) q) ?_
          refine X.getS (Or.inl (hw _ (List.mem_of_getElem? (i := 123) rfl))) (host := "") Via.refl (S_WRITE.ext O_.2) (hb hby at_191) (fun T X => ?_)
          show Goes _ _ _ _ _ _ _ _ T (mkF m 194 #[.val (.int p0), .val (.int (0 : Int32)), .val (.int (0 : Int32)), .val (.int (1 : Int32)), .val (.int (1 : Int32)), .val (.ref b91), .val (.ref b94), .val (.ref b97), .val (.ref mu), .val (.int (1 : Int32)), .val (.ref b94), .val (.ref b94), .unset] [(.ref a_WRITE)])
          refine Goes.by (g' := (mkF m 196 #[.val (.int p0), .val (.int (0 : Int32)), .val (.int (0 : Int32)), .val (.int (1 : Int32)), .val (.int (1 : Int32)), .val (.ref b91), .val (.ref b94), .val (.ref b97), .val (.ref mu), .val (.int (1 : Int32)), .val (.ref b94), .val (.ref b94), .val (.ref a_WRITE)] [])) (fun _ q => XS.astore X.here X.hx rfl (hb hby at_194) rfl rfl (l' := #[.val (.int p0), .val (.int (0 : Int32)), .val (.int (0 : Int32)), .val (.int (1 : Int32)), .val (.int (1 : Int32)), .val (.ref b91), .val (.ref b94), .val (.ref b97), .val (.ref mu), .val (.int (1 : Int32)), .val (.ref b94), .val (.ref b94), .val (.ref a_WRITE)]) rfl q) ?_
          refine Goes.by (g' := (mkF m 198 #[.val (.int p0), .val (.int (0 : Int32)), .val (.int (0 : Int32)), .val (.int (1 : Int32)), .val (.int (1 : Int32)), .val (.ref b91), .val (.ref b94), .val (.ref b97), .val (.ref mu), .val (.int (1 : Int32)), .val (.ref b94), .val (.ref b94), .val (.ref a_WRITE)] [(.int (1 : Int32))])) (fun _ q => XS.iload X.here X.hx rfl (hb hby at_196) rfl q) ?_
          refine Goes.by (g' := (mkF m 201 #[.val (.int p0), .val (.int (0 : Int32)), .val (.int (0 : Int32)), .val (.int (1 : Int32)), .val (.int (1 : Int32)), .val (.ref b91), .val (.ref b94), .val (.ref b97), .val (.ref mu), .val (.int (1 : Int32)), .val (.ref b94), .val (.ref b94), .val (.ref a_WRITE)] [])) (fun _ q => XS.ifNo X.here X.hx rfl (hb hby at_198) rfl ((if0 _ _).trans (feq (show ¬ (1 : Int32) = (0 : Int32) from (by decide))).1) q) ?_
          refine Goes.by (g' := (mkF m 203 #[.val (.int p0), .val (.int (0 : Int32)), .val (.int (0 : Int32)), .val (.int (1 : Int32)), .val (.int (1 : Int32)), .val (.ref b91), .val (.ref b94), .val (.ref b97), .val (.ref mu), .val (.int (1 : Int32)), .val (.ref b94), .val (.ref b94), .val (.ref a_WRITE)] [(.ref b94)])) (fun _ q => XS.aload X.here X.hx rfl (hb hby at_201) rfl rfl q) ?_
          refine Goes.by (g' := (mkF m 205 #[.val (.int p0), .val (.int (0 : Int32)), .val (.int (0 : Int32)), .val (.int (1 : Int32)), .val (.int (1 : Int32)), .val (.ref b91), .val (.ref b94), .val (.ref b97), .val (.ref mu), .val (.int (1 : Int32)), .val (.ref b94), .val (.ref b94), .val (.ref a_WRITE)] [(.ref b94), (.ref b94)])) (fun _ q => XS.aload X.here X.hx rfl (hb hby at_203) rfl rfl q) ?_
          refine X.acmp rfl rfl (cd := .ne) (x := (.ref b94)) (y := (.ref b94)) (same := true) (pc' := 208) (hb hby at_205) (decide_eq_true rfl) (by decide) (by decide) ?_
          show Goes _ _ _ _ _ _ _ _ T (mkF m 208 #[.val (.int p0), .val (.int (0 : Int32)), .val (.int (0 : Int32)), .val (.int (1 : Int32)), .val (.int (1 : Int32)), .val (.ref b91), .val (.ref b94), .val (.ref b97), .val (.ref mu), .val (.int (1 : Int32)), .val (.ref b94), .val (.ref b94), .val (.ref a_WRITE)] [])
          refine Goes.by (g' := (mkF m 210 #[.val (.int p0), .val (.int (0 : Int32)), .val (.int (0 : Int32)), .val (.int (1 : Int32)), .val (.int (1 : Int32)), .val (.ref b91), .val (.ref b94), .val (.ref b97), .val (.ref mu), .val (.int (1 : Int32)), .val (.ref b94), .val (.ref b94), .val (.ref a_WRITE)] [(.ref b91)])) (fun _ q => XS.aload X.here X.hx rfl (hb hby at_208) rfl rfl q) ?_
          have X_o := X
          refine X.callV E_b91 (hw _ (List.mem_of_getElem? (i := 124) rfl)) (hw _ (List.mem_of_getElem? (i := 125) rfl)) (hw _ (List.mem_of_getElem? (i := 127) rfl)) (hw _ (List.mem_of_getElem? (i := 103) rfl)) rfl (hw _ (List.mem_of_getElem? (i := 126) rfl)) (hw _ (List.mem_of_getElem? (i := 2) rfl)) (hw _ (List.mem_of_getElem? (i := 128) rfl)) (by decide) pd_193422000 (argsL := []) rfl (rm_getAllowCreate l Z a0 hw n0 h102 X.n0le b91 (0 : Int32) (by decide) F_b91_allowCreate) (by rw [hml]; rfl) rfl (by decide) (leB rfl) (hb hby at_210) (by decide) (by decide) (fun T h104 v X hQ => ?_)
          obtain ⟨rfl, hh⟩ := hQ
          rw [hh] at X
          clear hh
          show Goes _ _ _ _ _ _ _ _ T (mkF m 213 #[.val (.int p0), .val (.int (0 : Int32)), .val (.int (0 : Int32)), .val (.int (1 : Int32)), .val (.int (1 : Int32)), .val (.ref b91), .val (.ref b94), .val (.ref b97), .val (.ref mu), .val (.int (1 : Int32)), .val (.ref b94), .val (.ref b94), .val (.ref a_WRITE)] [(.int (0 : Int32))])
          refine Goes.by (g' := (mkF m 214 #[.val (.int p0), .val (.int (0 : Int32)), .val (.int (0 : Int32)), .val (.int (1 : Int32)), .val (.int (1 : Int32)), .val (.ref b91), .val (.ref b94), .val (.ref b97), .val (.ref mu), .val (.int (1 : Int32)), .val (.ref b94), .val (.ref b94), .val (.ref a_WRITE)] [(.int (0 : Int32)), (.int (0 : Int32))])) (fun _ q => XS.iloadN X.here X.hx rfl (hb hby at_213) rfl q) ?_
          refine Goes.by (g' := (mkF m 217 #[.val (.int p0), .val (.int (0 : Int32)), .val (.int (0 : Int32)), .val (.int (1 : Int32)), .val (.int (1 : Int32)), .val (.ref b91), .val (.ref b94), .val (.ref b97), .val (.ref mu), .val (.int (1 : Int32)), .val (.ref b94), .val (.ref b94), .val (.ref a_WRITE)] [])) (fun _ q => XS.icmpNo X.here X.hx rfl (hb hby at_214) rfl (teq (show (0 : Int32) = (0 : Int32) from (by decide))).2 q) ?_
          refine Goes.by (g' := (mkF m 219 #[.val (.int p0), .val (.int (0 : Int32)), .val (.int (0 : Int32)), .val (.int (1 : Int32)), .val (.int (1 : Int32)), .val (.ref b91), .val (.ref b94), .val (.ref b97), .val (.ref mu), .val (.int (1 : Int32)), .val (.ref b94), .val (.ref b94), .val (.ref a_WRITE)] [(.ref b91)])) (fun _ q => XS.aload X.here X.hx rfl (hb hby at_217) rfl rfl q) ?_
          have X_o := X
          refine X.callV E_b91 (hw _ (List.mem_of_getElem? (i := 131) rfl)) (hw _ (List.mem_of_getElem? (i := 132) rfl)) (hw _ (List.mem_of_getElem? (i := 134) rfl)) (hw _ (List.mem_of_getElem? (i := 103) rfl)) rfl (hw _ (List.mem_of_getElem? (i := 133) rfl)) (hw _ (List.mem_of_getElem? (i := 2) rfl)) (hw _ (List.mem_of_getElem? (i := 135) rfl)) (by decide) pd_2323304547 (argsL := []) rfl (rm_getDurability l Z a0 hw n0 h102 X.n0le b91 a_WRITE  F_b91_durability) (by rw [hml]; rfl) rfl (by decide) (leB rfl) (hb hby at_219) (by decide) (by decide) (fun T h105 v X hQ => ?_)
          obtain ⟨rfl, hh⟩ := hQ
          rw [hh] at X
          clear hh
          show Goes _ _ _ _ _ _ _ _ T (mkF m 222 #[.val (.int p0), .val (.int (0 : Int32)), .val (.int (0 : Int32)), .val (.int (1 : Int32)), .val (.int (1 : Int32)), .val (.ref b91), .val (.ref b94), .val (.ref b97), .val (.ref mu), .val (.int (1 : Int32)), .val (.ref b94), .val (.ref b94), .val (.ref a_WRITE)] [(.ref a_WRITE)])
          refine Goes.by (g' := (mkF m 224 #[.val (.int p0), .val (.int (0 : Int32)), .val (.int (0 : Int32)), .val (.int (1 : Int32)), .val (.int (1 : Int32)), .val (.ref b91), .val (.ref b94), .val (.ref b97), .val (.ref mu), .val (.int (1 : Int32)), .val (.ref b94), .val (.ref b94), .val (.ref a_WRITE)] [(.ref a_WRITE), (.ref a_WRITE)])) (fun _ q => XS.aload X.here X.hx rfl (hb hby at_222) rfl rfl q) ?_
          refine X.acmp rfl rfl (cd := .ne) (x := (.ref a_WRITE)) (y := (.ref a_WRITE)) (same := true) (pc' := 227) (hb hby at_224) (decide_eq_true rfl) (by decide) (by decide) ?_
          show Goes _ _ _ _ _ _ _ _ T (mkF m 227 #[.val (.int p0), .val (.int (0 : Int32)), .val (.int (0 : Int32)), .val (.int (1 : Int32)), .val (.int (1 : Int32)), .val (.ref b91), .val (.ref b94), .val (.ref b97), .val (.ref mu), .val (.int (1 : Int32)), .val (.ref b94), .val (.ref b94), .val (.ref a_WRITE)] [])
          refine Goes.by (g' := (mkF m 228 #[.val (.int p0), .val (.int (0 : Int32)), .val (.int (0 : Int32)), .val (.int (1 : Int32)), .val (.int (1 : Int32)), .val (.ref b91), .val (.ref b94), .val (.ref b97), .val (.ref mu), .val (.int (1 : Int32)), .val (.ref b94), .val (.ref b94), .val (.ref a_WRITE)] [(.int (1 : Int32))])) (fun _ q => XS.iconst X.here X.hx rfl (hb hby at_227) q) ?_
          refine Goes.by (g' := (mkF m 232 #[.val (.int p0), .val (.int (0 : Int32)), .val (.int (0 : Int32)), .val (.int (1 : Int32)), .val (.int (1 : Int32)), .val (.ref b91), .val (.ref b94), .val (.ref b97), .val (.ref mu), .val (.int (1 : Int32)), .val (.ref b94), .val (.ref b94), .val (.ref a_WRITE)] [(.int (1 : Int32))])) (fun _ q => XS.goto X.here X.hx rfl (pc0 := 228) (pc' := 232) rfl (hb hby at_228) (by decide) (by decide) q) ?_
          exact X.retZ hret (hb hby at_232) (by decide) (by decide) rfl
    · skip
      refine Goes.by (g' := (mkF m 18 #[.val (.int p0), .val (.int (0 : Int32)), .unset, .unset, .unset, .unset, .unset, .unset, .unset, .unset, .unset, .unset, .unset] [])) (fun _ q => XS.ifNo X.here X.hx rfl (hb hby at_15) rfl ((if0 _ _).trans (feq hB44).1) q) ?_
      refine Goes.by (g' := (mkF m 19 #[.val (.int p0), .val (.int (0 : Int32)), .unset, .unset, .unset, .unset, .unset, .unset, .unset, .unset, .unset, .unset, .unset] [(.int (1 : Int32))])) (fun _ q => XS.iconst X.here X.hx rfl (hb hby at_18) q) ?_
      refine Goes.by (g' := (mkF m 23 #[.val (.int p0), .val (.int (0 : Int32)), .unset, .unset, .unset, .unset, .unset, .unset, .unset, .unset, .unset, .unset, .unset] [(.int (1 : Int32))])) (fun _ q => XS.goto X.here X.hx rfl (pc0 := 19) (pc' := 23) rfl (hb hby at_19) (by decide) (by decide) q) ?_
      refine Goes.by (g' := (mkF m 24 #[.val (.int p0), .val (.int (0 : Int32)), .val (.int (1 : Int32)), .unset, .unset, .unset, .unset, .unset, .unset, .unset, .unset, .unset, .unset] [])) (fun _ q => XS.istoreN X.here X.hx rfl (hb hby at_23) rfl (l' := #[.val (.int p0), .val (.int (0 : Int32)), .val (.int (1 : Int32)), .unset, .unset, .unset, .unset, .unset, .unset, .unset, .unset, .unset, .unset]) rfl q) ?_
      refine Goes.by (g' := (mkF m 25 #[.val (.int p0), .val (.int (0 : Int32)), .val (.int (1 : Int32)), .unset, .unset, .unset, .unset, .unset, .unset, .unset, .unset, .unset, .unset] [(.int p0)])) (fun _ q => XS.iloadN X.here X.hx rfl (hb hby at_24) rfl q) ?_
      refine Goes.by (g' := (mkF m 26 #[.val (.int p0), .val (.int (0 : Int32)), .val (.int (1 : Int32)), .unset, .unset, .unset, .unset, .unset, .unset, .unset, .unset, .unset, .unset] [(.int (4 : Int32)), (.int p0)])) (fun _ q => XS.iconst X.here X.hx rfl (hb hby at_25) q) ?_
      refine Goes.by (g' := (mkF m 27 #[.val (.int p0), .val (.int (0 : Int32)), .val (.int (1 : Int32)), .unset, .unset, .unset, .unset, .unset, .unset, .unset, .unset, .unset, .unset] [(.int (p0 &&& (4 : Int32)))])) (fun _ q => XS.iand X.here X.hx rfl (hb hby at_26) rfl q) ?_
      by_cases hB106 : (p0 &&& (4 : Int32)) = (0 : Int32)
      · skip
        refine Goes.by (g' := (mkF m 34 #[.val (.int p0), .val (.int (0 : Int32)), .val (.int (1 : Int32)), .unset, .unset, .unset, .unset, .unset, .unset, .unset, .unset, .unset, .unset] [])) (fun _ q => XS.ifYes X.here X.hx rfl (pc0 := 27) (pc' := 34) rfl (hb hby at_27) rfl ((if0 _ _).trans (teq hB106).1) (by decide) (by decide) q) ?_
        refine Goes.by (g' := (mkF m 35 #[.val (.int p0), .val (.int (0 : Int32)), .val (.int (1 : Int32)), .unset, .unset, .unset, .unset, .unset, .unset, .unset, .unset, .unset, .unset] [(.int (0 : Int32))])) (fun _ q => XS.iconst X.here X.hx rfl (hb hby at_34) q) ?_
        refine Goes.by (g' := (mkF m 36 #[.val (.int p0), .val (.int (0 : Int32)), .val (.int (1 : Int32)), .val (.int (0 : Int32)), .unset, .unset, .unset, .unset, .unset, .unset, .unset, .unset, .unset] [])) (fun _ q => XS.istoreN X.here X.hx rfl (hb hby at_35) rfl (l' := #[.val (.int p0), .val (.int (0 : Int32)), .val (.int (1 : Int32)), .val (.int (0 : Int32)), .unset, .unset, .unset, .unset, .unset, .unset, .unset, .unset, .unset]) rfl q) ?_
        refine Goes.by (g' := (mkF m 37 #[.val (.int p0), .val (.int (0 : Int32)), .val (.int (1 : Int32)), .val (.int (0 : Int32)), .unset, .unset, .unset, .unset, .unset, .unset, .unset, .unset, .unset] [(.int p0)])) (fun _ q => XS.iloadN X.here X.hx rfl (hb hby at_36) rfl q) ?_
        refine Goes.by (g' := (mkF m 39 #[.val (.int p0), .val (.int (0 : Int32)), .val (.int (1 : Int32)), .val (.int (0 : Int32)), .unset, .unset, .unset, .unset, .unset, .unset, .unset, .unset, .unset] [(.int (8 : Int32)), (.int p0)])) (fun _ q => XS.bipush X.here X.hx rfl (hb hby at_37) q) ?_
        refine Goes.by (g' := (mkF m 40 #[.val (.int p0), .val (.int (0 : Int32)), .val (.int (1 : Int32)), .val (.int (0 : Int32)), .unset, .unset, .unset, .unset, .unset, .unset, .unset, .unset, .unset] [(.int (p0 &&& (8 : Int32)))])) (fun _ q => XS.iand X.here X.hx rfl (hb hby at_39) rfl q) ?_
        by_cases hB107 : (p0 &&& (8 : Int32)) = (0 : Int32)
        · skip
          refine Goes.by (g' := (mkF m 47 #[.val (.int p0), .val (.int (0 : Int32)), .val (.int (1 : Int32)), .val (.int (0 : Int32)), .unset, .unset, .unset, .unset, .unset, .unset, .unset, .unset, .unset] [])) (fun _ q => XS.ifYes X.here X.hx rfl (pc0 := 40) (pc' := 47) rfl (hb hby at_40) rfl ((if0 _ _).trans (teq hB107).1) (by decide) (by decide) q) ?_
          refine Goes.by (g' := (mkF m 48 #[.val (.int p0), .val (.int (0 : Int32)), .val (.int (1 : Int32)), .val (.int (0 : Int32)), .unset, .unset, .unset, .unset, .unset, .unset, .unset, .unset, .unset] [(.int (0 : Int32))])) (fun _ q => XS.iconst X.here X.hx rfl (hb hby at_47) q) ?_
          refine Goes.by (g' := (mkF m 50 #[.val (.int p0), .val (.int (0 : Int32)), .val (.int (1 : Int32)), .val (.int (0 : Int32)), .val (.int (0 : Int32)), .unset, .unset, .unset, .unset, .unset, .unset, .unset, .unset] [])) (fun _ q => XS.istore X.here X.hx rfl (hb hby at_48) rfl (l' := #[.val (.int p0), .val (.int (0 : Int32)), .val (.int (1 : Int32)), .val (.int (0 : Int32)), .val (.int (0 : Int32)), .unset, .unset, .unset, .unset, .unset, .unset, .unset, .unset]) rfl q) ?_
          refine X.newO (hw _ (List.mem_of_getElem? (i := 0) rfl)) (hw _ (List.mem_of_getElem? (i := 1) rfl)) (hw _ (List.mem_of_getElem? (i := 2) rfl)) (hb hby at_50) (by decide) (by decide) (fun T h109 b108 X g_b108 ga_b108 E E_b108 D_b108 => ?_)
          have O_ := O_.ext E
          have F_b108_mutations : Fld Z h109 b108 "com/example/hafiza/hafiza/StoreConfig" "mutations" "Lcom/example/hafiza/hafiza/Mutations;" .null := D_b108 (Or.inl (hw _ (List.mem_of_getElem? (i := 92) rfl))) (ty := (.object "com/example/hafiza/hafiza/Mutations")) (by decide)
          have F_b108_durability : Fld Z h109 b108 "com/example/hafiza/hafiza/StoreConfig" "durability" "Lcom/example/hafiza/hafiza/Durability;" .null := D_b108 (Or.inl (hw _ (List.mem_of_getElem? (i := 97) rfl))) (ty := (.object "com/example/hafiza/hafiza/Durability")) (by decide)
          have F_b108_allowCreate : Fld Z h109 b108 "com/example/hafiza/hafiza/StoreConfig" "allowCreate" "Z" (.int (0 : Int32)) := D_b108 (Or.inl (hw _ (List.mem_of_getElem? (i := 130) rfl))) (ty := .boolean) (by decide)
          show Goes _ _ _ _ _ _ _ _ T (mkF m 53 #[.val (.int p0), .val (.int (0 : Int32)), .val (.int (1 : Int32)), .val (.int (0 : Int32)), .val (.int (0 : Int32)), .unset, .unset, .unset, .unset, .unset, .unset, .unset, .unset] [(.ref b108)])
          refine Goes.by (g' := (mkF m 54 #[.val (.int p0), .val (.int (0 : Int32)), .val (.int (1 : Int32)), .val (.int (0 : Int32)), .val (.int (0 : Int32)), .unset, .unset, .unset, .unset, .unset, .unset, .unset, .unset] [(.ref b108), (.ref b108)])) (fun _ q => XS.dup X.here X.hx rfl (hb hby at_53) rfl rfl q) ?_
          have X_o := X
          refine X.callN rfl (hw _ (List.mem_of_getElem? (i := 3) rfl)) (hw _ (List.mem_of_getElem? (i := 4) rfl)) (hw _ (List.mem_of_getElem? (i := 2) rfl)) (hw _ (List.mem_of_getElem? (i := 5) rfl)) (by decide) pd_193421996 (argsL := []) rfl (rmSC l Z a0 hw n0 h109 X.n0le b108 ga_b108 E_b108 F_b108_mutations F_b108_durability F_b108_allowCreate a_WRITE S_WRITE O_) (by rw [hml]; rfl) rfl (by decide) (leB rfl) (hb hby at_54) (by decide) (by decide) (fun T h110 v X hQ => ?_)
          obtain ⟨rfl, K, mu, gz, E_mu, F_b108_mutations, F_b108_durability, F_b108_allowCreate⟩ := hQ
          have ga_mu : n0 ≤ mu := Nat.le_trans X_o.n0le gz
          have ne_b108_mu : b108 ≠ mu := Nat.ne_of_lt (Nat.lt_of_lt_of_le E_b108.lt gz)
          have O_ := O_.keep K (allS ga_b108 all0)
          have E_b108 := E_b108.keep K
          show Goes _ _ _ _ _ _ _ _ T (mkF m 57 #[.val (.int p0), .val (.int (0 : Int32)), .val (.int (1 : Int32)), .val (.int (0 : Int32)), .val (.int (0 : Int32)), .unset, .unset, .unset, .unset, .unset, .unset, .unset, .unset] [(.ref b108)])
          refine Goes.by (g' := (mkF m 59 #[.val (.int p0), .val (.int (0 : Int32)), .val (.int (1 : Int32)), .val (.int (0 : Int32)), .val (.int (0 : Int32)), .val (.ref b108), .unset, .unset, .unset, .unset, .unset, .unset, .unset] [])) (fun _ q => XS.astore X.here X.hx rfl (hb hby at_57) rfl rfl (l' := #[.val (.int p0), .val (.int (0 : Int32)), .val (.int (1 : Int32)), .val (.int (0 : Int32)), .val (.int (0 : Int32)), .val (.ref b108), .unset, .unset, .unset, .unset, .unset, .unset, .unset]) rfl q) ?_
          refine Goes.by (g' := (mkF m 60 #[.val (.int p0), .val (.int (0 : Int32)), .val (.int (1 : Int32)), .val (.int (0 : Int32)), .val (.int (0 : Int32)), .val (.ref b108), .unset, .unset, .unset, .unset, .unset, .unset, .unset] [(.int (0 : Int32))])) (fun _ q => XS.iloadN X.here X.hx rfl (hb hby at_59) rfl q) ?_
          refine Goes.by (g' := (mkF m 69 #[.val (.int p0), .val (.int (0 : Int32)), .val (.int (1 : Int32)), .val (.int (0 : Int32)), .val (.int (0 : Int32)), .val (.ref b108), .unset, .unset, .unset, .unset, .unset, .unset, .unset] [])) (fun _ q => XS.ifYes X.here X.hx rfl (pc0 := 60) (pc' := 69) rfl (hb hby at_60) rfl ((if0 _ _).trans (teq (show (0 : Int32) = (0 : Int32) from (by decide))).1) (by decide) (by decide) q) ?_
          refine Goes.by (g' := (mkF m 70 #[.val (.int p0), .val (.int (0 : Int32)), .val (.int (1 : Int32)), .val (.int (0 : Int32)), .val (.int (0 : Int32)), .val (.ref b108), .unset, .unset, .unset, .unset, .unset, .unset, .unset] [(.int (1 : Int32))])) (fun _ q => XS.iloadN X.here X.hx rfl (hb hby at_69) rfl q) ?_
          refine Goes.by (g' := (mkF m 73 #[.val (.int p0), .val (.int (0 : Int32)), .val (.int (1 : Int32)), .val (.int (0 : Int32)), .val (.int (0 : Int32)), .val (.ref b108), .unset, .unset, .unset, .unset, .unset, .unset, .unset] [])) (fun _ q => XS.ifNo X.here X.hx rfl (hb hby at_70) rfl ((if0 _ _).trans (feq (show ¬ (1 : Int32) = (0 : Int32) from (by decide))).1) q) ?_
          refine Goes.by (g' := (mkF m 75 #[.val (.int p0), .val (.int (0 : Int32)), .val (.int (1 : Int32)), .val (.int (0 : Int32)), .val (.int (0 : Int32)), .val (.ref b108), .unset, .unset, .unset, .unset, .unset, .unset, .unset] [(.ref b108)])) (fun _ q => XS.aload X.here X.hx rfl (hb hby at_73) rfl rfl q) ?_
          refine X.getS (Or.inl (hw _ (List.mem_of_getElem? (i := 141) rfl))) (host := "") Via.refl (S_FORCE.ext O_.2) (hb hby at_75) (fun T X => ?_)
          show Goes _ _ _ _ _ _ _ _ T (mkF m 78 #[.val (.int p0), .val (.int (0 : Int32)), .val (.int (1 : Int32)), .val (.int (0 : Int32)), .val (.int (0 : Int32)), .val (.ref b108), .unset, .unset, .unset, .unset, .unset, .unset, .unset] [(.ref a_FORCE), (.ref b108)])
          have X_o := X
          refine X.callV E_b108 (hw _ (List.mem_of_getElem? (i := 143) rfl)) (hw _ (List.mem_of_getElem? (i := 144) rfl)) (hw _ (List.mem_of_getElem? (i := 146) rfl)) (hw _ (List.mem_of_getElem? (i := 103) rfl)) rfl (hw _ (List.mem_of_getElem? (i := 145) rfl)) (hw _ (List.mem_of_getElem? (i := 2) rfl)) (hw _ (List.mem_of_getElem? (i := 147) rfl)) (by decide) pd_2427134969 (argsL := [(.ref a_FORCE)]) rfl (rm_setDurability l Z a0 hw n0 h110 X.n0le b108 a_FORCE (.ref a_WRITE) ga_b108 E_b108 (E_FORCE.ext O_.2) F_b108_durability (.ref mu) F_b108_mutations (.int (0 : Int32)) F_b108_allowCreate) (by rw [hml]; rfl) rfl (by decide) (leB rfl) (hb hby at_78) (by decide) (by decide) (fun T h111 v X hQ => ?_)
          obtain ⟨rfl, K, F_b108_durability, F_b108_mutations, F_b108_allowCreate⟩ := hQ
          have O_ := O_.keep K (allS ga_b108 all0)
          have E_b108 := E_b108.keep K
          have E_mu := E_mu.keep K
          show Goes _ _ _ _ _ _ _ _ T (mkF m 81 #[.val (.int p0), .val (.int (0 : Int32)), .val (.int (1 : Int32)), .val (.int (0 : Int32)), .val (.int (0 : Int32)), .val (.ref b108), .unset, .unset, .unset, .unset, .unset, .unset, .unset] [])
          refine X.newO (hw _ (List.mem_of_getElem? (i := 98) rfl)) (hw _ (List.mem_of_getElem? (i := 10) rfl)) (hw _ (List.mem_of_getElem? (i := 11) rfl)) (hb hby at_81) (by decide) (by decide) (fun T h113 b112 X g_b112 ga_b112 E E_b112 D_b112 => ?_)
          have ne_b108_b112 : b108 ≠ b112 := by rw [g_b112]; exact Nat.ne_of_lt E_b108.lt
          have ne_mu_b112 : mu ≠ b112 := by rw [g_b112]; exact Nat.ne_of_lt E_mu.lt
          have O_ := O_.ext E
          have E_b108 := E_b108.ext E
          have E_mu := E_mu.ext E
          have F_b108_durability := F_b108_durability.ext E
          have F_b108_mutations := F_b108_mutations.ext E
          have F_b108_allowCreate := F_b108_allowCreate.ext E
          have F_b112_renamers : Fld Z h113 b112 "com/example/hafiza/hafiza/Mutations" "renamers" "Ljava/util/Set;" .null := D_b112 (Or.inr (hw _ (List.mem_of_getElem? (i := 86) rfl))) (ty := (.object "java/util/Set")) (by decide)
          have F_b112_deleters : Fld Z h113 b112 "com/example/hafiza/hafiza/Mutations" "deleters" "Ljava/util/Set;" .null := D_b112 (Or.inr (hw _ (List.mem_of_getElem? (i := 88) rfl))) (ty := (.object "java/util/Set")) (by decide)
          have F_b112_converters : Fld Z h113 b112 "com/example/hafiza/hafiza/Mutations" "converters" "Ljava/util/Set;" .null := D_b112 (Or.inr (hw _ (List.mem_of_getElem? (i := 90) rfl))) (ty := (.object "java/util/Set")) (by decide)
          show Goes _ _ _ _ _ _ _ _ T (mkF m 84 #[.val (.int p0), .val (.int (0 : Int32)), .val (.int (1 : Int32)), .val (.int (0 : Int32)), .val (.int (0 : Int32)), .val (.ref b108), .unset, .unset, .unset, .unset, .unset, .unset, .unset] [(.ref b112)])
          refine Goes.by (g' := (mkF m 85 #[.val (.int p0), .val (.int (0 : Int32)), .val (.int (1 : Int32)), .val (.int (0 : Int32)), .val (.int (0 : Int32)), .val (.ref b108), .unset, .unset, .unset, .unset, .unset, .unset, .unset] [(.ref b112), (.ref b112)])) (fun _ q => XS.dup X.here X.hx rfl (hb hby at_84) rfl rfl q) ?_
          have X_o := X
          refine X.callN rfl (hw _ (List.mem_of_getElem? (i := 99) rfl)) (hw _ (List.mem_of_getElem? (i := 13) rfl)) (hw _ (List.mem_of_getElem? (i := 11) rfl)) (hw _ (List.mem_of_getElem? (i := 14) rfl)) (by decide) pd_193421996 (argsL := []) rfl (rmMU l Z a0 hw n0 h113 X.n0le b112 ga_b112 E_b112 F_b112_renamers F_b112_deleters F_b112_converters) (by rw [hml]; rfl) rfl (by decide) (leB rfl) (hb hby at_85) (by decide) (by decide) (fun T h114 v X hQ => ?_)
          obtain ⟨rfl, K⟩ := hQ
          have O_ := O_.keep K (allS ga_b112 all0)
          have E_b108 := E_b108.keep K
          have E_mu := E_mu.keep K
          have F_b108_durability := F_b108_durability.keep K (ninS ne_b108_b112 nin0)
          have F_b108_mutations := F_b108_mutations.keep K (ninS ne_b108_b112 nin0)
          have F_b108_allowCreate := F_b108_allowCreate.keep K (ninS ne_b108_b112 nin0)
          have E_b112 := E_b112.keep K
          show Goes _ _ _ _ _ _ _ _ T (mkF m 88 #[.val (.int p0), .val (.int (0 : Int32)), .val (.int (1 : Int32)), .val (.int (0 : Int32)), .val (.int (0 : Int32)), .val (.ref b108), .unset, .unset, .unset, .unset, .unset, .unset, .unset] [(.ref b112)])
          refine Goes.by (g' := (mkF m 90 #[.val (.int p0), .val (.int (0 : Int32)), .val (.int (1 : Int32)), .val (.int (0 : Int32)), .val (.int (0 : Int32)), .val (.ref b108), .val (.ref b112), .unset, .unset, .unset, .unset, .unset, .unset] [])) (fun _ q => XS.astore X.here X.hx rfl (hb hby at_88) rfl rfl (l' := #[.val (.int p0), .val (.int (0 : Int32)), .val (.int (1 : Int32)), .val (.int (0 : Int32)), .val (.int (0 : Int32)), .val (.ref b108), .val (.ref b112), .unset, .unset, .unset, .unset, .unset, .unset]) rfl q) ?_
          refine X.newO (hw _ (List.mem_of_getElem? (i := 98) rfl)) (hw _ (List.mem_of_getElem? (i := 10) rfl)) (hw _ (List.mem_of_getElem? (i := 11) rfl)) (hb hby at_90) (by decide) (by decide) (fun T h116 b115 X g_b115 ga_b115 E E_b115 D_b115 => ?_)
          have ne_b108_b115 : b108 ≠ b115 := by rw [g_b115]; exact Nat.ne_of_lt E_b108.lt
          have ne_mu_b115 : mu ≠ b115 := by rw [g_b115]; exact Nat.ne_of_lt E_mu.lt
          have ne_b112_b115 : b112 ≠ b115 := by rw [g_b115]; exact Nat.ne_of_lt E_b112.lt
          have O_ := O_.ext E
          have E_b108 := E_b108.ext E
          have E_mu := E_mu.ext E
          have F_b108_durability := F_b108_durability.ext E
          have F_b108_mutations := F_b108_mutations.ext E
          have F_b108_allowCreate := F_b108_allowCreate.ext E
          have E_b112 := E_b112.ext E
          have F_b115_renamers : Fld Z h116 b115 "com/example/hafiza/hafiza/Mutations" "renamers" "Ljava/util/Set;" .null := D_b115 (Or.inr (hw _ (List.mem_of_getElem? (i := 86) rfl))) (ty := (.object "java/util/Set")) (by decide)
          have F_b115_deleters : Fld Z h116 b115 "com/example/hafiza/hafiza/Mutations" "deleters" "Ljava/util/Set;" .null := D_b115 (Or.inr (hw _ (List.mem_of_getElem? (i := 88) rfl))) (ty := (.object "java/util/Set")) (by decide)
          have F_b115_converters : Fld Z h116 b115 "com/example/hafiza/hafiza/Mutations" "converters" "Ljava/util/Set;" .null := D_b115 (Or.inr (hw _ (List.mem_of_getElem? (i := 90) rfl))) (ty := (.object "java/util/Set")) (by decide)
          show Goes _ _ _ _ _ _ _ _ T (mkF m 93 #[.val (.int p0), .val (.int (0 : Int32)), .val (.int (1 : Int32)), .val (.int (0 : Int32)), .val (.int (0 : Int32)), .val (.ref b108), .val (.ref b112), .unset, .unset, .unset, .unset, .unset, .unset] [(.ref b115)])
          refine Goes.by (g' := (mkF m 94 #[.val (.int p0), .val (.int (0 : Int32)), .val (.int (1 : Int32)), .val (.int (0 : Int32)), .val (.int (0 : Int32)), .val (.ref b108), .val (.ref b112), .unset, .unset, .unset, .unset, .unset, .unset] [(.ref b115), (.ref b115)])) (fun _ q => XS.dup X.here X.hx rfl (hb hby at_93) rfl rfl q) ?_
          have X_o := X
          refine X.callN rfl (hw _ (List.mem_of_getElem? (i := 99) rfl)) (hw _ (List.mem_of_getElem? (i := 13) rfl)) (hw _ (List.mem_of_getElem? (i := 11) rfl)) (hw _ (List.mem_of_getElem? (i := 14) rfl)) (by decide) pd_193421996 (argsL := []) rfl (rmMU l Z a0 hw n0 h116 X.n0le b115 ga_b115 E_b115 F_b115_renamers F_b115_deleters F_b115_converters) (by rw [hml]; rfl) rfl (by decide) (leB rfl) (hb hby at_94) (by decide) (by decide) (fun T h117 v X hQ => ?_)
          obtain ⟨rfl, K⟩ := hQ
          have O_ := O_.keep K (allS ga_b115 all0)
          have E_b108 := E_b108.keep K
          have E_mu := E_mu.keep K
          have F_b108_durability := F_b108_durability.keep K (ninS ne_b108_b115 nin0)
          have F_b108_mutations := F_b108_mutations.keep K (ninS ne_b108_b115 nin0)
          have F_b108_allowCreate := F_b108_allowCreate.keep K (ninS ne_b108_b115 nin0)
          have E_b112 := E_b112.keep K
          have E_b115 := E_b115.keep K
          show Goes _ _ _ _ _ _ _ _ T (mkF m 97 #[.val (.int p0), .val (.int (0 : Int32)), .val (.int (1 : Int32)), .val (.int (0 : Int32)), .val (.int (0 : Int32)), .val (.ref b108), .val (.ref b112), .unset, .unset, .unset, .unset, .unset, .unset] [(.ref b115)])
          refine Goes.by (g' := (mkF m 99 #[.val (.int p0), .val (.int (0 : Int32)), .val (.int (1 : Int32)), .val (.int (0 : Int32)), .val (.int (0 : Int32)), .val (.ref b108), .val (.ref b112), .val (.ref b115), .unset, .unset, .unset, .unset, .unset] [])) (fun _ q => XS.astore X.here X.hx rfl (hb hby at_97) rfl rfl (l' := #[.val (.int p0), .val (.int (0 : Int32)), .val (.int (1 : Int32)), .val (.int (0 : Int32)), .val (.int (0 : Int32)), .val (.ref b108), .val (.ref b112), .val (.ref b115), .unset, .unset, .unset, .unset, .unset]) rfl q) ?_
          refine Goes.by (g' := (mkF m 101 #[.val (.int p0), .val (.int (0 : Int32)), .val (.int (1 : Int32)), .val (.int (0 : Int32)), .val (.int (0 : Int32)), .val (.ref b108), .val (.ref b112), .val (.ref b115), .unset, .unset, .unset, .unset, .unset] [(.ref b108)])) (fun _ q => XS.aload X.here X.hx rfl (hb hby at_99) rfl rfl q) ?_
          have X_o := X
          refine X.callV E_b108 (hw _ (List.mem_of_getElem? (i := 100) rfl)) (hw _ (List.mem_of_getElem? (i := 101) rfl)) (hw _ (List.mem_of_getElem? (i := 103) rfl)) (hw _ (List.mem_of_getElem? (i := 103) rfl)) rfl (hw _ (List.mem_of_getElem? (i := 102) rfl)) (hw _ (List.mem_of_getElem? (i := 2) rfl)) (hw _ (List.mem_of_getElem? (i := 104) rfl)) (by decide) pd_2544813166 (argsL := []) rfl (rm_getMutations l Z a0 hw n0 h117 X.n0le b108 mu  F_b108_mutations) (by rw [hml]; rfl) rfl (by decide) (leB rfl) (hb hby at_101) (by decide) (by decide) (fun T h118 v X hQ => ?_)
          obtain ⟨rfl, hh⟩ := hQ
          rw [hh] at X
          clear hh
          show Goes _ _ _ _ _ _ _ _ T (mkF m 104 #[.val (.int p0), .val (.int (0 : Int32)), .val (.int (1 : Int32)), .val (.int (0 : Int32)), .val (.int (0 : Int32)), .val (.ref b108), .val (.ref b112), .val (.ref b115), .unset, .unset, .unset, .unset, .unset] [(.ref mu)])
          refine Goes.by (g' := (mkF m 106 #[.val (.int p0), .val (.int (0 : Int32)), .val (.int (1 : Int32)), .val (.int (0 : Int32)), .val (.int (0 : Int32)), .val (.ref b108), .val (.ref b112), .val (.ref b115), .val (.ref mu), .unset, .unset, .unset, .unset] [])) (fun _ q => XS.astore X.here X.hx rfl (hb hby at_104) rfl rfl (l' := #[.val (.int p0), .val (.int (0 : Int32)), .val (.int (1 : Int32)), .val (.int (0 : Int32)), .val (.int (0 : Int32)), .val (.ref b108), .val (.ref b112), .val (.ref b115), .val (.ref mu), .unset, .unset, .unset, .unset]) rfl q) ?_
          refine Goes.by (g' := (mkF m 108 #[.val (.int p0), .val (.int (0 : Int32)), .val (.int (1 : Int32)), .val (.int (0 : Int32)), .val (.int (0 : Int32)), .val (.ref b108), .val (.ref b112), .val (.ref b115), .val (.ref mu), .unset, .unset, .unset, .unset] [(.ref mu)])) (fun _ q => XS.aload X.here X.hx rfl (hb hby at_106) rfl rfl q) ?_
          refine Goes.by (g' := (mkF m 111 #[.val (.int p0), .val (.int (0 : Int32)), .val (.int (1 : Int32)), .val (.int (0 : Int32)), .val (.int (0 : Int32)), .val (.ref b108), .val (.ref b112), .val (.ref b115), .val (.ref mu), .unset, .unset, .unset, .unset] [])) (fun _ q => XS.ifnullNo X.here X.hx rfl (hb hby at_108) rfl q) ?_
          refine Goes.by (g' := (mkF m 113 #[.val (.int p0), .val (.int (0 : Int32)), .val (.int (1 : Int32)), .val (.int (0 : Int32)), .val (.int (0 : Int32)), .val (.ref b108), .val (.ref b112), .val (.ref b115), .val (.ref mu), .unset, .unset, .unset, .unset] [(.ref mu)])) (fun _ q => XS.aload X.here X.hx rfl (hb hby at_111) rfl rfl q) ?_
          refine Goes.by (g' := (mkF m 115 #[.val (.int p0), .val (.int (0 : Int32)), .val (.int (1 : Int32)), .val (.int (0 : Int32)), .val (.int (0 : Int32)), .val (.ref b108), .val (.ref b112), .val (.ref b115), .val (.ref mu), .unset, .unset, .unset, .unset] [(.ref b112), (.ref mu)])) (fun _ q => XS.aload X.here X.hx rfl (hb hby at_113) rfl rfl q) ?_
          refine X.acmp rfl rfl (cd := .eq) (x := (.ref mu)) (y := (.ref b112)) (same := false) (pc' := 118) (hb hby at_115) (decide_eq_false fun q => ne_mu_b112 (Value.ref.inj q)) (by decide) (by decide) ?_
          show Goes _ _ _ _ _ _ _ _ T (mkF m 118 #[.val (.int p0), .val (.int (0 : Int32)), .val (.int (1 : Int32)), .val (.int (0 : Int32)), .val (.int (0 : Int32)), .val (.ref b108), .val (.ref b112), .val (.ref b115), .val (.ref mu), .unset, .unset, .unset, .unset] [])
          refine Goes.by (g' := (mkF m 120 #[.val (.int p0), .val (.int (0 : Int32)), .val (.int (1 : Int32)), .val (.int (0 : Int32)), .val (.int (0 : Int32)), .val (.ref b108), .val (.ref b112), .val (.ref b115), .val (.ref mu), .unset, .unset, .unset, .unset] [(.ref mu)])) (fun _ q => XS.aload X.here X.hx rfl (hb hby at_118) rfl rfl q) ?_
          refine Goes.by (g' := (mkF m 122 #[.val (.int p0), .val (.int (0 : Int32)), .val (.int (1 : Int32)), .val (.int (0 : Int32)), .val (.int (0 : Int32)), .val (.ref b108), .val (.ref b112), .val (.ref b115), .val (.ref mu), .unset, .unset, .unset, .unset] [(.ref b115), (.ref mu)])) (fun _ q => XS.aload X.here X.hx rfl (hb hby at_120) rfl rfl q) ?_
          refine X.acmp rfl rfl (cd := .eq) (x := (.ref mu)) (y := (.ref b115)) (same := false) (pc' := 125) (hb hby at_122) (decide_eq_false fun q => ne_mu_b115 (Value.ref.inj q)) (by decide) (by decide) ?_
          show Goes _ _ _ _ _ _ _ _ T (mkF m 125 #[.val (.int p0), .val (.int (0 : Int32)), .val (.int (1 : Int32)), .val (.int (0 : Int32)), .val (.int (0 : Int32)), .val (.ref b108), .val (.ref b112), .val (.ref b115), .val (.ref mu), .unset, .unset, .unset, .unset] [])
          refine Goes.by (g' := (mkF m 126 #[.val (.int p0), .val (.int (0 : Int32)), .val (.int (1 : Int32)), .val (.int (0 : Int32)), .val (.int (0 : Int32)), .val (.ref b108), .val (.ref b112), .val (.ref b115), .val (.ref mu), .unset, .unset, .unset, .unset] [(.int (1 : Int32))])) (fun _ q => XS.iconst X.here X.hx rfl (hb hby at_125) q) ?_
          refine Goes.by (g' := (mkF m 130 #[.val (.int p0), .val (.int (0 : Int32)), .val (.int (1 : Int32)), .val (.int (0 : Int32)), .val (.int (0 : Int32)), .val (.ref b108), .val (.ref b112), .val (.ref b115), .val (.ref mu), .unset, .unset, .unset, .unset] [(.int (1 : Int32))])) (fun _ q => XS.goto X.here X.hx rfl (pc0 := 126) (pc' := 130) rfl (hb hby at_126) (by decide) (by decide) q) ?_
          refine Goes.by (g' := (mkF m 132 #[.val (.int p0), .val (.int (0 : Int32)), .val (.int (1 : Int32)), .val (.int (0 : Int32)), .val (.int (0 : Int32)), .val (.ref b108), .val (.ref b112), .val (.ref b115), .val (.ref mu), .val (.int (1 : Int32)), .unset, .unset, .unset] [])) (fun _ q => XS.istore X.here X.hx rfl (hb hby at_130) rfl (l' := #[.val (.int p0), .val (.int (0 : Int32)), .val (.int (1 : Int32)), .val (.int (0 : Int32)), .val (.int (0 : Int32)), .val (.ref b108), .val (.ref b112), .val (.ref b115), .val (.ref mu), .val (.int (1 : Int32)), .unset, .unset, .unset]) rfl q) ?_
          refine Goes.by (g' := (mkF m 133 #[.val (.int p0), .val (.int (0 : Int32)), .val (.int (1 : Int32)), .val (.int (0 : Int32)), .val (.int (0 : Int32)), .val (.ref b108), .val (.ref b112), .val (.ref b115), .val (.ref mu), .val (.int (1 : Int32)), .unset, .unset, .unset] [(.int (0 : Int32))])) (fun _ q => XS.iloadN X.here X.hx rfl (hb hby at_132) rfl q) ?_
          refine Goes.by (g' := (mkF m 153 #[.val (.int p0), .val (.int (0 : Int32)), .val (.int (1 : Int32)), .val (.int (0 : Int32)), .val (.int (0 : Int32)), .val (.ref b108), .val (.ref b112), .val (.ref b115), .val (.ref mu), .val (.int (1 : Int32)), .unset, .unset, .unset] [])) (fun _ q => XS.ifYes X.here X.hx rfl (pc0 := 133) (pc' := 153) rfl (hb hby at_133) rfl ((if0 _ _).trans (teq (show (0 : Int32) = (0 : Int32) from (by decide))).1) (by decide) (by decide) q) ?_
          refine Goes.by (g' := (mkF m 155 #[.val (.int p0), .val (.int (0 : Int32)), .val (.int (1 : Int32)), .val (.int (0 : Int32)), .val (.int (0 : Int32)), .val (.ref b108), .val (.ref b112), .val (.ref b115), .val (.ref mu), .val (.int (1 : Int32)), .unset, .unset, .unset] [(.int (0 : Int32))])) (fun _ q => XS.iload X.here X.hx rfl (hb hby at_153) rfl q) ?_
          refine Goes.by (g' := (mkF m 163 #[.val (.int p0), .val (.int (0 : Int32)), .val (.int (1 : Int32)), .val (.int (0 : Int32)), .val (.int (0 : Int32)), .val (.ref b108), .val (.ref b112), .val (.ref b115), .val (.ref mu), .val (.int (1 : Int32)), .unset, .unset, .unset] [])) (fun _ q => XS.ifYes X.here X.hx rfl (pc0 := 155) (pc' := 163) rfl (hb hby at_155) rfl ((if0 _ _).trans (teq (show (0 : Int32) = (0 : Int32) from (by decide))).1) (by decide) (by decide) q) ?_
          refine Goes.by (g' := (mkF m 165 #[.val (.int p0), .val (.int (0 : Int32)), .val (.int (1 : Int32)), .val (.int (0 : Int32)), .val (.int (0 : Int32)), .val (.ref b108), .val (.ref b112), .val (.ref b115), .val (.ref mu), .val (.int (1 : Int32)), .unset, .unset, .unset] [(.ref b115)])) (fun _ q => XS.aload X.here X.hx rfl (hb hby at_163) rfl rfl q) ?_
          refine Goes.by (g' := (mkF m 167 #[.val (.int p0), .val (.int (0 : Int32)), .val (.int (1 : Int32)), .val (.int (0 : Int32)), .val (.int (0 : Int32)), .val (.ref b108), .val (.ref b112), .val (.ref b115), .val (.ref mu), .val (.int (1 : Int32)), .val (.ref b115), .unset, .unset] [])) (fun _ q => XS.astore X.here X.hx rfl (hb hby at_165) rfl rfl (l' := #[.val (.int p0), .val (.int (0 : Int32)), .val (.int (1 : Int32)), .val (.int (0 : Int32)), .val (.int (0 : Int32)), .val (.ref b108), .val (.ref b112), .val (.ref b115), .val (.ref mu), .val (.int (1 : Int32)), .val (.ref b115), .unset, .unset]) rfl q) ?_
          refine Goes.by (g' := (mkF m 169 #[.val (.int p0), .val (.int (0 : Int32)), .val (.int (1 : Int32)), .val (.int (0 : Int32)), .val (.int (0 : Int32)), .val (.ref b108), .val (.ref b112), .val (.ref b115), .val (.ref mu), .val (.int (1 : Int32)), .val (.ref b115), .unset, .unset] [(.ref b108)])) (fun _ q => XS.aload X.here X.hx rfl (hb hby at_167) rfl rfl q) ?_
          refine Goes.by (g' := (mkF m 171 #[.val (.int p0), .val (.int (0 : Int32)), .val (.int (1 : Int32)), .val (.int (0 : Int32)), .val (.int (0 : Int32)), .val (.ref b108), .val (.ref b112), .val (.ref b115), .val (.ref mu), .val (.int (1 : Int32)), .val (.ref b115), .unset, .unset] [(.ref b115), (.ref b108)])) (fun _ q => XS.aload X.here X.hx rfl (hb hby at_169) rfl rfl q) ?_
          have X_o := X
          refine X.callV E_b108 (hw _ (List.mem_of_getElem? (i := 105) rfl)) (hw _ (List.mem_of_getElem? (i := 106) rfl)) (hw _ (List.mem_of_getElem? (i := 108) rfl)) (hw _ (List.mem_of_getElem? (i := 103) rfl)) rfl (hw _ (List.mem_of_getElem? (i := 107) rfl)) (hw _ (List.mem_of_getElem? (i := 2) rfl)) (hw _ (List.mem_of_getElem? (i := 109) rfl)) (by decide) pd_2932898788 (argsL := [(.ref b115)]) rfl (rm_setMutations l Z a0 hw n0 h117 X.n0le b108 b115 (.ref mu) ga_b108 E_b108 E_b115 F_b108_mutations (.ref a_FORCE) F_b108_durability (.int (0 : Int32)) F_b108_allowCreate) (by rw [hml]; rfl) rfl (by decide) (leB rfl) (hb hby at_171) (by decide) (by decide) (fun T h119 v X hQ => ?_)
          obtain ⟨rfl, K, F_b108_mutations, F_b108_durability, F_b108_allowCreate⟩ := hQ
          have O_ := O_.keep K (allS ga_b108 all0)
          have E_b108 := E_b108.keep K
          have E_mu := E_mu.keep K
          have E_b112 := E_b112.keep K
          have E_b115 := E_b115.keep K
          show Goes _ _ _ _ _ _ _ _ T (mkF m 174 #[.val (.int p0), .val (.int (0 : Int32)), .val (.int (1 : Int32)), .val (.int (0 : Int32)), .val (.int (0 : Int32)), .val (.ref b108), .val (.ref b112), .val (.ref b115), .val (.ref mu), .val (.int (1 : Int32)), .val (.ref b115), .unset, .unset] [])
          refine Goes.by (g' := (mkF m 176 #[.val (.int p0), .val (.int (0 : Int32)), .val (.int (1 : Int32)), .val (.int (0 : Int32)), .val (.int (0 : Int32)), .val (.ref b108), .val (.ref b112), .val (.ref b115), .val (.ref mu), .val (.int (1 : Int32)), .val (.ref b115), .unset, .unset] [(.ref b108)])) (fun _ q => XS.aload X.here X.hx rfl (hb hby at_174) rfl rfl q) ?_
          have X_o := X
          refine X.callV E_b108 (hw _ (List.mem_of_getElem? (i := 100) rfl)) (hw _ (List.mem_of_getElem? (i := 101) rfl)) (hw _ (List.mem_of_getElem? (i := 103) rfl)) (hw _ (List.mem_of_getElem? (i := 103) rfl)) rfl (hw _ (List.mem_of_getElem? (i := 102) rfl)) (hw _ (List.mem_of_getElem? (i := 2) rfl)) (hw _ (List.mem_of_getElem? (i := 104) rfl)) (by decide) pd_2544813166 (argsL := []) rfl (rm_getMutations l Z a0 hw n0 h119 X.n0le b108 b115  F_b108_mutations) (by rw [hml]; rfl) rfl (by decide) (leB rfl) (hb hby at_176) (by decide) (by decide) (fun T h120 v X hQ => ?_)
          obtain ⟨rfl, hh⟩ := hQ
          rw [hh] at X
          clear hh
          show Goes _ _ _ _ _ _ _ _ T (mkF m 179 #[.val (.int p0), .val (.int (0 : Int32)), .val (.int (1 : Int32)), .val (.int (0 : Int32)), .val (.int (0 : Int32)), .val (.ref b108), .val (.ref b112), .val (.ref b115), .val (.ref mu), .val (.int (1 : Int32)), .val (.ref b115), .unset, .unset] [(.ref b115)])
          refine Goes.by (g' := (mkF m 181 #[.val (.int p0), .val (.int (0 : Int32)), .val (.int (1 : Int32)), .val (.int (0 : Int32)), .val (.int (0 : Int32)), .val (.ref b108), .val (.ref b112), .val (.ref b115), .val (.ref mu), .val (.int (1 : Int32)), .val (.ref b115), .val (.ref b115), .unset] [])) (fun _ q => XS.astore X.here X.hx rfl (hb hby at_179) rfl rfl (l' := #[.val (.int p0), .val (.int (0 : Int32)), .val (.int (1 : Int32)), .val (.int (0 : Int32)), .val (.int (0 : Int32)), .val (.ref b108), .val (.ref b112), .val (.ref b115), .val (.ref mu), .val (.int (1 : Int32)), .val (.ref b115), .val (.ref b115), .unset]) rfl q) ?_
          refine Goes.by (g' := (mkF m 182 #[.val (.int p0), .val (.int (0 : Int32)), .val (.int (1 : Int32)), .val (.int (0 : Int32)), .val (.int (0 : Int32)), .val (.ref b108), .val (.ref b112), .val (.ref b115), .val (.ref mu), .val (.int (1 : Int32)), .val (.ref b115), .val (.ref b115), .unset] [(.int (1 : Int32))])) (fun _ q => XS.iloadN X.here X.hx rfl (hb hby at_181) rfl q) ?_
          refine Goes.by (g' := (mkF m 185 #[.val (.int p0), .val (.int (0 : Int32)), .val (.int (1 : Int32)), .val (.int (0 : Int32)), .val (.int (0 : Int32)), .val (.ref b108), .val (.ref b112), .val (.ref b115), .val (.ref mu), .val (.int (1 : Int32)), .val (.ref b115), .val (.ref b115), .unset] [])) (fun _ q => XS.ifNo X.here X.hx rfl (hb hby at_182) rfl ((if0 _ _).trans (feq (show ¬ (1 : Int32) = (0 : Int32) from (by decide))).1) q) ?_
          refine X.getS (Or.inl (hw _ (List.mem_of_getElem? (i := 141) rfl))) (host := "") Via.refl (S_FORCE.ext O_.2) (hb hby at_185) (fun T X => ?_)
          show Goes _ _ _ _ _ _ _ _ T (mkF m 188 #[.val (.int p0), .val (.int (0 : Int32)), .val (.int (1 : Int32)), .val (.int (0 : Int32)), .val (.int (0 : Int32)), .val (.ref b108), .val (.ref b112), .val (.ref b115), .val (.ref mu), .val (.int (1 : Int32)), .val (.ref b115), .val (.ref b115), .unset] [(.ref a_FORCE)])
          refine Goes.by (g' := (mkF m 194 #[.val (.int p0), .val (.int (0 : Int32)), .val (.int (1 : Int32)), .val (.int (0 : Int32)), .val (.int (0 : Int32)), .val (.ref b108), .val (.ref b112), .val (.ref b115), .val (.ref mu), .val (.int (1 : Int32)), .val (.ref b115), .val (.ref b115), .unset] [(.ref a_FORCE)])) (fun _ q => XS.goto X.here X.hx rfl (pc0 := 188) (pc' := 194) rfl (hb hby at_188) (by decide) (by decide) q) ?_
          refine Goes.by (g' := (mkF m 196 #[.val (.int p0), .val (.int (0 : Int32)), .val (.int (1 : Int32)), .val (.int (0 : Int32)), .val (.int (0 : Int32)), .val (.ref b108), .val (.ref b112), .val (.ref b115), .val (.ref mu), .val (.int (1 : Int32)), .val (.ref b115), .val (.ref b115), .val (.ref a_FORCE)] [])) (fun _ q => XS.astore X.here X.hx rfl (hb hby at_194) rfl rfl (l' := #[.val (.int p0), .val (.int (0 : Int32)), .val (.int (1 : Int32)), .val (.int (0 : Int32)), .val (.int (0 : Int32)), .val (.ref b108), .val (.ref b112), .val (.ref b115), .val (.ref mu), .val (.int (1 : Int32)), .val (.ref b115), .val (.ref b115), .val (.ref a_FORCE)]) rfl q) ?_
          refine Goes.by (g' := (mkF m 198 #[.val (.int p0), .val (.int (0 : Int32)), .val (.int (1 : Int32)), .val (.int (0 : Int32)), .val (.int (0 : Int32)), .val (.ref b108), .val (.ref b112), .val (.ref b115), .val (.ref mu), .val (.int (1 : Int32)), .val (.ref b115), .val (.ref b115), .val (.ref a_FORCE)] [(.int (1 : Int32))])) (fun _ q => XS.iload X.here X.hx rfl (hb hby at_196) rfl q) ?_
          refine Goes.by (g' := (mkF m 201 #[.val (.int p0), .val (.int (0 : Int32)), .val (.int (1 : Int32)), .val (.int (0 : Int32)), .val (.int (0 : Int32)), .val (.ref b108), .val (.ref b112), .val (.ref b115), .val (.ref mu), .val (.int (1 : Int32)), .val (.ref b115), .val (.ref b115), .val (.ref a_FORCE)] [])) (fun _ q => XS.ifNo X.here X.hx rfl (hb hby at_198) rfl ((if0 _ _).trans (feq (show ¬ (1 : Int32) = (0 : Int32) from (by decide))).1) q) ?_
          refine Goes.by (g' := (mkF m 203 #[.val (.int p0), .val (.int (0 : Int32)), .val (.int (1 : Int32)), .val (.int (0 : Int32)), .val (.int (0 : Int32)), .val (.ref b108), .val (.ref b112), .val (.ref b115), .val (.ref mu), .val (.int (1 : Int32)), .val (.ref b115), .val (.ref b115), .val (.ref a_FORCE)] [(.ref b115)])) (fun _ q => XS.aload X.here X.hx rfl (hb hby at_201) rfl rfl q) ?_
          refine Goes.by (g' := (mkF m 205 #[.val (.int p0), .val (.int (0 : Int32)), .val (.int (1 : Int32)), .val (.int (0 : Int32)), .val (.int (0 : Int32)), .val (.ref b108), .val (.ref b112), .val (.ref b115), .val (.ref mu), .val (.int (1 : Int32)), .val (.ref b115), .val (.ref b115), .val (.ref a_FORCE)] [(.ref b115), (.ref b115)])) (fun _ q => XS.aload X.here X.hx rfl (hb hby at_203) rfl rfl q) ?_
          refine X.acmp rfl rfl (cd := .ne) (x := (.ref b115)) (y := (.ref b115)) (same := true) (pc' := 208) (hb hby at_205) (decide_eq_true rfl) (by decide) (by decide) ?_
          show Goes _ _ _ _ _ _ _ _ T (mkF m 208 #[.val (.int p0), .val (.int (0 : Int32)), .val (.int (1 : Int32)), .val (.int (0 : Int32)), .val (.int (0 : Int32)), .val (.ref b108), .val (.ref b112), .val (.ref b115), .val (.ref mu), .val (.int (1 : Int32)), .val (.ref b115), .val (.ref b115), .val (.ref a_FORCE)] [])
          refine Goes.by (g' := (mkF m 210 #[.val (.int p0), .val (.int (0 : Int32)), .val (.int (1 : Int32)), .val (.int (0 : Int32)), .val (.int (0 : Int32)), .val (.ref b108), .val (.ref b112), .val (.ref b115), .val (.ref mu), .val (.int (1 : Int32)), .val (.ref b115), .val (.ref b115), .val (.ref a_FORCE)] [(.ref b108)])) (fun _ q => XS.aload X.here X.hx rfl (hb hby at_208) rfl rfl q) ?_
          have X_o := X
          refine X.callV E_b108 (hw _ (List.mem_of_getElem? (i := 124) rfl)) (hw _ (List.mem_of_getElem? (i := 125) rfl)) (hw _ (List.mem_of_getElem? (i := 127) rfl)) (hw _ (List.mem_of_getElem? (i := 103) rfl)) rfl (hw _ (List.mem_of_getElem? (i := 126) rfl)) (hw _ (List.mem_of_getElem? (i := 2) rfl)) (hw _ (List.mem_of_getElem? (i := 128) rfl)) (by decide) pd_193422000 (argsL := []) rfl (rm_getAllowCreate l Z a0 hw n0 h119 X.n0le b108 (0 : Int32) (by decide) F_b108_allowCreate) (by rw [hml]; rfl) rfl (by decide) (leB rfl) (hb hby at_210) (by decide) (by decide) (fun T h121 v X hQ => ?_)
          obtain ⟨rfl, hh⟩ := hQ
          rw [hh] at X
          clear hh
          show Goes _ _ _ _ _ _ _ _ T (mkF m 213 #[.val (.int p0), .val (.int (0 : Int32)), .val (.int (1 : Int32)), .val (.int (0 : Int32)), .val (.int (0 : Int32)), .val (.ref b108), .val (.ref b112), .val (.ref b115), .val (.ref mu), .val (.int (1 : Int32)), .val (.ref b115), .val (.ref b115), .val (.ref a_FORCE)] [(.int (0 : Int32))])
          refine Goes.by (g' := (mkF m 214 #[.val (.int p0), .val (.int (0 : Int32)), .val (.int (1 : Int32)), .val (.int (0 : Int32)), .val (.int (0 : Int32)), .val (.ref b108), .val (.ref b112), .val (.ref b115), .val (.ref mu), .val (.int (1 : Int32)), .val (.ref b115), .val (.ref b115), .val (.ref a_FORCE)] [(.int (0 : Int32)), (.int (0 : Int32))])) (fun _ q => XS.iloadN X.here X.hx rfl (hb hby at_213) rfl q) ?_
          refine Goes.by (g' := (mkF m 217 #[.val (.int p0), .val (.int (0 : Int32)), .val (.int (1 : Int32)), .val (.int (0 : Int32)), .val (.int (0 : Int32)), .val (.ref b108), .val (.ref b112), .val (.ref b115), .val (.ref mu), .val (.int (1 : Int32)), .val (.ref b115), .val (.ref b115), .val (.ref a_FORCE)] [])) (fun _ q => XS.icmpNo X.here X.hx rfl (hb hby at_214) rfl (teq (show (0 : Int32) = (0 : Int32) from (by decide))).2 q) ?_
          refine Goes.by (g' := (mkF m 219 #[.val (.int p0), .val (.int (0 : Int32)), .val (.int (1 : Int32)), .val (.int (0 : Int32)), .val (.int (0 : Int32)), .val (.ref b108), .val (.ref b112), .val (.ref b115), .val (.ref mu), .val (.int (1 : Int32)), .val (.ref b115), .val (.ref b115), .val (.ref a_FORCE)] [(.ref b108)])) (fun _ q => XS.aload X.here X.hx rfl (hb hby at_217) rfl rfl q) ?_
          have X_o := X
          refine X.callV E_b108 (hw _ (List.mem_of_getElem? (i := 131) rfl)) (hw _ (List.mem_of_getElem? (i := 132) rfl)) (hw _ (List.mem_of_getElem? (i := 134) rfl)) (hw _ (List.mem_of_getElem? (i := 103) rfl)) rfl (hw _ (List.mem_of_getElem? (i := 133) rfl)) (hw _ (List.mem_of_getElem? (i := 2) rfl)) (hw _ (List.mem_of_getElem? (i := 135) rfl)) (by decide) pd_2323304547 (argsL := []) rfl (rm_getDurability l Z a0 hw n0 h119 X.n0le b108 a_FORCE  F_b108_durability) (by rw [hml]; rfl) rfl (by decide) (leB rfl) (hb hby at_219) (by decide) (by decide) (fun T h122 v X hQ => ?_)
          obtain ⟨rfl, hh⟩ := hQ
          rw [hh] at X
          clear hh
          show Goes _ _ _ _ _ _ _ _ T (mkF m 222 #[.val (.int p0), .val (.int (0 : Int32)), .val (.int (1 : Int32)), .val (.int (0 : Int32)), .val (.int (0 : Int32)), .val (.ref b108), .val (.ref b112), .val (.ref b115), .val (.ref mu), .val (.int (1 : Int32)), .val (.ref b115), .val (.ref b115), .val (.ref a_FORCE)] [(.ref a_FORCE)])
          refine Goes.by (g' := (mkF m 224 #[.val (.int p0), .val (.int (0 : Int32)), .val (.int (1 : Int32)), .val (.int (0 : Int32)), .val (.int (0 : Int32)), .val (.ref b108), .val (.ref b112), .val (.ref b115), .val (.ref mu), .val (.int (1 : Int32)), .val (.ref b115), .val (.ref b115), .val (.ref a_FORCE)] [(.ref a_FORCE), (.ref a_FORCE)])) (fun _ q => XS.aload X.here X.hx rfl (hb hby at_222) rfl rfl q) ?_
          refine X.acmp rfl rfl (cd := .ne) (x := (.ref a_FORCE)) (y := (.ref a_FORCE)) (same := true) (pc' := 227) (hb hby at_224) (decide_eq_true rfl) (by decide) (by decide) ?_
          show Goes _ _ _ _ _ _ _ _ T (mkF m 227 #[.val (.int p0), .val (.int (0 : Int32)), .val (.int (1 : Int32)), .val (.int (0 : Int32)), .val (.int (0 : Int32)), .val (.ref b108), .val (.ref b112), .val (.ref b115), .val (.ref mu), .val (.int (1 : Int32)), .val (.ref b115), .val (.ref b115), .val (.ref a_FORCE)] [])
          refine Goes.by (g' := (mkF m 228 #[.val (.int p0), .val (.int (0 : Int32)), .val (.int (1 : Int32)), .val (.int (0 : Int32)), .val (.int (0 : Int32)), .val (.ref b108), .val (.ref b112), .val (.ref b115), .val (.ref mu), .val (.int (1 : Int32)), .val (.ref b115), .val (.ref b115), .val (.ref a_FORCE)] [(.int (1 : Int32))])) (fun _ q => XS.iconst X.here X.hx rfl (hb hby at_227) q) ?_
          refine Goes.by (g' := (mkF m 232 #[.val (.int p0), .val (.int (0 : Int32)), .val (.int (1 : Int32)), .val (.int (0 : Int32)), .val (.int (0 : Int32)), .val (.ref b108), .val (.ref b112), .val (.ref b115), .val (.ref mu), .val (.int (1 : Int32)), .val (.ref b115), .val (.ref b115), .val (.ref a_FORCE)] [(.int (1 : Int32))])) (fun _ q => XS.goto X.here X.hx rfl (pc0 := 228) (pc' := 232) rfl (hb hby at_228) (by decide) (by decide) q) ?_
          exact X.retZ hret (hb hby at_232) (by decide) (by decide) rfl
        · skip
          refine Goes.by (g' := (mkF m 43 #[.val (.int p0), .val (.int (0 : Int32)), .val (.int (1 : Int32)), .val (.int (0 : Int32)), .unset, .unset, .unset, .unset, .unset, .unset, .unset, .unset, .unset] [])) (fun _ q => XS.ifNo X.here X.hx rfl (hb hby at_40) rfl ((if0 _ _).trans (feq hB107).1) q) ?_
          refine Goes.by (g' := (mkF m 44 #[.val (.int p0), .val (.int (0 : Int32)), .val (.int (1 : Int32)), .val (.int (0 : Int32)), .unset, .unset, .unset, .unset, .unset, .unset, .unset, .unset, .unset] [(.int (1 : Int32))])) (fun _ q => XS.iconst X.here X.hx rfl (hb hby at_43) q) ?_
          refine Goes.by (g' := (mkF m 48 #[.val (.int p0), .val (.int (0 : Int32)), .val (.int (1 : Int32)), .val (.int (0 : Int32)), .unset, .unset, .unset, .unset, .unset, .unset, .unset, .unset, .unset] [(.int (1 : Int32))])) (fun _ q => XS.goto X.here X.hx rfl (pc0 := 44) (pc' := 48) rfl (hb hby at_44) (by decide) (by decide) q) ?_
          refine Goes.by (g' := (mkF m 50 #[.val (.int p0), .val (.int (0 : Int32)), .val (.int (1 : Int32)), .val (.int (0 : Int32)), .val (.int (1 : Int32)), .unset, .unset, .unset, .unset, .unset, .unset, .unset, .unset] [])) (fun _ q => XS.istore X.here X.hx rfl (hb hby at_48) rfl (l' := #[.val (.int p0), .val (.int (0 : Int32)), .val (.int (1 : Int32)), .val (.int (0 : Int32)), .val (.int (1 : Int32)), .unset, .unset, .unset, .unset, .unset, .unset, .unset, .unset]) rfl q) ?_
          refine X.newO (hw _ (List.mem_of_getElem? (i := 0) rfl)) (hw _ (List.mem_of_getElem? (i := 1) rfl)) (hw _ (List.mem_of_getElem? (i := 2) rfl)) (hb hby at_50) (by decide) (by decide) (fun T h124 b123 X g_b123 ga_b123 E E_b123 D_b123 => ?_)
          have O_ := O_.ext E
          have F_b123_mutations : Fld Z h124 b123 "com/example/hafiza/hafiza/StoreConfig" "mutations" "Lcom/example/hafiza/hafiza/Mutations;" .null := D_b123 (Or.inl (hw _ (List.mem_of_getElem? (i := 92) rfl))) (ty := (.object "com/example/hafiza/hafiza/Mutations")) (by decide)
          have F_b123_durability : Fld Z h124 b123 "com/example/hafiza/hafiza/StoreConfig" "durability" "Lcom/example/hafiza/hafiza/Durability;" .null := D_b123 (Or.inl (hw _ (List.mem_of_getElem? (i := 97) rfl))) (ty := (.object "com/example/hafiza/hafiza/Durability")) (by decide)
          have F_b123_allowCreate : Fld Z h124 b123 "com/example/hafiza/hafiza/StoreConfig" "allowCreate" "Z" (.int (0 : Int32)) := D_b123 (Or.inl (hw _ (List.mem_of_getElem? (i := 130) rfl))) (ty := .boolean) (by decide)
          show Goes _ _ _ _ _ _ _ _ T (mkF m 53 #[.val (.int p0), .val (.int (0 : Int32)), .val (.int (1 : Int32)), .val (.int (0 : Int32)), .val (.int (1 : Int32)), .unset, .unset, .unset, .unset, .unset, .unset, .unset, .unset] [(.ref b123)])
          refine Goes.by (g' := (mkF m 54 #[.val (.int p0), .val (.int (0 : Int32)), .val (.int (1 : Int32)), .val (.int (0 : Int32)), .val (.int (1 : Int32)), .unset, .unset, .unset, .unset, .unset, .unset, .unset, .unset] [(.ref b123), (.ref b123)])) (fun _ q => XS.dup X.here X.hx rfl (hb hby at_53) rfl rfl q) ?_
          have X_o := X
          refine X.callN rfl (hw _ (List.mem_of_getElem? (i := 3) rfl)) (hw _ (List.mem_of_getElem? (i := 4) rfl)) (hw _ (List.mem_of_getElem? (i := 2) rfl)) (hw _ (List.mem_of_getElem? (i := 5) rfl)) (by decide) pd_193421996 (argsL := []) rfl (rmSC l Z a0 hw n0 h124 X.n0le b123 ga_b123 E_b123 F_b123_mutations F_b123_durability F_b123_allowCreate a_WRITE S_WRITE O_) (by rw [hml]; rfl) rfl (by decide) (leB rfl) (hb hby at_54) (by decide) (by decide) (fun T h125 v X hQ => ?_)
          obtain ⟨rfl, K, mu, gz, E_mu, F_b123_mutations, F_b123_durability, F_b123_allowCreate⟩ := hQ
          have ga_mu : n0 ≤ mu := Nat.le_trans X_o.n0le gz
          have ne_b123_mu : b123 ≠ mu := Nat.ne_of_lt (Nat.lt_of_lt_of_le E_b123.lt gz)
          have O_ := O_.keep K (allS ga_b123 all0)
          have E_b123 := E_b123.keep K
          show Goes _ _ _ _ _ _ _ _ T (mkF m 57 #[.val (.int p0), .val (.int (0 : Int32)), .val (.int (1 : Int32)), .val (.int (0 : Int32)), .val (.int (1 : Int32)), .unset, .unset, .unset, .unset, .unset, .unset, .unset, .unset] [(.ref b123)])
          refine Goes.by (g' := (mkF m 59 #[.val (.int p0), .val (.int (0 : Int32)), .val (.int (1 : Int32)), .val (.int (0 : Int32)), .val (.int (1 : Int32)), .val (.ref b123), .unset, .unset, .unset, .unset, .unset, .unset, .unset] [])) (fun _ q => XS.astore X.here X.hx rfl (hb hby at_57) rfl rfl (l' := #[.val (.int p0), .val (.int (0 : Int32)), .val (.int (1 : Int32)), .val (.int (0 : Int32)), .val (.int (1 : Int32)), .val (.ref b123), .unset, .unset, .unset, .unset, .unset, .unset, .unset]) rfl q) ?_
          refine Goes.by (g' := (mkF m 60 #[.val (.int p0), .val (.int (0 : Int32)), .val (.int (1 : Int32)), .val (.int (0 : Int32)), .val (.int (1 : Int32)), .val (.ref b123), .unset, .unset, .unset, .unset, .unset, .unset, .unset] [(.int (0 : Int32))])) (fun _ q => XS.iloadN X.here X.hx rfl (hb hby at_59) rfl q) ?_
          refine Goes.by (g' := (mkF m 69 #[.val (.int p0), .val (.int (0 : Int32)), .val (.int (1 : Int32)), .val (.int (0 : Int32)), .val (.int (1 : Int32)), .val (.ref b123), .unset, .unset, .unset, .unset, .unset, .unset, .unset] [])) (fun _ q => XS.ifYes X.here X.hx rfl (pc0 := 60) (pc' := 69) rfl (hb hby at_60) rfl ((if0 _ _).trans (teq (show (0 : Int32) = (0 : Int32) from (by decide))).1) (by decide) (by decide) q) ?_
          refine Goes.by (g' := (mkF m 70 #[.val (.int p0), .val (.int (0 : Int32)), .val (.int (1 : Int32)), .val (.int (0 : Int32)), .val (.int (1 : Int32)), .val (.ref b123), .unset, .unset, .unset, .unset, .unset, .unset, .unset] [(.int (1 : Int32))])) (fun _ q => XS.iloadN X.here X.hx rfl (hb hby at_69) rfl q) ?_
          refine Goes.by (g' := (mkF m 73 #[.val (.int p0), .val (.int (0 : Int32)), .val (.int (1 : Int32)), .val (.int (0 : Int32)), .val (.int (1 : Int32)), .val (.ref b123), .unset, .unset, .unset, .unset, .unset, .unset, .unset] [])) (fun _ q => XS.ifNo X.here X.hx rfl (hb hby at_70) rfl ((if0 _ _).trans (feq (show ¬ (1 : Int32) = (0 : Int32) from (by decide))).1) q) ?_
          refine Goes.by (g' := (mkF m 75 #[.val (.int p0), .val (.int (0 : Int32)), .val (.int (1 : Int32)), .val (.int (0 : Int32)), .val (.int (1 : Int32)), .val (.ref b123), .unset, .unset, .unset, .unset, .unset, .unset, .unset] [(.ref b123)])) (fun _ q => XS.aload X.here X.hx rfl (hb hby at_73) rfl rfl q) ?_
          refine X.getS (Or.inl (hw _ (List.mem_of_getElem? (i := 141) rfl))) (host := "") Via.refl (S_FORCE.ext O_.2) (hb hby at_75) (fun T X => ?_)
          show Goes _ _ _ _ _ _ _ _ T (mkF m 78 #[.val (.int p0), .val (.int (0 : Int32)), .val (.int (1 : Int32)), .val (.int (0 : Int32)), .val (.int (1 : Int32)), .val (.ref b123), .unset, .unset, .unset, .unset, .unset, .unset, .unset] [(.ref a_FORCE), (.ref b123)])
          have X_o := X
          refine X.callV E_b123 (hw _ (List.mem_of_getElem? (i := 143) rfl)) (hw _ (List.mem_of_getElem? (i := 144) rfl)) (hw _ (List.mem_of_getElem? (i := 146) rfl)) (hw _ (List.mem_of_getElem? (i := 103) rfl)) rfl (hw _ (List.mem_of_getElem? (i := 145) rfl)) (hw _ (List.mem_of_getElem? (i := 2) rfl)) (hw _ (List.mem_of_getElem? (i := 147) rfl)) (by decide) pd_2427134969 (argsL := [(.ref a_FORCE)]) rfl (rm_setDurability l Z a0 hw n0 h125 X.n0le b123 a_FORCE (.ref a_WRITE) ga_b123 E_b123 (E_FORCE.ext O_.2) F_b123_durability (.ref mu) F_b123_mutations (.int (0 : Int32)) F_b123_allowCreate) (by rw [hml]; rfl) rfl (by decide) (leB rfl) (hb hby at_78) (by decide) (by decide) (fun T h126 v X hQ => ?_)
          obtain ⟨rfl, K, F_b123_durability, F_b123_mutations, F_b123_allowCreate⟩ := hQ
          have O_ := O_.keep K (allS ga_b123 all0)
          have E_b123 := E_b123.keep K
          have E_mu := E_mu.keep K
          show Goes _ _ _ _ _ _ _ _ T (mkF m 81 #[.val (.int p0), .val (.int (0 : Int32)), .val (.int (1 : Int32)), .val (.int (0 : Int32)), .val (.int (1 : Int32)), .val (.ref b123), .unset, .unset, .unset, .unset, .unset, .unset, .unset] [])
          refine X.newO (hw _ (List.mem_of_getElem? (i := 98) rfl)) (hw _ (List.mem_of_getElem? (i := 10) rfl)) (hw _ (List.mem_of_getElem? (i := 11) rfl)) (hb hby at_81) (by decide) (by decide) (fun T h128 b127 X g_b127 ga_b127 E E_b127 D_b127 => ?_)
          have ne_b123_b127 : b123 ≠ b127 := by rw [g_b127]; exact Nat.ne_of_lt E_b123.lt
          have ne_mu_b127 : mu ≠ b127 := by rw [g_b127]; exact Nat.ne_of_lt E_mu.lt
          have O_ := O_.ext E
          have E_b123 := E_b123.ext E
          have E_mu := E_mu.ext E
          have F_b123_durability := F_b123_durability.ext E
          have F_b123_mutations := F_b123_mutations.ext E
          have F_b123_allowCreate := F_b123_allowCreate.ext E
          have F_b127_renamers : Fld Z h128 b127 "com/example/hafiza/hafiza/Mutations" "renamers" "Ljava/util/Set;" .null := D_b127 (Or.inr (hw _ (List.mem_of_getElem? (i := 86) rfl))) (ty := (.object "java/util/Set")) (by decide)
          have F_b127_deleters : Fld Z h128 b127 "com/example/hafiza/hafiza/Mutations" "deleters" "Ljava/util/Set;" .null := D_b127 (Or.inr (hw _ (List.mem_of_getElem? (i := 88) rfl))) (ty := (.object "java/util/Set")) (by decide)
          have F_b127_converters : Fld Z h128 b127 "com/example/hafiza/hafiza/Mutations" "converters" "Ljava/util/Set;" .null := D_b127 (Or.inr (hw _ (List.mem_of_getElem? (i := 90) rfl))) (ty := (.object "java/util/Set")) (by decide)
          show Goes _ _ _ _ _ _ _ _ T (mkF m 84 #[.val (.int p0), .val (.int (0 : Int32)), .val (.int (1 : Int32)), .val (.int (0 : Int32)), .val (.int (1 : Int32)), .val (.ref b123), .unset, .unset, .unset, .unset, .unset, .unset, .unset] [(.ref b127)])
          refine Goes.by (g' := (mkF m 85 #[.val (.int p0), .val (.int (0 : Int32)), .val (.int (1 : Int32)), .val (.int (0 : Int32)), .val (.int (1 : Int32)), .val (.ref b123), .unset, .unset, .unset, .unset, .unset, .unset, .unset] [(.ref b127), (.ref b127)])) (fun _ q => XS.dup X.here X.hx rfl (hb hby at_84) rfl rfl q) ?_
          have X_o := X
          refine X.callN rfl (hw _ (List.mem_of_getElem? (i := 99) rfl)) (hw _ (List.mem_of_getElem? (i := 13) rfl)) (hw _ (List.mem_of_getElem? (i := 11) rfl)) (hw _ (List.mem_of_getElem? (i := 14) rfl)) (by decide) pd_193421996 (argsL := []) rfl (rmMU l Z a0 hw n0 h128 X.n0le b127 ga_b127 E_b127 F_b127_renamers F_b127_deleters F_b127_converters) (by rw [hml]; rfl) rfl (by decide) (leB rfl) (hb hby at_85) (by decide) (by decide) (fun T h129 v X hQ => ?_)
          obtain ⟨rfl, K⟩ := hQ
          have O_ := O_.keep K (allS ga_b127 all0)
          have E_b123 := E_b123.keep K
          have E_mu := E_mu.keep K
          have F_b123_durability := F_b123_durability.keep K (ninS ne_b123_b127 nin0)
          have F_b123_mutations := F_b123_mutations.keep K (ninS ne_b123_b127 nin0)
          have F_b123_allowCreate := F_b123_allowCreate.keep K (ninS ne_b123_b127 nin0)
          have E_b127 := E_b127.keep K
          show Goes _ _ _ _ _ _ _ _ T (mkF m 88 #[.val (.int p0), .val (.int (0 : Int32)), .val (.int (1 : Int32)), .val (.int (0 : Int32)), .val (.int (1 : Int32)), .val (.ref b123), .unset, .unset, .unset, .unset, .unset, .unset, .unset] [(.ref b127)])
          refine Goes.by (g' := (mkF m 90 #[.val (.int p0), .val (.int (0 : Int32)), .val (.int (1 : Int32)), .val (.int (0 : Int32)), .val (.int (1 : Int32)), .val (.ref b123), .val (.ref b127), .unset, .unset, .unset, .unset, .unset, .unset] [])) (fun _ q => XS.astore X.here X.hx rfl (hb hby at_88) rfl rfl (l' := #[.val (.int p0), .val (.int (0 : Int32)), .val (.int (1 : Int32)), .val (.int (0 : Int32)), .val (.int (1 : Int32)), .val (.ref b123), .val (.ref b127), .unset, .unset, .unset, .unset, .unset, .unset]) rfl q) ?_
          refine X.newO (hw _ (List.mem_of_getElem? (i := 98) rfl)) (hw _ (List.mem_of_getElem? (i := 10) rfl)) (hw _ (List.mem_of_getElem? (i := 11) rfl)) (hb hby at_90) (by decide) (by decide) (fun T h131 b130 X g_b130 ga_b130 E E_b130 D_b130 => ?_)
          have ne_b123_b130 : b123 ≠ b130 := by rw [g_b130]; exact Nat.ne_of_lt E_b123.lt
          have ne_mu_b130 : mu ≠ b130 := by rw [g_b130]; exact Nat.ne_of_lt E_mu.lt
          have ne_b127_b130 : b127 ≠ b130 := by rw [g_b130]; exact Nat.ne_of_lt E_b127.lt
          have O_ := O_.ext E
          have E_b123 := E_b123.ext E
          have E_mu := E_mu.ext E
          have F_b123_durability := F_b123_durability.ext E
          have F_b123_mutations := F_b123_mutations.ext E
          have F_b123_allowCreate := F_b123_allowCreate.ext E
          have E_b127 := E_b127.ext E
          have F_b130_renamers : Fld Z h131 b130 "com/example/hafiza/hafiza/Mutations" "renamers" "Ljava/util/Set;" .null := D_b130 (Or.inr (hw _ (List.mem_of_getElem? (i := 86) rfl))) (ty := (.object "java/util/Set")) (by decide)
          have F_b130_deleters : Fld Z h131 b130 "com/example/hafiza/hafiza/Mutations" "deleters" "Ljava/util/Set;" .null := D_b130 (Or.inr (hw _ (List.mem_of_getElem? (i := 88) rfl))) (ty := (.object "java/util/Set")) (by decide)
          have F_b130_converters : Fld Z h131 b130 "com/example/hafiza/hafiza/Mutations" "converters" "Ljava/util/Set;" .null := D_b130 (Or.inr (hw _ (List.mem_of_getElem? (i := 90) rfl))) (ty := (.object "java/util/Set")) (by decide)
          show Goes _ _ _ _ _ _ _ _ T (mkF m 93 #[.val (.int p0), .val (.int (0 : Int32)), .val (.int (1 : Int32)), .val (.int (0 : Int32)), .val (.int (1 : Int32)), .val (.ref b123), .val (.ref b127), .unset, .unset, .unset, .unset, .unset, .unset] [(.ref b130)])
          refine Goes.by (g' := (mkF m 94 #[.val (.int p0), .val (.int (0 : Int32)), .val (.int (1 : Int32)), .val (.int (0 : Int32)), .val (.int (1 : Int32)), .val (.ref b123), .val (.ref b127), .unset, .unset, .unset, .unset, .unset, .unset] [(.ref b130), (.ref b130)])) (fun _ q => XS.dup X.here X.hx rfl (hb hby at_93) rfl rfl q) ?_
          have X_o := X
          refine X.callN rfl (hw _ (List.mem_of_getElem? (i := 99) rfl)) (hw _ (List.mem_of_getElem? (i := 13) rfl)) (hw _ (List.mem_of_getElem? (i := 11) rfl)) (hw _ (List.mem_of_getElem? (i := 14) rfl)) (by decide) pd_193421996 (argsL := []) rfl (rmMU l Z a0 hw n0 h131 X.n0le b130 ga_b130 E_b130 F_b130_renamers F_b130_deleters F_b130_converters) (by rw [hml]; rfl) rfl (by decide) (leB rfl) (hb hby at_94) (by decide) (by decide) (fun T h132 v X hQ => ?_)
          obtain ⟨rfl, K⟩ := hQ
          have O_ := O_.keep K (allS ga_b130 all0)
          have E_b123 := E_b123.keep K
          have E_mu := E_mu.keep K
          have F_b123_durability := F_b123_durability.keep K (ninS ne_b123_b130 nin0)
          have F_b123_mutations := F_b123_mutations.keep K (ninS ne_b123_b130 nin0)
          have F_b123_allowCreate := F_b123_allowCreate.keep K (ninS ne_b123_b130 nin0)
          have E_b127 := E_b127.keep K
          have E_b130 := E_b130.keep K
          show Goes _ _ _ _ _ _ _ _ T (mkF m 97 #[.val (.int p0), .val (.int (0 : Int32)), .val (.int (1 : Int32)), .val (.int (0 : Int32)), .val (.int (1 : Int32)), .val (.ref b123), .val (.ref b127), .unset, .unset, .unset, .unset, .unset, .unset] [(.ref b130)])
          refine Goes.by (g' := (mkF m 99 #[.val (.int p0), .val (.int (0 : Int32)), .val (.int (1 : Int32)), .val (.int (0 : Int32)), .val (.int (1 : Int32)), .val (.ref b123), .val (.ref b127), .val (.ref b130), .unset, .unset, .unset, .unset, .unset] [])) (fun _ q => XS.astore X.here X.hx rfl (hb hby at_97) rfl rfl (l' := #[.val (.int p0), .val (.int (0 : Int32)), .val (.int (1 : Int32)), .val (.int (0 : Int32)), .val (.int (1 : Int32)), .val (.ref b123), .val (.ref b127), .val (.ref b130), .unset, .unset, .unset, .unset, .unset]) rfl q) ?_
          refine Goes.by (g' := (mkF m 101 #[.val (.int p0), .val (.int (0 : Int32)), .val (.int (1 : Int32)), .val (.int (0 : Int32)), .val (.int (1 : Int32)), .val (.ref b123), .val (.ref b127), .val (.ref b130), .unset, .unset, .unset, .unset, .unset] [(.ref b123)])) (fun _ q => XS.aload X.here X.hx rfl (hb hby at_99) rfl rfl q) ?_
          have X_o := X
          refine X.callV E_b123 (hw _ (List.mem_of_getElem? (i := 100) rfl)) (hw _ (List.mem_of_getElem? (i := 101) rfl)) (hw _ (List.mem_of_getElem? (i := 103) rfl)) (hw _ (List.mem_of_getElem? (i := 103) rfl)) rfl (hw _ (List.mem_of_getElem? (i := 102) rfl)) (hw _ (List.mem_of_getElem? (i := 2) rfl)) (hw _ (List.mem_of_getElem? (i := 104) rfl)) (by decide) pd_2544813166 (argsL := []) rfl (rm_getMutations l Z a0 hw n0 h132 X.n0le b123 mu  F_b123_mutations) (by rw [hml]; rfl) rfl (by decide) (leB rfl) (hb hby at_101) (by decide) (by decide) (fun T h133 v X hQ => ?_)
          obtain ⟨rfl, hh⟩ := hQ
          rw [hh] at X
          clear hh
          show Goes _ _ _ _ _ _ _ _ T (mkF m 104 #[.val (.int p0), .val (.int (0 : Int32)), .val (.int (1 : Int32)), .val (.int (0 : Int32)), .val (.int (1 : Int32)), .val (.ref b123), .val (.ref b127), .val (.ref b130), .unset, .unset, .unset, .unset, .unset] [(.ref mu)])
          refine Goes.by (g' := (mkF m 106 #[.val (.int p0), .val (.int (0 : Int32)), .val (.int (1 : Int32)), .val (.int (0 : Int32)), .val (.int (1 : Int32)), .val (.ref b123), .val (.ref b127), .val (.ref b130), .val (.ref mu), .unset, .unset, .unset, .unset] [])) (fun _ q => XS.astore X.here X.hx rfl (hb hby at_104) rfl rfl (l' := #[.val (.int p0), .val (.int (0 : Int32)), .val (.int (1 : Int32)), .val (.int (0 : Int32)), .val (.int (1 : Int32)), .val (.ref b123), .val (.ref b127), .val (.ref b130), .val (.ref mu), .unset, .unset, .unset, .unset]) rfl q) ?_
          refine Goes.by (g' := (mkF m 108 #[.val (.int p0), .val (.int (0 : Int32)), .val (.int (1 : Int32)), .val (.int (0 : Int32)), .val (.int (1 : Int32)), .val (.ref b123), .val (.ref b127), .val (.ref b130), .val (.ref mu), .unset, .unset, .unset, .unset] [(.ref mu)])) (fun _ q => XS.aload X.here X.hx rfl (hb hby at_106) rfl rfl q) ?_
          refine Goes.by (g' := (mkF m 111 #[.val (.int p0), .val (.int (0 : Int32)), .val (.int (1 : Int32)), .val (.int (0 : Int32)), .val (.int (1 : Int32)), .val (.ref b123), .val (.ref b127), .val (.ref b130), .val (.ref mu), .unset, .unset, .unset, .unset] [])) (fun _ q => XS.ifnullNo X.here X.hx rfl (hb hby at_108) rfl q) ?_
          refine Goes.by (g' := (mkF m 113 #[.val (.int p0), .val (.int (0 : Int32)), .val (.int (1 : Int32)), .val (.int (0 : Int32)), .val (.int (1 : Int32)), .val (.ref b123), .val (.ref b127), .val (.ref b130), .val (.ref mu), .unset, .unset, .unset, .unset] [(.ref mu)])) (fun _ q => XS.aload X.here X.hx rfl (hb hby at_111) rfl rfl q) ?_
          refine Goes.by (g' := (mkF m 115 #[.val (.int p0), .val (.int (0 : Int32)), .val (.int (1 : Int32)), .val (.int (0 : Int32)), .val (.int (1 : Int32)), .val (.ref b123), .val (.ref b127), .val (.ref b130), .val (.ref mu), .unset, .unset, .unset, .unset] [(.ref b127), (.ref mu)])) (fun _ q => XS.aload X.here X.hx rfl (hb hby at_113) rfl rfl q) ?_
          refine X.acmp rfl rfl (cd := .eq) (x := (.ref mu)) (y := (.ref b127)) (same := false) (pc' := 118) (hb hby at_115) (decide_eq_false fun q => ne_mu_b127 (Value.ref.inj q)) (by decide) (by decide) ?_
          show Goes _ _ _ _ _ _ _ _ T (mkF m 118 #[.val (.int p0), .val (.int (0 : Int32)), .val (.int (1 : Int32)), .val (.int (0 : Int32)), .val (.int (1 : Int32)), .val (.ref b123), .val (.ref b127), .val (.ref b130), .val (.ref mu), .unset, .unset, .unset, .unset] [])
          refine Goes.by (g' := (mkF m 120 #[.val (.int p0), .val (.int (0 : Int32)), .val (.int (1 : Int32)), .val (.int (0 : Int32)), .val (.int (1 : Int32)), .val (.ref b123), .val (.ref b127), .val (.ref b130), .val (.ref mu), .unset, .unset, .unset, .unset] [(.ref mu)])) (fun _ q => XS.aload X.here X.hx rfl (hb hby at_118) rfl rfl q) ?_
          refine Goes.by (g' := (mkF m 122 #[.val (.int p0), .val (.int (0 : Int32)), .val (.int (1 : Int32)), .val (.int (0 : Int32)), .val (.int (1 : Int32)), .val (.ref b123), .val (.ref b127), .val (.ref b130), .val (.ref mu), .unset, .unset, .unset, .unset] [(.ref b130), (.ref mu)])) (fun _ q => XS.aload X.here X.hx rfl (hb hby at_120) rfl rfl q) ?_
          refine X.acmp rfl rfl (cd := .eq) (x := (.ref mu)) (y := (.ref b130)) (same := false) (pc' := 125) (hb hby at_122) (decide_eq_false fun q => ne_mu_b130 (Value.ref.inj q)) (by decide) (by decide) ?_
          show Goes _ _ _ _ _ _ _ _ T (mkF m 125 #[.val (.int p0), .val (.int (0 : Int32)), .val (.int (1 : Int32)), .val (.int (0 : Int32)), .val (.int (1 : Int32)), .val (.ref b123), .val (.ref b127), .val (.ref b130), .val (.ref mu), .unset, .unset, .unset, .unset] [])
          refine Goes.by (g' := (mkF m 126 #[.val (.int p0), .val (.int (0 : Int32)), .val (.int (1 : Int32)), .val (.int (0 : Int32)), .val (.int (1 : Int32)), .val (.ref b123), .val (.ref b127), .val (.ref b130), .val (.ref mu), .unset, .unset, .unset, .unset] [(.int (1 : Int32))])) (fun _ q => XS.iconst X.here X.hx rfl (hb hby at_125) q) ?_
          refine Goes.by (g' := (mkF m 130 #[.val (.int p0), .val (.int (0 : Int32)), .val (.int (1 : Int32)), .val (.int (0 : Int32)), .val (.int (1 : Int32)), .val (.ref b123), .val (.ref b127), .val (.ref b130), .val (.ref mu), .unset, .unset, .unset, .unset] [(.int (1 : Int32))])) (fun _ q => XS.goto X.here X.hx rfl (pc0 := 126) (pc' := 130) rfl (hb hby at_126) (by decide) (by decide) q) ?_
          refine Goes.by (g' := (mkF m 132 #[.val (.int p0), .val (.int (0 : Int32)), .val (.int (1 : Int32)), .val (.int (0 : Int32)), .val (.int (1 : Int32)), .val (.ref b123), .val (.ref b127), .val (.ref b130), .val (.ref mu), .val (.int (1 : Int32)), .unset, .unset, .unset] [])) (fun _ q => XS.istore X.here X.hx rfl (hb hby at_130) rfl (l' := #[.val (.int p0), .val (.int (0 : Int32)), .val (.int (1 : Int32)), .val (.int (0 : Int32)), .val (.int (1 : Int32)), .val (.ref b123), .val (.ref b127), .val (.ref b130), .val (.ref mu), .val (.int (1 : Int32)), .unset, .unset, .unset]) rfl q) ?_
          refine Goes.by (g' := (mkF m 133 #[.val (.int p0), .val (.int (0 : Int32)), .val (.int (1 : Int32)), .val (.int (0 : Int32)), .val (.int (1 : Int32)), .val (.ref b123), .val (.ref b127), .val (.ref b130), .val (.ref mu), .val (.int (1 : Int32)), .unset, .unset, .unset] [(.int (0 : Int32))])) (fun _ q => XS.iloadN X.here X.hx rfl (hb hby at_132) rfl q) ?_
          refine Goes.by (g' := (mkF m 153 #[.val (.int p0), .val (.int (0 : Int32)), .val (.int (1 : Int32)), .val (.int (0 : Int32)), .val (.int (1 : Int32)), .val (.ref b123), .val (.ref b127), .val (.ref b130), .val (.ref mu), .val (.int (1 : Int32)), .unset, .unset, .unset] [])) (fun _ q => XS.ifYes X.here X.hx rfl (pc0 := 133) (pc' := 153) rfl (hb hby at_133) rfl ((if0 _ _).trans (teq (show (0 : Int32) = (0 : Int32) from (by decide))).1) (by decide) (by decide) q) ?_
          refine Goes.by (g' := (mkF m 155 #[.val (.int p0), .val (.int (0 : Int32)), .val (.int (1 : Int32)), .val (.int (0 : Int32)), .val (.int (1 : Int32)), .val (.ref b123), .val (.ref b127), .val (.ref b130), .val (.ref mu), .val (.int (1 : Int32)), .unset, .unset, .unset] [(.int (1 : Int32))])) (fun _ q => XS.iload X.here X.hx rfl (hb hby at_153) rfl q) ?_
          refine Goes.by (g' := (mkF m 158 #[.val (.int p0), .val (.int (0 : Int32)), .val (.int (1 : Int32)), .val (.int (0 : Int32)), .val (.int (1 : Int32)), .val (.ref b123), .val (.ref b127), .val (.ref b130), .val (.ref mu), .val (.int (1 : Int32)), .unset, .unset, .unset] [])) (fun _ q => XS.ifNo X.here X.hx rfl (hb hby at_155) rfl ((if0 _ _).trans (feq (show ¬ (1 : Int32) = (0 : Int32) from (by decide))).1) q) ?_
          refine Goes.by (g' := (mkF m 160 #[.val (.int p0), .val (.int (0 : Int32)), .val (.int (1 : Int32)), .val (.int (0 : Int32)), .val (.int (1 : Int32)), .val (.ref b123), .val (.ref b127), .val (.ref b130), .val (.ref mu), .val (.int (1 : Int32)), .unset, .unset, .unset] [(.ref b127)])) (fun _ q => XS.aload X.here X.hx rfl (hb hby at_158) rfl rfl q) ?_
          refine Goes.by (g' := (mkF m 165 #[.val (.int p0), .val (.int (0 : Int32)), .val (.int (1 : Int32)), .val (.int (0 : Int32)), .val (.int (1 : Int32)), .val (.ref b123), .val (.ref b127), .val (.ref b130), .val (.ref mu), .val (.int (1 : Int32)), .unset, .unset, .unset] [(.ref b127)])) (fun _ q => XS.goto X.here X.hx rfl (pc0 := 160) (pc' := 165) rfl (hb hby at_160) (by decide) (by decide) q) ?_
          refine Goes.by (g' := (mkF m 167 #[.val (.int p0), .val (.int (0 : Int32)), .val (.int (1 : Int32)), .val (.int (0 : Int32)), .val (.int (1 : Int32)), .val (.ref b123), .val (.ref b127), .val (.ref b130), .val (.ref mu), .val (.int (1 : Int32)), .val (.ref b127), .unset, .unset] [])) (fun _ q => XS.astore X.here X.hx rfl (hb hby at_165) rfl rfl (l' := #[.val (.int p0), .val (.int (0 : Int32)), .val (.int (1 : Int32)), .val (.int (0 : Int32)), .val (.int (1 : Int32)), .val (.ref b123), .val (.ref b127), .val (.ref b130), .val (.ref mu), .val (.int (1 : Int32)), .val (.ref b127), .unset, .unset]) rfl q) ?_
          refine Goes.by (g' := (mkF m 169 #[.val (.int p0), .val (.int (0 : Int32)), .val (.int (1 : Int32)), .val (.int (0 : Int32)), .val (.int (1 : Int32)), .val (.ref b123), .val (.ref b127), .val (.ref b130), .val (.ref mu), .val (.int (1 : Int32)), .val (.ref b127), .unset, .unset] [(.ref b123)])) (fun _ q => XS.aload X.here X.hx rfl (hb hby at_167) rfl rfl q) ?_
          refine Goes.by (g' := (mkF m 171 #[.val (.int p0), .val (.int (0 : Int32)), .val (.int (1 : Int32)), .val (.int (0 : Int32)), .val (.int (1 : Int32)), .val (.ref b123), .val (.ref b127), .val (.ref b130), .val (.ref mu), .val (.int (1 : Int32)), .val (.ref b127), .unset, .unset] [(.ref b127), (.ref b123)])) (fun _ q => XS.aload X.here X.hx rfl (hb hby at_169) rfl rfl q) ?_
          have X_o := X
          refine X.callV E_b123 (hw _ (List.mem_of_getElem? (i := 105) rfl)) (hw _ (List.mem_of_getElem? (i := 106) rfl)) (hw _ (List.mem_of_getElem? (i := 108) rfl)) (hw _ (List.mem_of_getElem? (i := 103) rfl)) rfl (hw _ (List.mem_of_getElem? (i := 107) rfl)) (hw _ (List.mem_of_getElem? (i := 2) rfl)) (hw _ (List.mem_of_getElem? (i := 109) rfl)) (by decide) pd_2932898788 (argsL := [(.ref b127)]) rfl (rm_setMutations l Z a0 hw n0 h132 X.n0le b123 b127 (.ref mu) ga_b123 E_b123 E_b127 F_b123_mutations (.ref a_FORCE) F_b123_durability (.int (0 : Int32)) F_b123_allowCreate) (by rw [hml]; rfl) rfl (by decide) (leB rfl) (hb hby at_171) (by decide) (by decide) (fun T h134 v X hQ => ?_)
          obtain ⟨rfl, K, F_b123_mutations, F_b123_durability, F_b123_allowCreate⟩ := hQ
          have O_ := O_.keep K (allS ga_b123 all0)
          have E_b123 := E_b123.keep K
          have E_mu := E_mu.keep K
          have E_b127 := E_b127.keep K
          have E_b130 := E_b130.keep K
          show Goes _ _ _ _ _ _ _ _ T (mkF m 174 #[.val (.int p0), .val (.int (0 : Int32)), .val (.int (1 : Int32)), .val (.int (0 : Int32)), .val (.int (1 : Int32)), .val (.ref b123), .val (.ref b127), .val (.ref b130), .val (.ref mu), .val (.int (1 : Int32)), .val (.ref b127), .unset, .unset] [])
          refine Goes.by (g' := (mkF m 176 #[.val (.int p0), .val (.int (0 : Int32)), .val (.int (1 : Int32)), .val (.int (0 : Int32)), .val (.int (1 : Int32)), .val (.ref b123), .val (.ref b127), .val (.ref b130), .val (.ref mu), .val (.int (1 : Int32)), .val (.ref b127), .unset, .unset] [(.ref b123)])) (fun _ q => XS.aload X.here X.hx rfl (hb hby at_174) rfl rfl q) ?_
          have X_o := X
          refine X.callV E_b123 (hw _ (List.mem_of_getElem? (i := 100) rfl)) (hw _ (List.mem_of_getElem? (i := 101) rfl)) (hw _ (List.mem_of_getElem? (i := 103) rfl)) (hw _ (List.mem_of_getElem? (i := 103) rfl)) rfl (hw _ (List.mem_of_getElem? (i := 102) rfl)) (hw _ (List.mem_of_getElem? (i := 2) rfl)) (hw _ (List.mem_of_getElem? (i := 104) rfl)) (by decide) pd_2544813166 (argsL := []) rfl (rm_getMutations l Z a0 hw n0 h134 X.n0le b123 b127  F_b123_mutations) (by rw [hml]; rfl) rfl (by decide) (leB rfl) (hb hby at_176) (by decide) (by decide) (fun T h135 v X hQ => ?_)
          obtain ⟨rfl, hh⟩ := hQ
          rw [hh] at X
          clear hh
          show Goes _ _ _ _ _ _ _ _ T (mkF m 179 #[.val (.int p0), .val (.int (0 : Int32)), .val (.int (1 : Int32)), .val (.int (0 : Int32)), .val (.int (1 : Int32)), .val (.ref b123), .val (.ref b127), .val (.ref b130), .val (.ref mu), .val (.int (1 : Int32)), .val (.ref b127), .unset, .unset] [(.ref b127)])
          refine Goes.by (g' := (mkF m 181 #[.val (.int p0), .val (.int (0 : Int32)), .val (.int (1 : Int32)), .val (.int (0 : Int32)), .val (.int (1 : Int32)), .val (.ref b123), .val (.ref b127), .val (.ref b130), .val (.ref mu), .val (.int (1 : Int32)), .val (.ref b127), .val (.ref b127), .unset] [])) (fun _ q => XS.astore X.here X.hx rfl (hb hby at_179) rfl rfl (l' := #[.val (.int p0), .val (.int (0 : Int32)), .val (.int (1 : Int32)), .val (.int (0 : Int32)), .val (.int (1 : Int32)), .val (.ref b123), .val (.ref b127), .val (.ref b130), .val (.ref mu), .val (.int (1 : Int32)), .val (.ref b127), .val (.ref b127), .unset]) rfl q) ?_
          refine Goes.by (g' := (mkF m 182 #[.val (.int p0), .val (.int (0 : Int32)), .val (.int (1 : Int32)), .val (.int (0 : Int32)), .val (.int (1 : Int32)), .val (.ref b123), .val (.ref b127), .val (.ref b130), .val (.ref mu), .val (.int (1 : Int32)), .val (.ref b127), .val (.ref b127), .unset] [(.int (1 : Int32))])) (fun _ q => XS.iloadN X.here X.hx rfl (hb hby at_181) rfl q) ?_
          refine Goes.by (g' := (mkF m 185 #[.val (.int p0), .val (.int (0 : Int32)), .val (.int (1 : Int32)), .val (.int (0 : Int32)), .val (.int (1 : Int32)), .val (.ref b123), .val (.ref b127), .val (.ref b130), .val (.ref mu), .val (.int (1 : Int32)), .val (.ref b127), .val (.ref b127), .unset] [])) (fun _ q => XS.ifNo X.here X.hx rfl (hb hby at_182) rfl ((if0 _ _).trans (feq (show ¬ (1 : Int32) = (0 : Int32) from (by decide))).1) q) ?_
          refine X.getS (Or.inl (hw _ (List.mem_of_getElem? (i := 141) rfl))) (host := "") Via.refl (S_FORCE.ext O_.2) (hb hby at_185) (fun T X => ?_)
          show Goes _ _ _ _ _ _ _ _ T (mkF m 188 #[.val (.int p0), .val (.int (0 : Int32)), .val (.int (1 : Int32)), .val (.int (0 : Int32)), .val (.int (1 : Int32)), .val (.ref b123), .val (.ref b127), .val (.ref b130), .val (.ref mu), .val (.int (1 : Int32)), .val (.ref b127), .val (.ref b127), .unset] [(.ref a_FORCE)])
          refine Goes.by (g' := (mkF m 194 #[.val (.int p0), .val (.int (0 : Int32)), .val (.int (1 : Int32)), .val (.int (0 : Int32)), .val (.int (1 : Int32)), .val (.ref b123), .val (.ref b127), .val (.ref b130), .val (.ref mu), .val (.int (1 : Int32)), .val (.ref b127), .val (.ref b127), .unset] [(.ref a_FORCE)])) (fun _ q => XS.goto X.here X.hx rfl (pc0 := 188) (pc' := 194) rfl (hb hby at_188) (by decide) (by decide) q) ?_
          refine Goes.by (g' := (mkF m 196 #[.val (.int p0), .val (.int (0 : Int32)), .val (.int (1 : Int32)), .val (.int (0 : Int32)), .val (.int (1 : Int32)), .val (.ref b123), .val (.ref b127), .val (.ref b130), .val (.ref mu), .val (.int (1 : Int32)), .val (.ref b127), .val (.ref b127), .val (.ref a_FORCE)] [])) (fun _ q => XS.astore X.here X.hx rfl (hb hby at_194) rfl rfl (l' := #[.val (.int p0), .val (.int (0 : Int32)), .val (.int (1 : Int32)), .val (.int (0 : Int32)), .val (.int (1 : Int32)), .val (.ref b123), .val (.ref b127), .val (.ref b130), .val (.ref mu), .val (.int (1 : Int32)), .val (.ref b127), .val (.ref b127), .val (.ref a_FORCE)]) rfl q) ?_
          refine Goes.by (g' := (mkF m 198 #[.val (.int p0), .val (.int (0 : Int32)), .val (.int (1 : Int32)), .val (.int (0 : Int32)), .val (.int (1 : Int32)), .val (.ref b123), .val (.ref b127), .val (.ref b130), .val (.ref mu), .val (.int (1 : Int32)), .val (.ref b127), .val (.ref b127), .val (.ref a_FORCE)] [(.int (1 : Int32))])) (fun _ q => XS.iload X.here X.hx rfl (hb hby at_196) rfl q) ?_
          refine Goes.by (g' := (mkF m 201 #[.val (.int p0), .val (.int (0 : Int32)), .val (.int (1 : Int32)), .val (.int (0 : Int32)), .val (.int (1 : Int32)), .val (.ref b123), .val (.ref b127), .val (.ref b130), .val (.ref mu), .val (.int (1 : Int32)), .val (.ref b127), .val (.ref b127), .val (.ref a_FORCE)] [])) (fun _ q => XS.ifNo X.here X.hx rfl (hb hby at_198) rfl ((if0 _ _).trans (feq (show ¬ (1 : Int32) = (0 : Int32) from (by decide))).1) q) ?_
          refine Goes.by (g' := (mkF m 203 #[.val (.int p0), .val (.int (0 : Int32)), .val (.int (1 : Int32)), .val (.int (0 : Int32)), .val (.int (1 : Int32)), .val (.ref b123), .val (.ref b127), .val (.ref b130), .val (.ref mu), .val (.int (1 : Int32)), .val (.ref b127), .val (.ref b127), .val (.ref a_FORCE)] [(.ref b127)])) (fun _ q => XS.aload X.here X.hx rfl (hb hby at_201) rfl rfl q) ?_
          refine Goes.by (g' := (mkF m 205 #[.val (.int p0), .val (.int (0 : Int32)), .val (.int (1 : Int32)), .val (.int (0 : Int32)), .val (.int (1 : Int32)), .val (.ref b123), .val (.ref b127), .val (.ref b130), .val (.ref mu), .val (.int (1 : Int32)), .val (.ref b127), .val (.ref b127), .val (.ref a_FORCE)] [(.ref b127), (.ref b127)])) (fun _ q => XS.aload X.here X.hx rfl (hb hby at_203) rfl rfl q) ?_
          refine X.acmp rfl rfl (cd := .ne) (x := (.ref b127)) (y := (.ref b127)) (same := true) (pc' := 208) (hb hby at_205) (decide_eq_true rfl) (by decide) (by decide) ?_
          show Goes _ _ _ _ _ _ _ _ T (mkF m 208 #[.val (.int p0), .val (.int (0 : Int32)), .val (.int (1 : Int32)), .val (.int (0 : Int32)), .val (.int (1 : Int32)), .val (.ref b123), .val (.ref b127), .val (.ref b130), .val (.ref mu), .val (.int (1 : Int32)), .val (.ref b127), .val (.ref b127), .val (.ref a_FORCE)] [])
          refine Goes.by (g' := (mkF m 210 #[.val (.int p0), .val (.int (0 : Int32)), .val (.int (1 : Int32)), .val (.int (0 : Int32)), .val (.int (1 : Int32)), .val (.ref b123), .val (.ref b127), .val (.ref b130), .val (.ref mu), .val (.int (1 : Int32)), .val (.ref b127), .val (.ref b127), .val (.ref a_FORCE)] [(.ref b123)])) (fun _ q => XS.aload X.here X.hx rfl (hb hby at_208) rfl rfl q) ?_
          have X_o := X
          refine X.callV E_b123 (hw _ (List.mem_of_getElem? (i := 124) rfl)) (hw _ (List.mem_of_getElem? (i := 125) rfl)) (hw _ (List.mem_of_getElem? (i := 127) rfl)) (hw _ (List.mem_of_getElem? (i := 103) rfl)) rfl (hw _ (List.mem_of_getElem? (i := 126) rfl)) (hw _ (List.mem_of_getElem? (i := 2) rfl)) (hw _ (List.mem_of_getElem? (i := 128) rfl)) (by decide) pd_193422000 (argsL := []) rfl (rm_getAllowCreate l Z a0 hw n0 h134 X.n0le b123 (0 : Int32) (by decide) F_b123_allowCreate) (by rw [hml]; rfl) rfl (by decide) (leB rfl) (hb hby at_210) (by decide) (by decide) (fun T h136 v X hQ => ?_)
          obtain ⟨rfl, hh⟩ := hQ
          rw [hh] at X
          clear hh
          show Goes _ _ _ _ _ _ _ _ T (mkF m 213 #[.val (.int p0), .val (.int (0 : Int32)), .val (.int (1 : Int32)), .val (.int (0 : Int32)), .val (.int (1 : Int32)), .val (.ref b123), .val (.ref b127), .val (.ref b130), .val (.ref mu), .val (.int (1 : Int32)), .val (.ref b127), .val (.ref b127), .val (.ref a_FORCE)] [(.int (0 : Int32))])
          refine Goes.by (g' := (mkF m 214 #[.val (.int p0), .val (.int (0 : Int32)), .val (.int (1 : Int32)), .val (.int (0 : Int32)), .val (.int (1 : Int32)), .val (.ref b123), .val (.ref b127), .val (.ref b130), .val (.ref mu), .val (.int (1 : Int32)), .val (.ref b127), .val (.ref b127), .val (.ref a_FORCE)] [(.int (0 : Int32)), (.int (0 : Int32))])) (fun _ q => XS.iloadN X.here X.hx rfl (hb hby at_213) rfl q) ?_
          refine Goes.by (g' := (mkF m 217 #[.val (.int p0), .val (.int (0 : Int32)), .val (.int (1 : Int32)), .val (.int (0 : Int32)), .val (.int (1 : Int32)), .val (.ref b123), .val (.ref b127), .val (.ref b130), .val (.ref mu), .val (.int (1 : Int32)), .val (.ref b127), .val (.ref b127), .val (.ref a_FORCE)] [])) (fun _ q => XS.icmpNo X.here X.hx rfl (hb hby at_214) rfl (teq (show (0 : Int32) = (0 : Int32) from (by decide))).2 q) ?_
          refine Goes.by (g' := (mkF m 219 #[.val (.int p0), .val (.int (0 : Int32)), .val (.int (1 : Int32)), .val (.int (0 : Int32)), .val (.int (1 : Int32)), .val (.ref b123), .val (.ref b127), .val (.ref b130), .val (.ref mu), .val (.int (1 : Int32)), .val (.ref b127), .val (.ref b127), .val (.ref a_FORCE)] [(.ref b123)])) (fun _ q => XS.aload X.here X.hx rfl (hb hby at_217) rfl rfl q) ?_
          have X_o := X
          refine X.callV E_b123 (hw _ (List.mem_of_getElem? (i := 131) rfl)) (hw _ (List.mem_of_getElem? (i := 132) rfl)) (hw _ (List.mem_of_getElem? (i := 134) rfl)) (hw _ (List.mem_of_getElem? (i := 103) rfl)) rfl (hw _ (List.mem_of_getElem? (i := 133) rfl)) (hw _ (List.mem_of_getElem? (i := 2) rfl)) (hw _ (List.mem_of_getElem? (i := 135) rfl)) (by decide) pd_2323304547 (argsL := []) rfl (rm_getDurability l Z a0 hw n0 h134 X.n0le b123 a_FORCE  F_b123_durability) (by rw [hml]; rfl) rfl (by decide) (leB rfl) (hb hby at_219) (by decide) (by decide) (fun T h137 v X hQ => ?_)
          obtain ⟨rfl, hh⟩ := hQ
          rw [hh] at X
          clear hh
          show Goes _ _ _ _ _ _ _ _ T (mkF m 222 #[.val (.int p0), .val (.int (0 : Int32)), .val (.int (1 : Int32)), .val (.int (0 : Int32)), .val (.int (1 : Int32)), .val (.ref b123), .val (.ref b127), .val (.ref b130), .val (.ref mu), .val (.int (1 : Int32)), .val (.ref b127), .val (.ref b127), .val (.ref a_FORCE)] [(.ref a_FORCE)])
          refine Goes.by (g' := (mkF m 224 #[.val (.int p0), .val (.int (0 : Int32)), .val (.int (1 : Int32)), .val (.int (0 : Int32)), .val (.int (1 : Int32)), .val (.ref b123), .val (.ref b127), .val (.ref b130), .val (.ref mu), .val (.int (1 : Int32)), .val (.ref b127), .val (.ref b127), .val (.ref a_FORCE)] [(.ref a_FORCE), (.ref a_FORCE)])) (fun _ q => XS.aload X.here X.hx rfl (hb hby at_222) rfl rfl q) ?_
          refine X.acmp rfl rfl (cd := .ne) (x := (.ref a_FORCE)) (y := (.ref a_FORCE)) (same := true) (pc' := 227) (hb hby at_224) (decide_eq_true rfl) (by decide) (by decide) ?_
          show Goes _ _ _ _ _ _ _ _ T (mkF m 227 #[.val (.int p0), .val (.int (0 : Int32)), .val (.int (1 : Int32)), .val (.int (0 : Int32)), .val (.int (1 : Int32)), .val (.ref b123), .val (.ref b127), .val (.ref b130), .val (.ref mu), .val (.int (1 : Int32)), .val (.ref b127), .val (.ref b127), .val (.ref a_FORCE)] [])
          refine Goes.by (g' := (mkF m 228 #[.val (.int p0), .val (.int (0 : Int32)), .val (.int (1 : Int32)), .val (.int (0 : Int32)), .val (.int (1 : Int32)), .val (.ref b123), .val (.ref b127), .val (.ref b130), .val (.ref mu), .val (.int (1 : Int32)), .val (.ref b127), .val (.ref b127), .val (.ref a_FORCE)] [(.int (1 : Int32))])) (fun _ q => XS.iconst X.here X.hx rfl (hb hby at_227) q) ?_
          refine Goes.by (g' := (mkF m 232 #[.val (.int p0), .val (.int (0 : Int32)), .val (.int (1 : Int32)), .val (.int (0 : Int32)), .val (.int (1 : Int32)), .val (.ref b123), .val (.ref b127), .val (.ref b130), .val (.ref mu), .val (.int (1 : Int32)), .val (.ref b127), .val (.ref b127), .val (.ref a_FORCE)] [(.int (1 : Int32))])) (fun _ q => XS.goto X.here X.hx rfl (pc0 := 228) (pc' := 232) rfl (hb hby at_228) (by decide) (by decide) q) ?_
          exact X.retZ hret (hb hby at_232) (by decide) (by decide) rfl
      · skip
        refine Goes.by (g' := (mkF m 30 #[.val (.int p0), .val (.int (0 : Int32)), .val (.int (1 : Int32)), .unset, .unset, .unset, .unset, .unset, .unset, .unset, .unset, .unset, .unset] [])) (fun _ q => XS.ifNo X.here X.hx rfl (hb hby at_27) rfl ((if0 _ _).trans (feq hB106).1) q) ?_
        refine Goes.by (g' := (mkF m 31 #[.val (.int p0), .val (.int (0 : Int32)), .val (.int (1 : Int32)), .unset, .unset, .unset, .unset, .unset, .unset, .unset, .unset, .unset, .unset] [(.int (1 : Int32))])) (fun _ q => XS.iconst X.here X.hx rfl (hb hby at_30) q) ?_
        refine Goes.by (g' := (mkF m 35 #[.val (.int p0), .val (.int (0 : Int32)), .val (.int (1 : Int32)), .unset, .unset, .unset, .unset, .unset, .unset, .unset, .unset, .unset, .unset] [(.int (1 : Int32))])) (fun _ q => XS.goto X.here X.hx rfl (pc0 := 31) (pc' := 35) rfl (hb hby at_31) (by decide) (by decide) q) ?_
        refine Goes.by (g' := (mkF m 36 #[.val (.int p0), .val (.int (0 : Int32)), .val (.int (1 : Int32)), .val (.int (1 : Int32)), .unset, .unset, .unset, .unset, .unset, .unset, .unset, .unset, .unset] [])) (fun _ q => XS.istoreN X.here X.hx rfl (hb hby at_35) rfl (l' := #[.val (.int p0), .val (.int (0 : Int32)), .val (.int (1 : Int32)), .val (.int (1 : Int32)), .unset, .unset, .unset, .unset, .unset, .unset, .unset, .unset, .unset]) rfl q) ?_
        refine Goes.by (g' := (mkF m 37 #[.val (.int p0), .val (.int (0 : Int32)), .val (.int (1 : Int32)), .val (.int (1 : Int32)), .unset, .unset, .unset, .unset, .unset, .unset, .unset, .unset, .unset] [(.int p0)])) (fun _ q => XS.iloadN X.here X.hx rfl (hb hby at_36) rfl q) ?_
        refine Goes.by (g' := (mkF m 39 #[.val (.int p0), .val (.int (0 : Int32)), .val (.int (1 : Int32)), .val (.int (1 : Int32)), .unset, .unset, .unset, .unset, .unset, .unset, .unset, .unset, .unset] [(.int (8 : Int32)), (.int p0)])) (fun _ q => XS.bipush X.here X.hx rfl (hb hby at_37) q) ?_
        refine Goes.by (g' := (mkF m 40 #[.val (.int p0), .val (.int (0 : Int32)), .val (.int (1 : Int32)), .val (.int (1 : Int32)), .unset, .unset, .unset, .unset, .unset, .unset, .unset, .unset, .unset] [(.int (p0 &&& (8 : Int32)))])) (fun _ q => XS.iand X.here X.hx rfl (hb hby at_39) rfl q) ?_
        by_cases hB138 : (p0 &&& (8 : Int32)) = (0 : Int32)
        · skip
          refine Goes.by (g' := (mkF m 47 #[.val (.int p0), .val (.int (0 : Int32)), .val (.int (1 : Int32)), .val (.int (1 : Int32)), .unset, .unset, .unset, .unset, .unset, .unset, .unset, .unset, .unset] [])) (fun _ q => XS.ifYes X.here X.hx rfl (pc0 := 40) (pc' := 47) rfl (hb hby at_40) rfl ((if0 _ _).trans (teq hB138).1) (by decide) (by decide) q) ?_
          refine Goes.by (g' := (mkF m 48 #[.val (.int p0), .val (.int (0 : Int32)), .val (.int (1 : Int32)), .val (.int (1 : Int32)), .unset, .unset, .unset, .unset, .unset, .unset, .unset, .unset, .unset] [(.int (0 : Int32))])) (fun _ q => XS.iconst X.here X.hx rfl (hb hby at_47) q) ?_
          refine Goes.by (g' := (mkF m 50 #[.val (.int p0), .val (.int (0 : Int32)), .val (.int (1 : Int32)), .val (.int (1 : Int32)), .val (.int (0 : Int32)), .unset, .unset, .unset, .unset, .unset, .unset, .unset, .unset] [])) (fun _ q => XS.istore X.here X.hx rfl (hb hby at_48) rfl (l' := #[.val (.int p0), .val (.int (0 : Int32)), .val (.int (1 : Int32)), .val (.int (1 : Int32)), .val (.int (0 : Int32)), .unset, .unset, .unset, .unset, .unset, .unset, .unset, .unset]) rfl q) ?_
          refine X.newO (hw _ (List.mem_of_getElem? (i := 0) rfl)) (hw _ (List.mem_of_getElem? (i := 1) rfl)) (hw _ (List.mem_of_getElem? (i := 2) rfl)) (hb hby at_50) (by decide) (by decide) (fun T h140 b139 X g_b139 ga_b139 E E_b139 D_b139 => ?_)
          have O_ := O_.ext E
          have F_b139_mutations : Fld Z h140 b139 "com/example/hafiza/hafiza/StoreConfig" "mutations" "Lcom/example/hafiza/hafiza/Mutations;" .null := D_b139 (Or.inl (hw _ (List.mem_of_getElem? (i := 92) rfl))) (ty := (.object "com/example/hafiza/hafiza/Mutations")) (by decide)
          have F_b139_durability : Fld Z h140 b139 "com/example/hafiza/hafiza/StoreConfig" "durability" "Lcom/example/hafiza/hafiza/Durability;" .null := D_b139 (Or.inl (hw _ (List.mem_of_getElem? (i := 97) rfl))) (ty := (.object "com/example/hafiza/hafiza/Durability")) (by decide)
          have F_b139_allowCreate : Fld Z h140 b139 "com/example/hafiza/hafiza/StoreConfig" "allowCreate" "Z" (.int (0 : Int32)) := D_b139 (Or.inl (hw _ (List.mem_of_getElem? (i := 130) rfl))) (ty := .boolean) (by decide)
          show Goes _ _ _ _ _ _ _ _ T (mkF m 53 #[.val (.int p0), .val (.int (0 : Int32)), .val (.int (1 : Int32)), .val (.int (1 : Int32)), .val (.int (0 : Int32)), .unset, .unset, .unset, .unset, .unset, .unset, .unset, .unset] [(.ref b139)])
          refine Goes.by (g' := (mkF m 54 #[.val (.int p0), .val (.int (0 : Int32)), .val (.int (1 : Int32)), .val (.int (1 : Int32)), .val (.int (0 : Int32)), .unset, .unset, .unset, .unset, .unset, .unset, .unset, .unset] [(.ref b139), (.ref b139)])) (fun _ q => XS.dup X.here X.hx rfl (hb hby at_53) rfl rfl q) ?_
          have X_o := X
          refine X.callN rfl (hw _ (List.mem_of_getElem? (i := 3) rfl)) (hw _ (List.mem_of_getElem? (i := 4) rfl)) (hw _ (List.mem_of_getElem? (i := 2) rfl)) (hw _ (List.mem_of_getElem? (i := 5) rfl)) (by decide) pd_193421996 (argsL := []) rfl (rmSC l Z a0 hw n0 h140 X.n0le b139 ga_b139 E_b139 F_b139_mutations F_b139_durability F_b139_allowCreate a_WRITE S_WRITE O_) (by rw [hml]; rfl) rfl (by decide) (leB rfl) (hb hby at_54) (by decide) (by decide) (fun T h141 v X hQ => ?_)
          obtain ⟨rfl, K, mu, gz, E_mu, F_b139_mutations, F_b139_durability, F_b139_allowCreate⟩ := hQ
          have ga_mu : n0 ≤ mu := Nat.le_trans X_o.n0le gz
          have ne_b139_mu : b139 ≠ mu := Nat.ne_of_lt (Nat.lt_of_lt_of_le E_b139.lt gz)
          have O_ := O_.keep K (allS ga_b139 all0)
          have E_b139 := E_b139.keep K
          show Goes _ _ _ _ _ _ _ _ T (mkF m 57 #[.val (.int p0), .val (.int (0 : Int32)), .val (.int (1 : Int32)), .val (.int (1 : Int32)), .val (.int (0 : Int32)), .unset, .unset, .unset, .unset, .unset, .unset, .unset, .unset] [(.ref b139)])
          refine Goes.by (g' := (mkF m 59 #[.val (.int p0), .val (.int (0 : Int32)), .val (.int (1 : Int32)), .val (.int (1 : Int32)), .val (.int (0 : Int32)), .val (.ref b139), .unset, .unset, .unset, .unset, .unset, .unset, .unset] [])) (fun _ q => XS.astore X.here X.hx rfl (hb hby at_57) rfl rfl (l' := #[.val (.int p0), .val (.int (0 : Int32)), .val (.int (1 : Int32)), .val (.int (1 : Int32)), .val (.int (0 : Int32)), .val (.ref b139), .unset, .unset, .unset, .unset, .unset, .unset, .unset]) rfl q) ?_
          refine Goes.by (g' := (mkF m 60 #[.val (.int p0), .val (.int (0 : Int32)), .val (.int (1 : Int32)), .val (.int (1 : Int32)), .val (.int (0 : Int32)), .val (.ref b139), .unset, .unset, .unset, .unset, .unset, .unset, .unset] [(.int (0 : Int32))])) (fun _ q => XS.iloadN X.here X.hx rfl (hb hby at_59) rfl q) ?_
          refine Goes.by (g' := (mkF m 69 #[.val (.int p0), .val (.int (0 : Int32)), .val (.int (1 : Int32)), .val (.int (1 : Int32)), .val (.int (0 : Int32)), .val (.ref b139), .unset, .unset, .unset, .unset, .unset, .unset, .unset] [])) (fun _ q => XS.ifYes X.here X.hx rfl (pc0 := 60) (pc' := 69) rfl (hb hby at_60) rfl ((if0 _ _).trans (teq (show (0 : Int32) = (0 : Int32) from (by decide))).1) (by decide) (by decide) q) ?_
          refine Goes.by (g' := (mkF m 70 #[.val (.int p0), .val (.int (0 : Int32)), .val (.int (1 : Int32)), .val (.int (1 : Int32)), .val (.int (0 : Int32)), .val (.ref b139), .unset, .unset, .unset, .unset, .unset, .unset, .unset] [(.int (1 : Int32))])) (fun _ q => XS.iloadN X.here X.hx rfl (hb hby at_69) rfl q) ?_
          refine Goes.by (g' := (mkF m 73 #[.val (.int p0), .val (.int (0 : Int32)), .val (.int (1 : Int32)), .val (.int (1 : Int32)), .val (.int (0 : Int32)), .val (.ref b139), .unset, .unset, .unset, .unset, .unset, .unset, .unset] [])) (fun _ q => XS.ifNo X.here X.hx rfl (hb hby at_70) rfl ((if0 _ _).trans (feq (show ¬ (1 : Int32) = (0 : Int32) from (by decide))).1) q) ?_
          refine Goes.by (g' := (mkF m 75 #[.val (.int p0), .val (.int (0 : Int32)), .val (.int (1 : Int32)), .val (.int (1 : Int32)), .val (.int (0 : Int32)), .val (.ref b139), .unset, .unset, .unset, .unset, .unset, .unset, .unset] [(.ref b139)])) (fun _ q => XS.aload X.here X.hx rfl (hb hby at_73) rfl rfl q) ?_
          refine X.getS (Or.inl (hw _ (List.mem_of_getElem? (i := 141) rfl))) (host := "") Via.refl (S_FORCE.ext O_.2) (hb hby at_75) (fun T X => ?_)
          show Goes _ _ _ _ _ _ _ _ T (mkF m 78 #[.val (.int p0), .val (.int (0 : Int32)), .val (.int (1 : Int32)), .val (.int (1 : Int32)), .val (.int (0 : Int32)), .val (.ref b139), .unset, .unset, .unset, .unset, .unset, .unset, .unset] [(.ref a_FORCE), (.ref b139)])
          have X_o := X
          refine X.callV E_b139 (hw _ (List.mem_of_getElem? (i := 143) rfl)) (hw _ (List.mem_of_getElem? (i := 144) rfl)) (hw _ (List.mem_of_getElem? (i := 146) rfl)) (hw _ (List.mem_of_getElem? (i := 103) rfl)) rfl (hw _ (List.mem_of_getElem? (i := 145) rfl)) (hw _ (List.mem_of_getElem? (i := 2) rfl)) (hw _ (List.mem_of_getElem? (i := 147) rfl)) (by decide) pd_2427134969 (argsL := [(.ref a_FORCE)]) rfl (rm_setDurability l Z a0 hw n0 h141 X.n0le b139 a_FORCE (.ref a_WRITE) ga_b139 E_b139 (E_FORCE.ext O_.2) F_b139_durability (.ref mu) F_b139_mutations (.int (0 : Int32)) F_b139_allowCreate) (by rw [hml]; rfl) rfl (by decide) (leB rfl) (hb hby at_78) (by decide) (by decide) (fun T h142 v X hQ => ?_)
          obtain ⟨rfl, K, F_b139_durability, F_b139_mutations, F_b139_allowCreate⟩ := hQ
          have O_ := O_.keep K (allS ga_b139 all0)
          have E_b139 := E_b139.keep K
          have E_mu := E_mu.keep K
          show Goes _ _ _ _ _ _ _ _ T (mkF m 81 #[.val (.int p0), .val (.int (0 : Int32)), .val (.int (1 : Int32)), .val (.int (1 : Int32)), .val (.int (0 : Int32)), .val (.ref b139), .unset, .unset, .unset, .unset, .unset, .unset, .unset] [])
          refine X.newO (hw _ (List.mem_of_getElem? (i := 98) rfl)) (hw _ (List.mem_of_getElem? (i := 10) rfl)) (hw _ (List.mem_of_getElem? (i := 11) rfl)) (hb hby at_81) (by decide) (by decide) (fun T h144 b143 X g_b143 ga_b143 E E_b143 D_b143 => ?_)
          have ne_b139_b143 : b139 ≠ b143 := by rw [g_b143]; exact Nat.ne_of_lt E_b139.lt
          have ne_mu_b143 : mu ≠ b143 := by rw [g_b143]; exact Nat.ne_of_lt E_mu.lt
          have O_ := O_.ext E
          have E_b139 := E_b139.ext E
          have E_mu := E_mu.ext E
          have F_b139_durability := F_b139_durability.ext E
          have F_b139_mutations := F_b139_mutations.ext E
          have F_b139_allowCreate := F_b139_allowCreate.ext E
          have F_b143_renamers : Fld Z h144 b143 "com/example/hafiza/hafiza/Mutations" "renamers" "Ljava/util/Set;" .null := D_b143 (Or.inr (hw _ (List.mem_of_getElem? (i := 86) rfl))) (ty := (.object "java/util/Set")) (by decide)
          have F_b143_deleters : Fld Z h144 b143 "com/example/hafiza/hafiza/Mutations" "deleters" "Ljava/util/Set;" .null := D_b143 (Or.inr (hw _ (List.mem_of_getElem? (i := 88) rfl))) (ty := (.object "java/util/Set")) (by decide)
          have F_b143_converters : Fld Z h144 b143 "com/example/hafiza/hafiza/Mutations" "converters" "Ljava/util/Set;" .null := D_b143 (Or.inr (hw _ (List.mem_of_getElem? (i := 90) rfl))) (ty := (.object "java/util/Set")) (by decide)
          show Goes _ _ _ _ _ _ _ _ T (mkF m 84 #[.val (.int p0), .val (.int (0 : Int32)), .val (.int (1 : Int32)), .val (.int (1 : Int32)), .val (.int (0 : Int32)), .val (.ref b139), .unset, .unset, .unset, .unset, .unset, .unset, .unset] [(.ref b143)])
          refine Goes.by (g' := (mkF m 85 #[.val (.int p0), .val (.int (0 : Int32)), .val (.int (1 : Int32)), .val (.int (1 : Int32)), .val (.int (0 : Int32)), .val (.ref b139), .unset, .unset, .unset, .unset, .unset, .unset, .unset] [(.ref b143), (.ref b143)])) (fun _ q => XS.dup X.here X.hx rfl (hb hby at_84) rfl rfl q) ?_
          have X_o := X
          refine X.callN rfl (hw _ (List.mem_of_getElem? (i := 99) rfl)) (hw _ (List.mem_of_getElem? (i := 13) rfl)) (hw _ (List.mem_of_getElem? (i := 11) rfl)) (hw _ (List.mem_of_getElem? (i := 14) rfl)) (by decide) pd_193421996 (argsL := []) rfl (rmMU l Z a0 hw n0 h144 X.n0le b143 ga_b143 E_b143 F_b143_renamers F_b143_deleters F_b143_converters) (by rw [hml]; rfl) rfl (by decide) (leB rfl) (hb hby at_85) (by decide) (by decide) (fun T h145 v X hQ => ?_)
          obtain ⟨rfl, K⟩ := hQ
          have O_ := O_.keep K (allS ga_b143 all0)
          have E_b139 := E_b139.keep K
          have E_mu := E_mu.keep K
          have F_b139_durability := F_b139_durability.keep K (ninS ne_b139_b143 nin0)
          have F_b139_mutations := F_b139_mutations.keep K (ninS ne_b139_b143 nin0)
          have F_b139_allowCreate := F_b139_allowCreate.keep K (ninS ne_b139_b143 nin0)
          have E_b143 := E_b143.keep K
          show Goes _ _ _ _ _ _ _ _ T (mkF m 88 #[.val (.int p0), .val (.int (0 : Int32)), .val (.int (1 : Int32)), .val (.int (1 : Int32)), .val (.int (0 : Int32)), .val (.ref b139), .unset, .unset, .unset, .unset, .unset, .unset, .unset] [(.ref b143)])
          refine Goes.by (g' := (mkF m 90 #[.val (.int p0), .val (.int (0 : Int32)), .val (.int (1 : Int32)), .val (.int (1 : Int32)), .val (.int (0 : Int32)), .val (.ref b139), .val (.ref b143), .unset, .unset, .unset, .unset, .unset, .unset] [])) (fun _ q => XS.astore X.here X.hx rfl (hb hby at_88) rfl rfl (l' := #[.val (.int p0), .val (.int (0 : Int32)), .val (.int (1 : Int32)), .val (.int (1 : Int32)), .val (.int (0 : Int32)), .val (.ref b139), .val (.ref b143), .unset, .unset, .unset, .unset, .unset, .unset]) rfl q) ?_
          refine X.newO (hw _ (List.mem_of_getElem? (i := 98) rfl)) (hw _ (List.mem_of_getElem? (i := 10) rfl)) (hw _ (List.mem_of_getElem? (i := 11) rfl)) (hb hby at_90) (by decide) (by decide) (fun T h147 b146 X g_b146 ga_b146 E E_b146 D_b146 => ?_)
          have ne_b139_b146 : b139 ≠ b146 := by rw [g_b146]; exact Nat.ne_of_lt E_b139.lt
          have ne_mu_b146 : mu ≠ b146 := by rw [g_b146]; exact Nat.ne_of_lt E_mu.lt
          have ne_b143_b146 : b143 ≠ b146 := by rw [g_b146]; exact Nat.ne_of_lt E_b143.lt
          have O_ := O_.ext E
          have E_b139 := E_b139.ext E
          have E_mu := E_mu.ext E
          have F_b139_durability := F_b139_durability.ext E
          have F_b139_mutations := F_b139_mutations.ext E
          have F_b139_allowCreate := F_b139_allowCreate.ext E
          have E_b143 := E_b143.ext E
          have F_b146_renamers : Fld Z h147 b146 "com/example/hafiza/hafiza/Mutations" "renamers" "Ljava/util/Set;" .null := D_b146 (Or.inr (hw _ (List.mem_of_getElem? (i := 86) rfl))) (ty := (.object "java/util/Set")) (by decide)
          have F_b146_deleters : Fld Z h147 b146 "com/example/hafiza/hafiza/Mutations" "deleters" "Ljava/util/Set;" .null := D_b146 (Or.inr (hw _ (List.mem_of_getElem? (i := 88) rfl))) (ty := (.object "java/util/Set")) (by decide)
          have F_b146_converters : Fld Z h147 b146 "com/example/hafiza/hafiza/Mutations" "converters" "Ljava/util/Set;" .null := D_b146 (Or.inr (hw _ (List.mem_of_getElem? (i := 90) rfl))) (ty := (.object "java/util/Set")) (by decide)
          show Goes _ _ _ _ _ _ _ _ T (mkF m 93 #[.val (.int p0), .val (.int (0 : Int32)), .val (.int (1 : Int32)), .val (.int (1 : Int32)), .val (.int (0 : Int32)), .val (.ref b139), .val (.ref b143), .unset, .unset, .unset, .unset, .unset, .unset] [(.ref b146)])
          refine Goes.by (g' := (mkF m 94 #[.val (.int p0), .val (.int (0 : Int32)), .val (.int (1 : Int32)), .val (.int (1 : Int32)), .val (.int (0 : Int32)), .val (.ref b139), .val (.ref b143), .unset, .unset, .unset, .unset, .unset, .unset] [(.ref b146), (.ref b146)])) (fun _ q => XS.dup X.here X.hx rfl (hb hby at_93) rfl rfl q) ?_
          have X_o := X
          refine X.callN rfl (hw _ (List.mem_of_getElem? (i := 99) rfl)) (hw _ (List.mem_of_getElem? (i := 13) rfl)) (hw _ (List.mem_of_getElem? (i := 11) rfl)) (hw _ (List.mem_of_getElem? (i := 14) rfl)) (by decide) pd_193421996 (argsL := []) rfl (rmMU l Z a0 hw n0 h147 X.n0le b146 ga_b146 E_b146 F_b146_renamers F_b146_deleters F_b146_converters) (by rw [hml]; rfl) rfl (by decide) (leB rfl) (hb hby at_94) (by decide) (by decide) (fun T h148 v X hQ => ?_)
          obtain ⟨rfl, K⟩ := hQ
          have O_ := O_.keep K (allS ga_b146 all0)
          have E_b139 := E_b139.keep K
          have E_mu := E_mu.keep K
          have F_b139_durability := F_b139_durability.keep K (ninS ne_b139_b146 nin0)
          have F_b139_mutations := F_b139_mutations.keep K (ninS ne_b139_b146 nin0)
          have F_b139_allowCreate := F_b139_allowCreate.keep K (ninS ne_b139_b146 nin0)
          have E_b143 := E_b143.keep K
          have E_b146 := E_b146.keep K
          show Goes _ _ _ _ _ _ _ _ T (mkF m 97 #[.val (.int p0), .val (.int (0 : Int32)), .val (.int (1 : Int32)), .val (.int (1 : Int32)), .val (.int (0 : Int32)), .val (.ref b139), .val (.ref b143), .unset, .unset, .unset, .unset, .unset, .unset] [(.ref b146)])
          refine Goes.by (g' := (mkF m 99 #[.val (.int p0), .val (.int (0 : Int32)), .val (.int (1 : Int32)), .val (.int (1 : Int32)), .val (.int (0 : Int32)), .val (.ref b139), .val (.ref b143), .val (.ref b146), .unset, .unset, .unset, .unset, .unset] [])) (fun _ q => XS.astore X.here X.hx rfl (hb hby at_97) rfl rfl (l' := #[.val (.int p0), .val (.int (0 : Int32)), .val (.int (1 : Int32)), .val (.int (1 : Int32)), .val (.int (0 : Int32)), .val (.ref b139), .val (.ref b143), .val (.ref b146), .unset, .unset, .unset, .unset, .unset]) rfl q) ?_
          refine Goes.by (g' := (mkF m 101 #[.val (.int p0), .val (.int (0 : Int32)), .val (.int (1 : Int32)), .val (.int (1 : Int32)), .val (.int (0 : Int32)), .val (.ref b139), .val (.ref b143), .val (.ref b146), .unset, .unset, .unset, .unset, .unset] [(.ref b139)])) (fun _ q => XS.aload X.here X.hx rfl (hb hby at_99) rfl rfl q) ?_
          have X_o := X
          refine X.callV E_b139 (hw _ (List.mem_of_getElem? (i := 100) rfl)) (hw _ (List.mem_of_getElem? (i := 101) rfl)) (hw _ (List.mem_of_getElem? (i := 103) rfl)) (hw _ (List.mem_of_getElem? (i := 103) rfl)) rfl (hw _ (List.mem_of_getElem? (i := 102) rfl)) (hw _ (List.mem_of_getElem? (i := 2) rfl)) (hw _ (List.mem_of_getElem? (i := 104) rfl)) (by decide) pd_2544813166 (argsL := []) rfl (rm_getMutations l Z a0 hw n0 h148 X.n0le b139 mu  F_b139_mutations) (by rw [hml]; rfl) rfl (by decide) (leB rfl) (hb hby at_101) (by decide) (by decide) (fun T h149 v X hQ => ?_)
          obtain ⟨rfl, hh⟩ := hQ
          rw [hh] at X
          clear hh
          show Goes _ _ _ _ _ _ _ _ T (mkF m 104 #[.val (.int p0), .val (.int (0 : Int32)), .val (.int (1 : Int32)), .val (.int (1 : Int32)), .val (.int (0 : Int32)), .val (.ref b139), .val (.ref b143), .val (.ref b146), .unset, .unset, .unset, .unset, .unset] [(.ref mu)])
          refine Goes.by (g' := (mkF m 106 #[.val (.int p0), .val (.int (0 : Int32)), .val (.int (1 : Int32)), .val (.int (1 : Int32)), .val (.int (0 : Int32)), .val (.ref b139), .val (.ref b143), .val (.ref b146), .val (.ref mu), .unset, .unset, .unset, .unset] [])) (fun _ q => XS.astore X.here X.hx rfl (hb hby at_104) rfl rfl (l' := #[.val (.int p0), .val (.int (0 : Int32)), .val (.int (1 : Int32)), .val (.int (1 : Int32)), .val (.int (0 : Int32)), .val (.ref b139), .val (.ref b143), .val (.ref b146), .val (.ref mu), .unset, .unset, .unset, .unset]) rfl q) ?_
          refine Goes.by (g' := (mkF m 108 #[.val (.int p0), .val (.int (0 : Int32)), .val (.int (1 : Int32)), .val (.int (1 : Int32)), .val (.int (0 : Int32)), .val (.ref b139), .val (.ref b143), .val (.ref b146), .val (.ref mu), .unset, .unset, .unset, .unset] [(.ref mu)])) (fun _ q => XS.aload X.here X.hx rfl (hb hby at_106) rfl rfl q) ?_
          refine Goes.by (g' := (mkF m 111 #[.val (.int p0), .val (.int (0 : Int32)), .val (.int (1 : Int32)), .val (.int (1 : Int32)), .val (.int (0 : Int32)), .val (.ref b139), .val (.ref b143), .val (.ref b146), .val (.ref mu), .unset, .unset, .unset, .unset] [])) (fun _ q => XS.ifnullNo X.here X.hx rfl (hb hby at_108) rfl q) ?_
          refine Goes.by (g' := (mkF m 113 #[.val (.int p0), .val (.int (0 : Int32)), .val (.int (1 : Int32)), .val (.int (1 : Int32)), .val (.int (0 : Int32)), .val (.ref b139), .val (.ref b143), .val (.ref b146), .val (.ref mu), .unset, .unset, .unset, .unset] [(.ref mu)])) (fun _ q => XS.aload X.here X.hx rfl (hb hby at_111) rfl rfl q) ?_
          refine Goes.by (g' := (mkF m 115 #[.val (.int p0), .val (.int (0 : Int32)), .val (.int (1 : Int32)), .val (.int (1 : Int32)), .val (.int (0 : Int32)), .val (.ref b139), .val (.ref b143), .val (.ref b146), .val (.ref mu), .unset, .unset, .unset, .unset] [(.ref b143), (.ref mu)])) (fun _ q => XS.aload X.here X.hx rfl (hb hby at_113) rfl rfl q) ?_
          refine X.acmp rfl rfl (cd := .eq) (x := (.ref mu)) (y := (.ref b143)) (same := false) (pc' := 118) (hb hby at_115) (decide_eq_false fun q => ne_mu_b143 (Value.ref.inj q)) (by decide) (by decide) ?_
          show Goes _ _ _ _ _ _ _ _ T (mkF m 118 #[.val (.int p0), .val (.int (0 : Int32)), .val (.int (1 : Int32)), .val (.int (1 : Int32)), .val (.int (0 : Int32)), .val (.ref b139), .val (.ref b143), .val (.ref b146), .val (.ref mu), .unset, .unset, .unset, .unset] [])
          refine Goes.by (g' := (mkF m 120 #[.val (.int p0), .val (.int (0 : Int32)), .val (.int (1 : Int32)), .val (.int (1 : Int32)), .val (.int (0 : Int32)), .val (.ref b139), .val (.ref b143), .val (.ref b146), .val (.ref mu), .unset, .unset, .unset, .unset] [(.ref mu)])) (fun _ q => XS.aload X.here X.hx rfl (hb hby at_118) rfl rfl q) ?_
          refine Goes.by (g' := (mkF m 122 #[.val (.int p0), .val (.int (0 : Int32)), .val (.int (1 : Int32)), .val (.int (1 : Int32)), .val (.int (0 : Int32)), .val (.ref b139), .val (.ref b143), .val (.ref b146), .val (.ref mu), .unset, .unset, .unset, .unset] [(.ref b146), (.ref mu)])) (fun _ q => XS.aload X.here X.hx rfl (hb hby at_120) rfl rfl q) ?_
          refine X.acmp rfl rfl (cd := .eq) (x := (.ref mu)) (y := (.ref b146)) (same := false) (pc' := 125) (hb hby at_122) (decide_eq_false fun q => ne_mu_b146 (Value.ref.inj q)) (by decide) (by decide) ?_
          show Goes _ _ _ _ _ _ _ _ T (mkF m 125 #[.val (.int p0), .val (.int (0 : Int32)), .val (.int (1 : Int32)), .val (.int (1 : Int32)), .val (.int (0 : Int32)), .val (.ref b139), .val (.ref b143), .val (.ref b146), .val (.ref mu), .unset, .unset, .unset, .unset] [])
          refine Goes.by (g' := (mkF m 126 #[.val (.int p0), .val (.int (0 : Int32)), .val (.int (1 : Int32)), .val (.int (1 : Int32)), .val (.int (0 : Int32)), .val (.ref b139), .val (.ref b143), .val (.ref b146), .val (.ref mu), .unset, .unset, .unset, .unset] [(.int (1 : Int32))])) (fun _ q => XS.iconst X.here X.hx rfl (hb hby at_125) q) ?_
          refine Goes.by (g' := (mkF m 130 #[.val (.int p0), .val (.int (0 : Int32)), .val (.int (1 : Int32)), .val (.int (1 : Int32)), .val (.int (0 : Int32)), .val (.ref b139), .val (.ref b143), .val (.ref b146), .val (.ref mu), .unset, .unset, .unset, .unset] [(.int (1 : Int32))])) (fun _ q => XS.goto X.here X.hx rfl (pc0 := 126) (pc' := 130) rfl (hb hby at_126) (by decide) (by decide) q) ?_
          refine Goes.by (g' := (mkF m 132 #[.val (.int p0), .val (.int (0 : Int32)), .val (.int (1 : Int32)), .val (.int (1 : Int32)), .val (.int (0 : Int32)), .val (.ref b139), .val (.ref b143), .val (.ref b146), .val (.ref mu), .val (.int (1 : Int32)), .unset, .unset, .unset] [])) (fun _ q => XS.istore X.here X.hx rfl (hb hby at_130) rfl (l' := #[.val (.int p0), .val (.int (0 : Int32)), .val (.int (1 : Int32)), .val (.int (1 : Int32)), .val (.int (0 : Int32)), .val (.ref b139), .val (.ref b143), .val (.ref b146), .val (.ref mu), .val (.int (1 : Int32)), .unset, .unset, .unset]) rfl q) ?_
          refine Goes.by (g' := (mkF m 133 #[.val (.int p0), .val (.int (0 : Int32)), .val (.int (1 : Int32)), .val (.int (1 : Int32)), .val (.int (0 : Int32)), .val (.ref b139), .val (.ref b143), .val (.ref b146), .val (.ref mu), .val (.int (1 : Int32)), .unset, .unset, .unset] [(.int (1 : Int32))])) (fun _ q => XS.iloadN X.here X.hx rfl (hb hby at_132) rfl q) ?_
          refine Goes.by (g' := (mkF m 136 #[.val (.int p0), .val (.int (0 : Int32)), .val (.int (1 : Int32)), .val (.int (1 : Int32)), .val (.int (0 : Int32)), .val (.ref b139), .val (.ref b143), .val (.ref b146), .val (.ref mu), .val (.int (1 : Int32)), .unset, .unset, .unset] [])) (fun _ q => XS.ifNo X.here X.hx rfl (hb hby at_133) rfl ((if0 _ _).trans (feq (show ¬ (1 : Int32) = (0 : Int32) from (by decide))).1) q) ?_
          refine Goes.by (g' := (mkF m 138 #[.val (.int p0), .val (.int (0 : Int32)), .val (.int (1 : Int32)), .val (.int (1 : Int32)), .val (.int (0 : Int32)), .val (.ref b139), .val (.ref b143), .val (.ref b146), .val (.ref mu), .val (.int (1 : Int32)), .unset, .unset, .unset] [(.ref b139)])) (fun _ q => XS.aload X.here X.hx rfl (hb hby at_136) rfl rfl q) ?_
          refine Goes.by (g' := (mkF m 140 #[.val (.int p0), .val (.int (0 : Int32)), .val (.int (1 : Int32)), .val (.int (1 : Int32)), .val (.int (0 : Int32)), .val (.ref b139), .val (.ref b143), .val (.ref b146), .val (.ref mu), .val (.int (1 : Int32)), .unset, .unset, .unset] [(.int (0 : Int32)), (.ref b139)])) (fun _ q => XS.iload X.here X.hx rfl (hb hby at_138) rfl q) ?_
          refine Goes.by (g' := (mkF m 148 #[.val (.int p0), .val (.int (0 : Int32)), .val (.int (1 : Int32)), .val (.int (1 : Int32)), .val (.int (0 : Int32)), .val (.ref b139), .val (.ref b143), .val (.ref b146), .val (.ref mu), .val (.int (1 : Int32)), .unset, .unset, .unset] [(.ref b139)])) (fun _ q => XS.ifYes X.here X.hx rfl (pc0 := 140) (pc' := 148) rfl (hb hby at_140) rfl ((if0 _ _).trans (teq (show (0 : Int32) = (0 : Int32) from (by decide))).1) (by decide) (by decide) q) ?_
          refine Goes.by (g' := (mkF m 150 #[.val (.int p0), .val (.int (0 : Int32)), .val (.int (1 : Int32)), .val (.int (1 : Int32)), .val (.int (0 : Int32)), .val (.ref b139), .val (.ref b143), .val (.ref b146), .val (.ref mu), .val (.int (1 : Int32)), .unset, .unset, .unset] [(.ref b143), (.ref b139)])) (fun _ q => XS.aload X.here X.hx rfl (hb hby at_148) rfl rfl q) ?_
          have X_o := X
          refine X.callV E_b139 (hw _ (List.mem_of_getElem? (i := 105) rfl)) (hw _ (List.mem_of_getElem? (i := 106) rfl)) (hw _ (List.mem_of_getElem? (i := 108) rfl)) (hw _ (List.mem_of_getElem? (i := 103) rfl)) rfl (hw _ (List.mem_of_getElem? (i := 107) rfl)) (hw _ (List.mem_of_getElem? (i := 2) rfl)) (hw _ (List.mem_of_getElem? (i := 109) rfl)) (by decide) pd_2932898788 (argsL := [(.ref b143)]) rfl (rm_setMutations l Z a0 hw n0 h148 X.n0le b139 b143 (.ref mu) ga_b139 E_b139 E_b143 F_b139_mutations (.ref a_FORCE) F_b139_durability (.int (0 : Int32)) F_b139_allowCreate) (by rw [hml]; rfl) rfl (by decide) (leB rfl) (hb hby at_150) (by decide) (by decide) (fun T h150 v X hQ => ?_)
          obtain ⟨rfl, K, F_b139_mutations, F_b139_durability, F_b139_allowCreate⟩ := hQ
          have O_ := O_.keep K (allS ga_b139 all0)
          have E_b139 := E_b139.keep K
          have E_mu := E_mu.keep K
          have E_b143 := E_b143.keep K
          have E_b146 := E_b146.keep K
          show Goes _ _ _ _ _ _ _ _ T (mkF m 153 #[.val (.int p0), .val (.int (0 : Int32)), .val (.int (1 : Int32)), .val (.int (1 : Int32)), .val (.int (0 : Int32)), .val (.ref b139), .val (.ref b143), .val (.ref b146), .val (.ref mu), .val (.int (1 : Int32)), .unset, .unset, .unset] [])
          refine Goes.by (g' := (mkF m 155 #[.val (.int p0), .val (.int (0 : Int32)), .val (.int (1 : Int32)), .val (.int (1 : Int32)), .val (.int (0 : Int32)), .val (.ref b139), .val (.ref b143), .val (.ref b146), .val (.ref mu), .val (.int (1 : Int32)), .unset, .unset, .unset] [(.int (0 : Int32))])) (fun _ q => XS.iload X.here X.hx rfl (hb hby at_153) rfl q) ?_
          refine Goes.by (g' := (mkF m 163 #[.val (.int p0), .val (.int (0 : Int32)), .val (.int (1 : Int32)), .val (.int (1 : Int32)), .val (.int (0 : Int32)), .val (.ref b139), .val (.ref b143), .val (.ref b146), .val (.ref mu), .val (.int (1 : Int32)), .unset, .unset, .unset] [])) (fun _ q => XS.ifYes X.here X.hx rfl (pc0 := 155) (pc' := 163) rfl (hb hby at_155) rfl ((if0 _ _).trans (teq (show (0 : Int32) = (0 : Int32) from (by decide))).1) (by decide) (by decide) q) ?_
          refine Goes.by (g' := (mkF m 165 #[.val (.int p0), .val (.int (0 : Int32)), .val (.int (1 : Int32)), .val (.int (1 : Int32)), .val (.int (0 : Int32)), .val (.ref b139), .val (.ref b143), .val (.ref b146), .val (.ref mu), .val (.int (1 : Int32)), .unset, .unset, .unset] [(.ref b146)])) (fun _ q => XS.aload X.here X.hx rfl (hb hby at_163) rfl rfl q) ?_
          refine Goes.by (g' := (mkF m 167 #[.val (.int p0), .val (.int (0 : Int32)), .val (.int (1 : Int32)), .val (.int (1 : Int32)), .val (.int (0 : Int32)), .val (.ref b139), .val (.ref b143), .val (.ref b146), .val (.ref mu), .val (.int (1 : Int32)), .val (.ref b146), .unset, .unset] [])) (fun _ q => XS.astore X.here X.hx rfl (hb hby at_165) rfl rfl (l' := #[.val (.int p0), .val (.int (0 : Int32)), .val (.int (1 : Int32)), .val (.int (1 : Int32)), .val (.int (0 : Int32)), .val (.ref b139), .val (.ref b143), .val (.ref b146), .val (.ref mu), .val (.int (1 : Int32)), .val (.ref b146), .unset, .unset]) rfl q) ?_
          refine Goes.by (g' := (mkF m 169 #[.val (.int p0), .val (.int (0 : Int32)), .val (.int (1 : Int32)), .val (.int (1 : Int32)), .val (.int (0 : Int32)), .val (.ref b139), .val (.ref b143), .val (.ref b146), .val (.ref mu), .val (.int (1 : Int32)), .val (.ref b146), .unset, .unset] [(.ref b139)])) (fun _ q => XS.aload X.here X.hx rfl (hb hby at_167) rfl rfl q) ?_
          refine Goes.by (g' := (mkF m 171 #[.val (.int p0), .val (.int (0 : Int32)), .val (.int (1 : Int32)), .val (.int (1 : Int32)), .val (.int (0 : Int32)), .val (.ref b139), .val (.ref b143), .val (.ref b146), .val (.ref mu), .val (.int (1 : Int32)), .val (.ref b146), .unset, .unset] [(.ref b146), (.ref b139)])) (fun _ q => XS.aload X.here X.hx rfl (hb hby at_169) rfl rfl q) ?_
          have X_o := X
          refine X.callV E_b139 (hw _ (List.mem_of_getElem? (i := 105) rfl)) (hw _ (List.mem_of_getElem? (i := 106) rfl)) (hw _ (List.mem_of_getElem? (i := 108) rfl)) (hw _ (List.mem_of_getElem? (i := 103) rfl)) rfl (hw _ (List.mem_of_getElem? (i := 107) rfl)) (hw _ (List.mem_of_getElem? (i := 2) rfl)) (hw _ (List.mem_of_getElem? (i := 109) rfl)) (by decide) pd_2932898788 (argsL := [(.ref b146)]) rfl (rm_setMutations l Z a0 hw n0 h150 X.n0le b139 b146 (.ref b143) ga_b139 E_b139 E_b146 F_b139_mutations (.ref a_FORCE) F_b139_durability (.int (0 : Int32)) F_b139_allowCreate) (by rw [hml]; rfl) rfl (by decide) (leB rfl) (hb hby at_171) (by decide) (by decide) (fun T h151 v X hQ => ?_)
          obtain ⟨rfl, K, F_b139_mutations, F_b139_durability, F_b139_allowCreate⟩ := hQ
          have O_ := O_.keep K (allS ga_b139 all0)
          have E_b139 := E_b139.keep K
          have E_mu := E_mu.keep K
          have E_b143 := E_b143.keep K
          have E_b146 := E_b146.keep K
          show Goes _ _ _ _ _ _ _ _ T (mkF m 174 #[.val (.int p0), .val (.int (0 : Int32)), .val (.int (1 : Int32)), .val (.int (1 : Int32)), .val (.int (0 : Int32)), .val (.ref b139), .val (.ref b143), .val (.ref b146), .val (.ref mu), .val (.int (1 : Int32)), .val (.ref b146), .unset, .unset] [])
          refine Goes.by (g' := (mkF m 176 #[.val (.int p0), .val (.int (0 : Int32)), .val (.int (1 : Int32)), .val (.int (1 : Int32)), .val (.int (0 : Int32)), .val (.ref b139), .val (.ref b143), .val (.ref b146), .val (.ref mu), .val (.int (1 : Int32)), .val (.ref b146), .unset, .unset] [(.ref b139)])) (fun _ q => XS.aload X.here X.hx rfl (hb hby at_174) rfl rfl q) ?_
          have X_o := X
          refine X.callV E_b139 (hw _ (List.mem_of_getElem? (i := 100) rfl)) (hw _ (List.mem_of_getElem? (i := 101) rfl)) (hw _ (List.mem_of_getElem? (i := 103) rfl)) (hw _ (List.mem_of_getElem? (i := 103) rfl)) rfl (hw _ (List.mem_of_getElem? (i := 102) rfl)) (hw _ (List.mem_of_getElem? (i := 2) rfl)) (hw _ (List.mem_of_getElem? (i := 104) rfl)) (by decide) pd_2544813166 (argsL := []) rfl (rm_getMutations l Z a0 hw n0 h151 X.n0le b139 b146  F_b139_mutations) (by rw [hml]; rfl) rfl (by decide) (leB rfl) (hb hby at_176) (by decide) (by decide) (fun T h152 v X hQ => ?_)
          obtain ⟨rfl, hh⟩ := hQ
          rw [hh] at X
          clear hh
          show Goes _ _ _ _ _ _ _ _ T (mkF m 179 #[.val (.int p0), .val (.int (0 : Int32)), .val (.int (1 : Int32)), .val (.int (1 : Int32)), .val (.int (0 : Int32)), .val (.ref b139), .val (.ref b143), .val (.ref b146), .val (.ref mu), .val (.int (1 : Int32)), .val (.ref b146), .unset, .unset] [(.ref b146)])
          refine Goes.by (g' := (mkF m 181 #[.val (.int p0), .val (.int (0 : Int32)), .val (.int (1 : Int32)), .val (.int (1 : Int32)), .val (.int (0 : Int32)), .val (.ref b139), .val (.ref b143), .val (.ref b146), .val (.ref mu), .val (.int (1 : Int32)), .val (.ref b146), .val (.ref b146), .unset] [])) (fun _ q => XS.astore X.here X.hx rfl (hb hby at_179) rfl rfl (l' := #[.val (.int p0), .val (.int (0 : Int32)), .val (.int (1 : Int32)), .val (.int (1 : Int32)), .val (.int (0 : Int32)), .val (.ref b139), .val (.ref b143), .val (.ref b146), .val (.ref mu), .val (.int (1 : Int32)), .val (.ref b146), .val (.ref b146), .unset]) rfl q) ?_
          refine Goes.by (g' := (mkF m 182 #[.val (.int p0), .val (.int (0 : Int32)), .val (.int (1 : Int32)), .val (.int (1 : Int32)), .val (.int (0 : Int32)), .val (.ref b139), .val (.ref b143), .val (.ref b146), .val (.ref mu), .val (.int (1 : Int32)), .val (.ref b146), .val (.ref b146), .unset] [(.int (1 : Int32))])) (fun _ q => XS.iloadN X.here X.hx rfl (hb hby at_181) rfl q) ?_
          refine Goes.by (g' := (mkF m 185 #[.val (.int p0), .val (.int (0 : Int32)), .val (.int (1 : Int32)), .val (.int (1 : Int32)), .val (.int (0 : Int32)), .val (.ref b139), .val (.ref b143), .val (.ref b146), .val (.ref mu), .val (.int (1 : Int32)), .val (.ref b146), .val (.ref b146), .unset] [])) (fun _ q => XS.ifNo X.here X.hx rfl (hb hby at_182) rfl ((if0 _ _).trans (feq (show ¬ (1 : Int32) = (0 : Int32) from (by decide))).1) q) ?_
          refine X.getS (Or.inl (hw _ (List.mem_of_getElem? (i := 141) rfl))) (host := "") Via.refl (S_FORCE.ext O_.2) (hb hby at_185) (fun T X => ?_)
          show Goes _ _ _ _ _ _ _ _ T (mkF m 188 #[.val (.int p0), .val (.int (0 : Int32)), .val (.int (1 : Int32)), .val (.int (1 : Int32)), .val (.int (0 : Int32)), .val (.ref b139), .val (.ref b143), .val (.ref b146), .val (.ref mu), .val (.int (1 : Int32)), .val (.ref b146), .val (.ref b146), .unset] [(.ref a_FORCE)])
          refine Goes.by (g' := (mkF m 194 #[.val (.int p0), .val (.int (0 : Int32)), .val (.int (1 : Int32)), .val (.int (1 : Int32)), .val (.int (0 : Int32)), .val (.ref b139), .val (.ref b143), .val (.ref b146), .val (.ref mu), .val (.int (1 : Int32)), .val (.ref b146), .val (.ref b146), .unset] [(.ref a_FORCE)])) (fun _ q => XS.goto X.here X.hx rfl (pc0 := 188) (pc' := 194) rfl (hb hby at_188) (by decide) (by decide) q) ?_
          refine Goes.by (g' := (mkF m 196 #[.val (.int p0), .val (.int (0 : Int32)), .val (.int (1 : Int32)), .val (.int (1 : Int32)), .val (.int (0 : Int32)), .val (.ref b139), .val (.ref b143), .val (.ref b146), .val (.ref mu), .val (.int (1 : Int32)), .val (.ref b146), .val (.ref b146), .val (.ref a_FORCE)] [])) (fun _ q => XS.astore X.here X.hx rfl (hb hby at_194) rfl rfl (l' := #[.val (.int p0), .val (.int (0 : Int32)), .val (.int (1 : Int32)), .val (.int (1 : Int32)), .val (.int (0 : Int32)), .val (.ref b139), .val (.ref b143), .val (.ref b146), .val (.ref mu), .val (.int (1 : Int32)), .val (.ref b146), .val (.ref b146), .val (.ref a_FORCE)]) rfl q) ?_
          refine Goes.by (g' := (mkF m 198 #[.val (.int p0), .val (.int (0 : Int32)), .val (.int (1 : Int32)), .val (.int (1 : Int32)), .val (.int (0 : Int32)), .val (.ref b139), .val (.ref b143), .val (.ref b146), .val (.ref mu), .val (.int (1 : Int32)), .val (.ref b146), .val (.ref b146), .val (.ref a_FORCE)] [(.int (1 : Int32))])) (fun _ q => XS.iload X.here X.hx rfl (hb hby at_196) rfl q) ?_
          refine Goes.by (g' := (mkF m 201 #[.val (.int p0), .val (.int (0 : Int32)), .val (.int (1 : Int32)), .val (.int (1 : Int32)), .val (.int (0 : Int32)), .val (.ref b139), .val (.ref b143), .val (.ref b146), .val (.ref mu), .val (.int (1 : Int32)), .val (.ref b146), .val (.ref b146), .val (.ref a_FORCE)] [])) (fun _ q => XS.ifNo X.here X.hx rfl (hb hby at_198) rfl ((if0 _ _).trans (feq (show ¬ (1 : Int32) = (0 : Int32) from (by decide))).1) q) ?_
          refine Goes.by (g' := (mkF m 203 #[.val (.int p0), .val (.int (0 : Int32)), .val (.int (1 : Int32)), .val (.int (1 : Int32)), .val (.int (0 : Int32)), .val (.ref b139), .val (.ref b143), .val (.ref b146), .val (.ref mu), .val (.int (1 : Int32)), .val (.ref b146), .val (.ref b146), .val (.ref a_FORCE)] [(.ref b146)])) (fun _ q => XS.aload X.here X.hx rfl (hb hby at_201) rfl rfl q) ?_
          refine Goes.by (g' := (mkF m 205 #[.val (.int p0), .val (.int (0 : Int32)), .val (.int (1 : Int32)), .val (.int (1 : Int32)), .val (.int (0 : Int32)), .val (.ref b139), .val (.ref b143), .val (.ref b146), .val (.ref mu), .val (.int (1 : Int32)), .val (.ref b146), .val (.ref b146), .val (.ref a_FORCE)] [(.ref b146), (.ref b146)])) (fun _ q => XS.aload X.here X.hx rfl (hb hby at_203) rfl rfl q) ?_
          refine X.acmp rfl rfl (cd := .ne) (x := (.ref b146)) (y := (.ref b146)) (same := true) (pc' := 208) (hb hby at_205) (decide_eq_true rfl) (by decide) (by decide) ?_
          show Goes _ _ _ _ _ _ _ _ T (mkF m 208 #[.val (.int p0), .val (.int (0 : Int32)), .val (.int (1 : Int32)), .val (.int (1 : Int32)), .val (.int (0 : Int32)), .val (.ref b139), .val (.ref b143), .val (.ref b146), .val (.ref mu), .val (.int (1 : Int32)), .val (.ref b146), .val (.ref b146), .val (.ref a_FORCE)] [])
          refine Goes.by (g' := (mkF m 210 #[.val (.int p0), .val (.int (0 : Int32)), .val (.int (1 : Int32)), .val (.int (1 : Int32)), .val (.int (0 : Int32)), .val (.ref b139), .val (.ref b143), .val (.ref b146), .val (.ref mu), .val (.int (1 : Int32)), .val (.ref b146), .val (.ref b146), .val (.ref a_FORCE)] [(.ref b139)])) (fun _ q => XS.aload X.here X.hx rfl (hb hby at_208) rfl rfl q) ?_
          have X_o := X
          refine X.callV E_b139 (hw _ (List.mem_of_getElem? (i := 124) rfl)) (hw _ (List.mem_of_getElem? (i := 125) rfl)) (hw _ (List.mem_of_getElem? (i := 127) rfl)) (hw _ (List.mem_of_getElem? (i := 103) rfl)) rfl (hw _ (List.mem_of_getElem? (i := 126) rfl)) (hw _ (List.mem_of_getElem? (i := 2) rfl)) (hw _ (List.mem_of_getElem? (i := 128) rfl)) (by decide) pd_193422000 (argsL := []) rfl (rm_getAllowCreate l Z a0 hw n0 h151 X.n0le b139 (0 : Int32) (by decide) F_b139_allowCreate) (by rw [hml]; rfl) rfl (by decide) (leB rfl) (hb hby at_210) (by decide) (by decide) (fun T h153 v X hQ => ?_)
          obtain ⟨rfl, hh⟩ := hQ
          rw [hh] at X
          clear hh
          show Goes _ _ _ _ _ _ _ _ T (mkF m 213 #[.val (.int p0), .val (.int (0 : Int32)), .val (.int (1 : Int32)), .val (.int (1 : Int32)), .val (.int (0 : Int32)), .val (.ref b139), .val (.ref b143), .val (.ref b146), .val (.ref mu), .val (.int (1 : Int32)), .val (.ref b146), .val (.ref b146), .val (.ref a_FORCE)] [(.int (0 : Int32))])
          refine Goes.by (g' := (mkF m 214 #[.val (.int p0), .val (.int (0 : Int32)), .val (.int (1 : Int32)), .val (.int (1 : Int32)), .val (.int (0 : Int32)), .val (.ref b139), .val (.ref b143), .val (.ref b146), .val (.ref mu), .val (.int (1 : Int32)), .val (.ref b146), .val (.ref b146), .val (.ref a_FORCE)] [(.int (0 : Int32)), (.int (0 : Int32))])) (fun _ q => XS.iloadN X.here X.hx rfl (hb hby at_213) rfl q) ?_
          refine Goes.by (g' := (mkF m 217 #[.val (.int p0), .val (.int (0 : Int32)), .val (.int (1 : Int32)), .val (.int (1 : Int32)), .val (.int (0 : Int32)), .val (.ref b139), .val (.ref b143), .val (.ref b146), .val (.ref mu), .val (.int (1 : Int32)), .val (.ref b146), .val (.ref b146), .val (.ref a_FORCE)] [])) (fun _ q => XS.icmpNo X.here X.hx rfl (hb hby at_214) rfl (teq (show (0 : Int32) = (0 : Int32) from (by decide))).2 q) ?_
          refine Goes.by (g' := (mkF m 219 #[.val (.int p0), .val (.int (0 : Int32)), .val (.int (1 : Int32)), .val (.int (1 : Int32)), .val (.int (0 : Int32)), .val (.ref b139), .val (.ref b143), .val (.ref b146), .val (.ref mu), .val (.int (1 : Int32)), .val (.ref b146), .val (.ref b146), .val (.ref a_FORCE)] [(.ref b139)])) (fun _ q => XS.aload X.here X.hx rfl (hb hby at_217) rfl rfl q) ?_
          have X_o := X
          refine X.callV E_b139 (hw _ (List.mem_of_getElem? (i := 131) rfl)) (hw _ (List.mem_of_getElem? (i := 132) rfl)) (hw _ (List.mem_of_getElem? (i := 134) rfl)) (hw _ (List.mem_of_getElem? (i := 103) rfl)) rfl (hw _ (List.mem_of_getElem? (i := 133) rfl)) (hw _ (List.mem_of_getElem? (i := 2) rfl)) (hw _ (List.mem_of_getElem? (i := 135) rfl)) (by decide) pd_2323304547 (argsL := []) rfl (rm_getDurability l Z a0 hw n0 h151 X.n0le b139 a_FORCE  F_b139_durability) (by rw [hml]; rfl) rfl (by decide) (leB rfl) (hb hby at_219) (by decide) (by decide) (fun T h154 v X hQ => ?_)
          obtain ⟨rfl, hh⟩ := hQ
          rw [hh] at X
          clear hh
          show Goes _ _ _ _ _ _ _ _ T (mkF m 222 #[.val (.int p0), .val (.int (0 : Int32)), .val (.int (1 : Int32)), .val (.int (1 : Int32)), .val (.int (0 : Int32)), .val (.ref b139), .val (.ref b143), .val (.ref b146), .val (.ref mu), .val (.int (1 : Int32)), .val (.ref b146), .val (.ref b146), .val (.ref a_FORCE)] [(.ref a_FORCE)])
          refine Goes.by (g' := (mkF m 224 #[.val (.int p0), .val (.int (0 : Int32)), .val (.int (1 : Int32)), .val (.int (1 : Int32)), .val (.int (0 : Int32)), .val (.ref b139), .val (.ref b143), .val (.ref b146), .val (.ref mu), .val (.int (1 : Int32)), .val (.ref b146), .val (.ref b146), .val (.ref a_FORCE)] [(.ref a_FORCE), (.ref a_FORCE)])) (fun _ q => XS.aload X.here X.hx rfl (hb hby at_222) rfl rfl q) ?_
          refine X.acmp rfl rfl (cd := .ne) (x := (.ref a_FORCE)) (y := (.ref a_FORCE)) (same := true) (pc' := 227) (hb hby at_224) (decide_eq_true rfl) (by decide) (by decide) ?_
          show Goes _ _ _ _ _ _ _ _ T (mkF m 227 #[.val (.int p0), .val (.int (0 : Int32)), .val (.int (1 : Int32)), .val (.int (1 : Int32)), .val (.int (0 : Int32)), .val (.ref b139), .val (.ref b143), .val (.ref b146), .val (.ref mu), .val (.int (1 : Int32)), .val (.ref b146), .val (.ref b146), .val (.ref a_FORCE)] [])
          refine Goes.by (g' := (mkF m 228 #[.val (.int p0), .val (.int (0 : Int32)), .val (.int (1 : Int32)), .val (.int (1 : Int32)), .val (.int (0 : Int32)), .val (.ref b139), .val (.ref b143), .val (.ref b146), .val (.ref mu), .val (.int (1 : Int32)), .val (.ref b146), .val (.ref b146), .val (.ref a_FORCE)] [(.int (1 : Int32))])) (fun _ q => XS.iconst X.here X.hx rfl (hb hby at_227) q) ?_
          refine Goes.by (g' := (mkF m 232 #[.val (.int p0), .val (.int (0 : Int32)), .val (.int (1 : Int32)), .val (.int (1 : Int32)), .val (.int (0 : Int32)), .val (.ref b139), .val (.ref b143), .val (.ref b146), .val (.ref mu), .val (.int (1 : Int32)), .val (.ref b146), .val (.ref b146), .val (.ref a_FORCE)] [(.int (1 : Int32))])) (fun _ q => XS.goto X.here X.hx rfl (pc0 := 228) (pc' := 232) rfl (hb hby at_228) (by decide) (by decide) q) ?_
          exact X.retZ hret (hb hby at_232) (by decide) (by decide) rfl
        · skip
          refine Goes.by (g' := (mkF m 43 #[.val (.int p0), .val (.int (0 : Int32)), .val (.int (1 : Int32)), .val (.int (1 : Int32)), .unset, .unset, .unset, .unset, .unset, .unset, .unset, .unset, .unset] [])) (fun _ q => XS.ifNo X.here X.hx rfl (hb hby at_40) rfl ((if0 _ _).trans (feq hB138).1) q) ?_
          refine Goes.by (g' := (mkF m 44 #[.val (.int p0), .val (.int (0 : Int32)), .val (.int (1 : Int32)), .val (.int (1 : Int32)), .unset, .unset, .unset, .unset, .unset, .unset, .unset, .unset, .unset] [(.int (1 : Int32))])) (fun _ q => XS.iconst X.here X.hx rfl (hb hby at_43) q) ?_
          refine Goes.by (g' := (mkF m 48 #[.val (.int p0), .val (.int (0 : Int32)), .val (.int (1 : Int32)), .val (.int (1 : Int32)), .unset, .unset, .unset, .unset, .unset, .unset, .unset, .unset, .unset] [(.int (1 : Int32))])) (fun _ q => XS.goto X.here X.hx rfl (pc0 := 44) (pc' := 48) rfl (hb hby at_44) (by decide) (by decide) q) ?_
          refine Goes.by (g' := (mkF m 50 #[.val (.int p0), .val (.int (0 : Int32)), .val (.int (1 : Int32)), .val (.int (1 : Int32)), .val (.int (1 : Int32)), .unset, .unset, .unset, .unset, .unset, .unset, .unset, .unset] [])) (fun _ q => XS.istore X.here X.hx rfl (hb hby at_48) rfl (l' := #[.val (.int p0), .val (.int (0 : Int32)), .val (.int (1 : Int32)), .val (.int (1 : Int32)), .val (.int (1 : Int32)), .unset, .unset, .unset, .unset, .unset, .unset, .unset, .unset]) rfl q) ?_
          refine X.newO (hw _ (List.mem_of_getElem? (i := 0) rfl)) (hw _ (List.mem_of_getElem? (i := 1) rfl)) (hw _ (List.mem_of_getElem? (i := 2) rfl)) (hb hby at_50) (by decide) (by decide) (fun T h156 b155 X g_b155 ga_b155 E E_b155 D_b155 => ?_)
          have O_ := O_.ext E
          have F_b155_mutations : Fld Z h156 b155 "com/example/hafiza/hafiza/StoreConfig" "mutations" "Lcom/example/hafiza/hafiza/Mutations;" .null := D_b155 (Or.inl (hw _ (List.mem_of_getElem? (i := 92) rfl))) (ty := (.object "com/example/hafiza/hafiza/Mutations")) (by decide)
          have F_b155_durability : Fld Z h156 b155 "com/example/hafiza/hafiza/StoreConfig" "durability" "Lcom/example/hafiza/hafiza/Durability;" .null := D_b155 (Or.inl (hw _ (List.mem_of_getElem? (i := 97) rfl))) (ty := (.object "com/example/hafiza/hafiza/Durability")) (by decide)
          have F_b155_allowCreate : Fld Z h156 b155 "com/example/hafiza/hafiza/StoreConfig" "allowCreate" "Z" (.int (0 : Int32)) := D_b155 (Or.inl (hw _ (List.mem_of_getElem? (i := 130) rfl))) (ty := .boolean) (by decide)
          show Goes _ _ _ _ _ _ _ _ T (mkF m 53 #[.val (.int p0), .val (.int (0 : Int32)), .val (.int (1 : Int32)), .val (.int (1 : Int32)), .val (.int (1 : Int32)), .unset, .unset, .unset, .unset, .unset, .unset, .unset, .unset] [(.ref b155)])
          refine Goes.by (g' := (mkF m 54 #[.val (.int p0), .val (.int (0 : Int32)), .val (.int (1 : Int32)), .val (.int (1 : Int32)), .val (.int (1 : Int32)), .unset, .unset, .unset, .unset, .unset, .unset, .unset, .unset] [(.ref b155), (.ref b155)])) (fun _ q => XS.dup X.here X.hx rfl (hb hby at_53) rfl rfl q) ?_
          have X_o := X
          refine X.callN rfl (hw _ (List.mem_of_getElem? (i := 3) rfl)) (hw _ (List.mem_of_getElem? (i := 4) rfl)) (hw _ (List.mem_of_getElem? (i := 2) rfl)) (hw _ (List.mem_of_getElem? (i := 5) rfl)) (by decide) pd_193421996 (argsL := []) rfl (rmSC l Z a0 hw n0 h156 X.n0le b155 ga_b155 E_b155 F_b155_mutations F_b155_durability F_b155_allowCreate a_WRITE S_WRITE O_) (by rw [hml]; rfl) rfl (by decide) (leB rfl) (hb hby at_54) (by decide) (by decide) (fun T h157 v X hQ => ?_)
          obtain ⟨rfl, K, mu, gz, E_mu, F_b155_mutations, F_b155_durability, F_b155_allowCreate⟩ := hQ
          have ga_mu : n0 ≤ mu := Nat.le_trans X_o.n0le gz
          have ne_b155_mu : b155 ≠ mu := Nat.ne_of_lt (Nat.lt_of_lt_of_le E_b155.lt gz)
          have O_ := O_.keep K (allS ga_b155 all0)
          have E_b155 := E_b155.keep K
          show Goes _ _ _ _ _ _ _ _ T (mkF m 57 #[.val (.int p0), .val (.int (0 : Int32)), .val (.int (1 : Int32)), .val (.int (1 : Int32)), .val (.int (1 : Int32)), .unset, .unset, .unset, .unset, .unset, .unset, .unset, .unset] [(.ref b155)])
          refine Goes.by (g' := (mkF m 59 #[.val (.int p0), .val (.int (0 : Int32)), .val (.int (1 : Int32)), .val (.int (1 : Int32)), .val (.int (1 : Int32)), .val (.ref b155), .unset, .unset, .unset, .unset, .unset, .unset, .unset] [])) (fun _ q => XS.astore X.here X.hx rfl (hb hby at_57) rfl rfl (l' := #[.val (.int p0), .val (.int (0 : Int32)), .val (.int (1 : Int32)), .val (.int (1 : Int32)), .val (.int (1 : Int32)), .val (.ref b155), .unset, .unset, .unset, .unset, .unset, .unset, .unset]) rfl q) ?_
          refine Goes.by (g' := (mkF m 60 #[.val (.int p0), .val (.int (0 : Int32)), .val (.int (1 : Int32)), .val (.int (1 : Int32)), .val (.int (1 : Int32)), .val (.ref b155), .unset, .unset, .unset, .unset, .unset, .unset, .unset] [(.int (0 : Int32))])) (fun _ q => XS.iloadN X.here X.hx rfl (hb hby at_59) rfl q) ?_
          refine Goes.by (g' := (mkF m 69 #[.val (.int p0), .val (.int (0 : Int32)), .val (.int (1 : Int32)), .val (.int (1 : Int32)), .val (.int (1 : Int32)), .val (.ref b155), .unset, .unset, .unset, .unset, .unset, .unset, .unset] [])) (fun _ q => XS.ifYes X.here X.hx rfl (pc0 := 60) (pc' := 69) rfl (hb hby at_60) rfl ((if0 _ _).trans (teq (show (0 : Int32) = (0 : Int32) from (by decide))).1) (by decide) (by decide) q) ?_
          refine Goes.by (g' := (mkF m 70 #[.val (.int p0), .val (.int (0 : Int32)), .val (.int (1 : Int32)), .val (.int (1 : Int32)), .val (.int (1 : Int32)), .val (.ref b155), .unset, .unset, .unset, .unset, .unset, .unset, .unset] [(.int (1 : Int32))])) (fun _ q => XS.iloadN X.here X.hx rfl (hb hby at_69) rfl q) ?_
          refine Goes.by (g' := (mkF m 73 #[.val (.int p0), .val (.int (0 : Int32)), .val (.int (1 : Int32)), .val (.int (1 : Int32)), .val (.int (1 : Int32)), .val (.ref b155), .unset, .unset, .unset, .unset, .unset, .unset, .unset] [])) (fun _ q => XS.ifNo X.here X.hx rfl (hb hby at_70) rfl ((if0 _ _).trans (feq (show ¬ (1 : Int32) = (0 : Int32) from (by decide))).1) q) ?_
          refine Goes.by (g' := (mkF m 75 #[.val (.int p0), .val (.int (0 : Int32)), .val (.int (1 : Int32)), .val (.int (1 : Int32)), .val (.int (1 : Int32)), .val (.ref b155), .unset, .unset, .unset, .unset, .unset, .unset, .unset] [(.ref b155)])) (fun _ q => XS.aload X.here X.hx rfl (hb hby at_73) rfl rfl q) ?_
          refine X.getS (Or.inl (hw _ (List.mem_of_getElem? (i := 141) rfl))) (host := "") Via.refl (S_FORCE.ext O_.2) (hb hby at_75) (fun T X => ?_)
          show Goes _ _ _ _ _ _ _ _ T (mkF m 78 #[.val (.int p0), .val (.int (0 : Int32)), .val (.int (1 : Int32)), .val (.int (1 : Int32)), .val (.int (1 : Int32)), .val (.ref b155), .unset, .unset, .unset, .unset, .unset, .unset, .unset] [(.ref a_FORCE), (.ref b155)])
          have X_o := X
          refine X.callV E_b155 (hw _ (List.mem_of_getElem? (i := 143) rfl)) (hw _ (List.mem_of_getElem? (i := 144) rfl)) (hw _ (List.mem_of_getElem? (i := 146) rfl)) (hw _ (List.mem_of_getElem? (i := 103) rfl)) rfl (hw _ (List.mem_of_getElem? (i := 145) rfl)) (hw _ (List.mem_of_getElem? (i := 2) rfl)) (hw _ (List.mem_of_getElem? (i := 147) rfl)) (by decide) pd_2427134969 (argsL := [(.ref a_FORCE)]) rfl (rm_setDurability l Z a0 hw n0 h157 X.n0le b155 a_FORCE (.ref a_WRITE) ga_b155 E_b155 (E_FORCE.ext O_.2) F_b155_durability (.ref mu) F_b155_mutations (.int (0 : Int32)) F_b155_allowCreate) (by rw [hml]; rfl) rfl (by decide) (leB rfl) (hb hby at_78) (by decide) (by decide) (fun T h158 v X hQ => ?_)
          obtain ⟨rfl, K, F_b155_durability, F_b155_mutations, F_b155_allowCreate⟩ := hQ
          have O_ := O_.keep K (allS ga_b155 all0)
          have E_b155 := E_b155.keep K
          have E_mu := E_mu.keep K
          show Goes _ _ _ _ _ _ _ _ T (mkF m 81 #[.val (.int p0), .val (.int (0 : Int32)), .val (.int (1 : Int32)), .val (.int (1 : Int32)), .val (.int (1 : Int32)), .val (.ref b155), .unset, .unset, .unset, .unset, .unset, .unset, .unset] [])
          refine X.newO (hw _ (List.mem_of_getElem? (i := 98) rfl)) (hw _ (List.mem_of_getElem? (i := 10) rfl)) (hw _ (List.mem_of_getElem? (i := 11) rfl)) (hb hby at_81) (by decide) (by decide) (fun T h160 b159 X g_b159 ga_b159 E E_b159 D_b159 => ?_)
          have ne_b155_b159 : b155 ≠ b159 := by rw [g_b159]; exact Nat.ne_of_lt E_b155.lt
          have ne_mu_b159 : mu ≠ b159 := by rw [g_b159]; exact Nat.ne_of_lt E_mu.lt
          have O_ := O_.ext E
          have E_b155 := E_b155.ext E
          have E_mu := E_mu.ext E
          have F_b155_durability := F_b155_durability.ext E
          have F_b155_mutations := F_b155_mutations.ext E
          have F_b155_allowCreate := F_b155_allowCreate.ext E
          have F_b159_renamers : Fld Z h160 b159 "com/example/hafiza/hafiza/Mutations" "renamers" "Ljava/util/Set;" .null := D_b159 (Or.inr (hw _ (List.mem_of_getElem? (i := 86) rfl))) (ty := (.object "java/util/Set")) (by decide)
          have F_b159_deleters : Fld Z h160 b159 "com/example/hafiza/hafiza/Mutations" "deleters" "Ljava/util/Set;" .null := D_b159 (Or.inr (hw _ (List.mem_of_getElem? (i := 88) rfl))) (ty := (.object "java/util/Set")) (by decide)
          have F_b159_converters : Fld Z h160 b159 "com/example/hafiza/hafiza/Mutations" "converters" "Ljava/util/Set;" .null := D_b159 (Or.inr (hw _ (List.mem_of_getElem? (i := 90) rfl))) (ty := (.object "java/util/Set")) (by decide)
          show Goes _ _ _ _ _ _ _ _ T (mkF m 84 #[.val (.int p0), .val (.int (0 : Int32)), .val (.int (1 : Int32)), .val (.int (1 : Int32)), .val (.int (1 : Int32)), .val (.ref b155), .unset, .unset, .unset, .unset, .unset, .unset, .unset] [(.ref b159)])
          refine Goes.by (g' := (mkF m 85 #[.val (.int p0), .val (.int (0 : Int32)), .val (.int (1 : Int32)), .val (.int (1 : Int32)), .val (.int (1 : Int32)), .val (.ref b155), .unset, .unset, .unset, .unset, .unset, .unset, .unset] [(.ref b159), (.ref b159)])) (fun _ q => XS.dup X.here X.hx rfl (hb hby at_84) rfl rfl q) ?_
          have X_o := X
          refine X.callN rfl (hw _ (List.mem_of_getElem? (i := 99) rfl)) (hw _ (List.mem_of_getElem? (i := 13) rfl)) (hw _ (List.mem_of_getElem? (i := 11) rfl)) (hw _ (List.mem_of_getElem? (i := 14) rfl)) (by decide) pd_193421996 (argsL := []) rfl (rmMU l Z a0 hw n0 h160 X.n0le b159 ga_b159 E_b159 F_b159_renamers F_b159_deleters F_b159_converters) (by rw [hml]; rfl) rfl (by decide) (leB rfl) (hb hby at_85) (by decide) (by decide) (fun T h161 v X hQ => ?_)
          obtain ⟨rfl, K⟩ := hQ
          have O_ := O_.keep K (allS ga_b159 all0)
          have E_b155 := E_b155.keep K
          have E_mu := E_mu.keep K
          have F_b155_durability := F_b155_durability.keep K (ninS ne_b155_b159 nin0)
          have F_b155_mutations := F_b155_mutations.keep K (ninS ne_b155_b159 nin0)
          have F_b155_allowCreate := F_b155_allowCreate.keep K (ninS ne_b155_b159 nin0)
          have E_b159 := E_b159.keep K
          show Goes _ _ _ _ _ _ _ _ T (mkF m 88 #[.val (.int p0), .val (.int (0 : Int32)), .val (.int (1 : Int32)), .val (.int (1 : Int32)), .val (.int (1 : Int32)), .val (.ref b155), .unset, .unset, .unset, .unset, .unset, .unset, .unset] [(.ref b159)])
          refine Goes.by (g' := (mkF m 90 #[.val (.int p0), .val (.int (0 : Int32)), .val (.int (1 : Int32)), .val (.int (1 : Int32)), .val (.int (1 : Int32)), .val (.ref b155), .val (.ref b159), .unset, .unset, .unset, .unset, .unset, .unset] [])) (fun _ q => XS.astore X.here X.hx rfl (hb hby at_88) rfl rfl (l' := #[.val (.int p0), .val (.int (0 : Int32)), .val (.int (1 : Int32)), .val (.int (1 : Int32)), .val (.int (1 : Int32)), .val (.ref b155), .val (.ref b159), .unset, .unset, .unset, .unset, .unset, .unset]) rfl q) ?_
          refine X.newO (hw _ (List.mem_of_getElem? (i := 98) rfl)) (hw _ (List.mem_of_getElem? (i := 10) rfl)) (hw _ (List.mem_of_getElem? (i := 11) rfl)) (hb hby at_90) (by decide) (by decide) (fun T h163 b162 X g_b162 ga_b162 E E_b162 D_b162 => ?_)
          have ne_b155_b162 : b155 ≠ b162 := by rw [g_b162]; exact Nat.ne_of_lt E_b155.lt
          have ne_mu_b162 : mu ≠ b162 := by rw [g_b162]; exact Nat.ne_of_lt E_mu.lt
          have ne_b159_b162 : b159 ≠ b162 := by rw [g_b162]; exact Nat.ne_of_lt E_b159.lt
          have O_ := O_.ext E
          have E_b155 := E_b155.ext E
          have E_mu := E_mu.ext E
          have F_b155_durability := F_b155_durability.ext E
          have F_b155_mutations := F_b155_mutations.ext E
          have F_b155_allowCreate := F_b155_allowCreate.ext E
          have E_b159 := E_b159.ext E
          have F_b162_renamers : Fld Z h163 b162 "com/example/hafiza/hafiza/Mutations" "renamers" "Ljava/util/Set;" .null := D_b162 (Or.inr (hw _ (List.mem_of_getElem? (i := 86) rfl))) (ty := (.object "java/util/Set")) (by decide)
          have F_b162_deleters : Fld Z h163 b162 "com/example/hafiza/hafiza/Mutations" "deleters" "Ljava/util/Set;" .null := D_b162 (Or.inr (hw _ (List.mem_of_getElem? (i := 88) rfl))) (ty := (.object "java/util/Set")) (by decide)
          have F_b162_converters : Fld Z h163 b162 "com/example/hafiza/hafiza/Mutations" "converters" "Ljava/util/Set;" .null := D_b162 (Or.inr (hw _ (List.mem_of_getElem? (i := 90) rfl))) (ty := (.object "java/util/Set")) (by decide)
          show Goes _ _ _ _ _ _ _ _ T (mkF m 93 #[.val (.int p0), .val (.int (0 : Int32)), .val (.int (1 : Int32)), .val (.int (1 : Int32)), .val (.int (1 : Int32)), .val (.ref b155), .val (.ref b159), .unset, .unset, .unset, .unset, .unset, .unset] [(.ref b162)])
          refine Goes.by (g' := (mkF m 94 #[.val (.int p0), .val (.int (0 : Int32)), .val (.int (1 : Int32)), .val (.int (1 : Int32)), .val (.int (1 : Int32)), .val (.ref b155), .val (.ref b159), .unset, .unset, .unset, .unset, .unset, .unset] [(.ref b162), (.ref b162)])) (fun _ q => XS.dup X.here X.hx rfl (hb hby at_93) rfl rfl q) ?_
          have X_o := X
          refine X.callN rfl (hw _ (List.mem_of_getElem? (i := 99) rfl)) (hw _ (List.mem_of_getElem? (i := 13) rfl)) (hw _ (List.mem_of_getElem? (i := 11) rfl)) (hw _ (List.mem_of_getElem? (i := 14) rfl)) (by decide) pd_193421996 (argsL := []) rfl (rmMU l Z a0 hw n0 h163 X.n0le b162 ga_b162 E_b162 F_b162_renamers F_b162_deleters F_b162_converters) (by rw [hml]; rfl) rfl (by decide) (leB rfl) (hb hby at_94) (by decide) (by decide) (fun T h164 v X hQ => ?_)
          obtain ⟨rfl, K⟩ := hQ
          have O_ := O_.keep K (allS ga_b162 all0)
          have E_b155 := E_b155.keep K
          have E_mu := E_mu.keep K
          have F_b155_durability := F_b155_durability.keep K (ninS ne_b155_b162 nin0)
          have F_b155_mutations := F_b155_mutations.keep K (ninS ne_b155_b162 nin0)
          have F_b155_allowCreate := F_b155_allowCreate.keep K (ninS ne_b155_b162 nin0)
          have E_b159 := E_b159.keep K
          have E_b162 := E_b162.keep K
          show Goes _ _ _ _ _ _ _ _ T (mkF m 97 #[.val (.int p0), .val (.int (0 : Int32)), .val (.int (1 : Int32)), .val (.int (1 : Int32)), .val (.int (1 : Int32)), .val (.ref b155), .val (.ref b159), .unset, .unset, .unset, .unset, .unset, .unset] [(.ref b162)])
          refine Goes.by (g' := (mkF m 99 #[.val (.int p0), .val (.int (0 : Int32)), .val (.int (1 : Int32)), .val (.int (1 : Int32)), .val (.int (1 : Int32)), .val (.ref b155), .val (.ref b159), .val (.ref b162), .unset, .unset, .unset, .unset, .unset] [])) (fun _ q => XS.astore X.here X.hx rfl (hb hby at_97) rfl rfl (l' := #[.val (.int p0), .val (.int (0 : Int32)), .val (.int (1 : Int32)), .val (.int (1 : Int32)), .val (.int (1 : Int32)), .val (.ref b155), .val (.ref b159), .val (.ref b162), .unset, .unset, .unset, .unset, .unset]) rfl q) ?_
          refine Goes.by (g' := (mkF m 101 #[.val (.int p0), .val (.int (0 : Int32)), .val (.int (1 : Int32)), .val (.int (1 : Int32)), .val (.int (1 : Int32)), .val (.ref b155), .val (.ref b159), .val (.ref b162), .unset, .unset, .unset, .unset, .unset] [(.ref b155)])) (fun _ q => XS.aload X.here X.hx rfl (hb hby at_99) rfl rfl q) ?_
          have X_o := X
          refine X.callV E_b155 (hw _ (List.mem_of_getElem? (i := 100) rfl)) (hw _ (List.mem_of_getElem? (i := 101) rfl)) (hw _ (List.mem_of_getElem? (i := 103) rfl)) (hw _ (List.mem_of_getElem? (i := 103) rfl)) rfl (hw _ (List.mem_of_getElem? (i := 102) rfl)) (hw _ (List.mem_of_getElem? (i := 2) rfl)) (hw _ (List.mem_of_getElem? (i := 104) rfl)) (by decide) pd_2544813166 (argsL := []) rfl (rm_getMutations l Z a0 hw n0 h164 X.n0le b155 mu  F_b155_mutations) (by rw [hml]; rfl) rfl (by decide) (leB rfl) (hb hby at_101) (by decide) (by decide) (fun T h165 v X hQ => ?_)
          obtain ⟨rfl, hh⟩ := hQ
          rw [hh] at X
          clear hh
          show Goes _ _ _ _ _ _ _ _ T (mkF m 104 #[.val (.int p0), .val (.int (0 : Int32)), .val (.int (1 : Int32)), .val (.int (1 : Int32)), .val (.int (1 : Int32)), .val (.ref b155), .val (.ref b159), .val (.ref b162), .unset, .unset, .unset, .unset, .unset] [(.ref mu)])
          refine Goes.by (g' := (mkF m 106 #[.val (.int p0), .val (.int (0 : Int32)), .val (.int (1 : Int32)), .val (.int (1 : Int32)), .val (.int (1 : Int32)), .val (.ref b155), .val (.ref b159), .val (.ref b162), .val (.ref mu), .unset, .unset, .unset, .unset] [])) (fun _ q => XS.astore X.here X.hx rfl (hb hby at_104) rfl rfl (l' := #[.val (.int p0), .val (.int (0 : Int32)), .val (.int (1 : Int32)), .val (.int (1 : Int32)), .val (.int (1 : Int32)), .val (.ref b155), .val (.ref b159), .val (.ref b162), .val (.ref mu), .unset, .unset, .unset, .unset]) rfl q) ?_
          refine Goes.by (g' := (mkF m 108 #[.val (.int p0), .val (.int (0 : Int32)), .val (.int (1 : Int32)), .val (.int (1 : Int32)), .val (.int (1 : Int32)), .val (.ref b155), .val (.ref b159), .val (.ref b162), .val (.ref mu), .unset, .unset, .unset, .unset] [(.ref mu)])) (fun _ q => XS.aload X.here X.hx rfl (hb hby at_106) rfl rfl q) ?_
          refine Goes.by (g' := (mkF m 111 #[.val (.int p0), .val (.int (0 : Int32)), .val (.int (1 : Int32)), .val (.int (1 : Int32)), .val (.int (1 : Int32)), .val (.ref b155), .val (.ref b159), .val (.ref b162), .val (.ref mu), .unset, .unset, .unset, .unset] [])) (fun _ q => XS.ifnullNo X.here X.hx rfl (hb hby at_108) rfl q) ?_
          refine Goes.by (g' := (mkF m 113 #[.val (.int p0), .val (.int (0 : Int32)), .val (.int (1 : Int32)), .val (.int (1 : Int32)), .val (.int (1 : Int32)), .val (.ref b155), .val (.ref b159), .val (.ref b162), .val (.ref mu), .unset, .unset, .unset, .unset] [(.ref mu)])) (fun _ q => XS.aload X.here X.hx rfl (hb hby at_111) rfl rfl q) ?_
          refine Goes.by (g' := (mkF m 115 #[.val (.int p0), .val (.int (0 : Int32)), .val (.int (1 : Int32)), .val (.int (1 : Int32)), .val (.int (1 : Int32)), .val (.ref b155), .val (.ref b159), .val (.ref b162), .val (.ref mu), .unset, .unset, .unset, .unset] [(.ref b159), (.ref mu)])) (fun _ q => XS.aload X.here X.hx rfl (hb hby at_113) rfl rfl q) ?_
          refine X.acmp rfl rfl (cd := .eq) (x := (.ref mu)) (y := (.ref b159)) (same := false) (pc' := 118) (hb hby at_115) (decide_eq_false fun q => ne_mu_b159 (Value.ref.inj q)) (by decide) (by decide) ?_
          show Goes _ _ _ _ _ _ _ _ T (mkF m 118 #[.val (.int p0), .val (.int (0 : Int32)), .val (.int (1 : Int32)), .val (.int (1 : Int32)), .val (.int (1 : Int32)), .val (.ref b155), .val (.ref b159), .val (.ref b162), .val (.ref mu), .unset, .unset, .unset, .unset] [])
          refine Goes.by (g' := (mkF m 120 #[.val (.int p0), .val (.int (0 : Int32)), .val (.int (1 : Int32)), .val (.int (1 : Int32)), .val (.int (1 : Int32)), .val (.ref b155), .val (.ref b159), .val (.ref b162), .val (.ref mu), .unset, .unset, .unset, .unset] [(.ref mu)])) (fun _ q => XS.aload X.here X.hx rfl (hb hby at_118) rfl rfl q) ?_
          refine Goes.by (g' := (mkF m 122 #[.val (.int p0), .val (.int (0 : Int32)), .val (.int (1 : Int32)), .val (.int (1 : Int32)), .val (.int (1 : Int32)), .val (.ref b155), .val (.ref b159), .val (.ref b162), .val (.ref mu), .unset, .unset, .unset, .unset] [(.ref b162), (.ref mu)])) (fun _ q => XS.aload X.here X.hx rfl (hb hby at_120) rfl rfl q) ?_
          refine X.acmp rfl rfl (cd := .eq) (x := (.ref mu)) (y := (.ref b162)) (same := false) (pc' := 125) (hb hby at_122) (decide_eq_false fun q => ne_mu_b162 (Value.ref.inj q)) (by decide) (by decide) ?_
          show Goes _ _ _ _ _ _ _ _ T (mkF m 125 #[.val (.int p0), .val (.int (0 : Int32)), .val (.int (1 : Int32)), .val (.int (1 : Int32)), .val (.int (1 : Int32)), .val (.ref b155), .val (.ref b159), .val (.ref b162), .val (.ref mu), .unset, .unset, .unset, .unset] [])
          refine Goes.by (g' := (mkF m 126 #[.val (.int p0), .val (.int (0 : Int32)), .val (.int (1 : Int32)), .val (.int (1 : Int32)), .val (.int (1 : Int32)), .val (.ref b155), .val (.ref b159), .val (.ref b162), .val (.ref mu), .unset, .unset, .unset, .unset] [(.int (1 : Int32))])) (fun _ q => XS.iconst X.here X.hx rfl (hb hby at_125) q) ?_
          refine Goes.by (g' := (mkF m 130 #[.val (.int p0), .val (.int (0 : Int32)), .val (.int (1 : Int32)), .val (.int (1 : Int32)), .val (.int (1 : Int32)), .val (.ref b155), .val (.ref b159), .val (.ref b162), .val (.ref mu), .unset, .unset, .unset, .unset] [(.int (1 : Int32))])) (fun _ q => XS.goto X.here X.hx rfl (pc0 := 126) (pc' := 130) rfl (hb hby at_126) (by decide) (by decide) q) ?_
          refine Goes.by (g' := (mkF m 132 #[.val (.int p0), .val (.int (0 : Int32)), .val (.int (1 : Int32)), .val (.int (1 : Int32)), .val (.int (1 : Int32)), .val (.ref b155), .val (.ref b159), .val (.ref b162), .val (.ref mu), .val (.int (1 : Int32)), .unset, .unset, .unset] [])) (fun _ q => XS.istore X.here X.hx rfl (hb hby at_130) rfl (l' := #[.val (.int p0), .val (.int (0 : Int32)), .val (.int (1 : Int32)), .val (.int (1 : Int32)), .val (.int (1 : Int32)), .val (.ref b155), .val (.ref b159), .val (.ref b162), .val (.ref mu), .val (.int (1 : Int32)), .unset, .unset, .unset]) rfl q) ?_
          refine Goes.by (g' := (mkF m 133 #[.val (.int p0), .val (.int (0 : Int32)), .val (.int (1 : Int32)), .val (.int (1 : Int32)), .val (.int (1 : Int32)), .val (.ref b155), .val (.ref b159), .val (.ref b162), .val (.ref mu), .val (.int (1 : Int32)), .unset, .unset, .unset] [(.int (1 : Int32))])) (fun _ q => XS.iloadN X.here X.hx rfl (hb hby at_132) rfl q) ?_
          refine Goes.by (g' := (mkF m 136 #[.val (.int p0), .val (.int (0 : Int32)), .val (.int (1 : Int32)), .val (.int (1 : Int32)), .val (.int (1 : Int32)), .val (.ref b155), .val (.ref b159), .val (.ref b162), .val (.ref mu), .val (.int (1 : Int32)), .unset, .unset, .unset] [])) (fun _ q => XS.ifNo X.here X.hx rfl (hb hby at_133) rfl ((if0 _ _).trans (feq (show ¬ (1 : Int32) = (0 : Int32) from (by decide))).1) q) ?_
          refine Goes.by (g' := (mkF m 138 #[.val (.int p0), .val (.int (0 : Int32)), .val (.int (1 : Int32)), .val (.int (1 : Int32)), .val (.int (1 : Int32)), .val (.ref b155), .val (.ref b159), .val (.ref b162), .val (.ref mu), .val (.int (1 : Int32)), .unset, .unset, .unset] [(.ref b155)])) (fun _ q => XS.aload X.here X.hx rfl (hb hby at_136) rfl rfl q) ?_
          refine Goes.by (g' := (mkF m 140 #[.val (.int p0), .val (.int (0 : Int32)), .val (.int (1 : Int32)), .val (.int (1 : Int32)), .val (.int (1 : Int32)), .val (.ref b155), .val (.ref b159), .val (.ref b162), .val (.ref mu), .val (.int (1 : Int32)), .unset, .unset, .unset] [(.int (1 : Int32)), (.ref b155)])) (fun _ q => XS.iload X.here X.hx rfl (hb hby at_138) rfl q) ?_
          refine Goes.by (g' := (mkF m 143 #[.val (.int p0), .val (.int (0 : Int32)), .val (.int (1 : Int32)), .val (.int (1 : Int32)), .val (.int (1 : Int32)), .val (.ref b155), .val (.ref b159), .val (.ref b162), .val (.ref mu), .val (.int (1 : Int32)), .unset, .unset, .unset] [(.ref b155)])) (fun _ q => XS.ifNo X.here X.hx rfl (hb hby at_140) rfl ((if0 _ _).trans (feq (show ¬ (1 : Int32) = (0 : Int32) from (by decide))).1) q) ?_
          refine Goes.by (g' := (mkF m 145 #[.val (.int p0), .val (.int (0 : Int32)), .val (.int (1 : Int32)), .val (.int (1 : Int32)), .val (.int (1 : Int32)), .val (.ref b155), .val (.ref b159), .val (.ref b162), .val (.ref mu), .val (.int (1 : Int32)), .unset, .unset, .unset] [(.ref b162), (.ref b155)])) (fun _ q => XS.aload X.here X.hx rfl (hb hby at_143) rfl rfl q) ?_
          refine Goes.by (g' := (mkF m 150 #[.val (.int p0), .val (.int (0 : Int32)), .val (.int (1 : Int32)), .val (.int (1 : Int32)), .val (.int (1 : Int32)), .val (.ref b155), .val (.ref b159), .val (.ref b162), .val (.ref mu), .val (.int (1 : Int32)), .unset, .unset, .unset] [(.ref b162), (.ref b155)])) (fun _ q => XS.goto X.here X.hx rfl (pc0 := 145) (pc' := 150) rfl (hb hby at_145) (by decide) (by decide) q) ?_
          have X_o := X
          refine X.callV E_b155 (hw _ (List.mem_of_getElem? (i := 105) rfl)) (hw _ (List.mem_of_getElem? (i := 106) rfl)) (hw _ (List.mem_of_getElem? (i := 108) rfl)) (hw _ (List.mem_of_getElem? (i := 103) rfl)) rfl (hw _ (List.mem_of_getElem? (i := 107) rfl)) (hw _ (List.mem_of_getElem? (i := 2) rfl)) (hw _ (List.mem_of_getElem? (i := 109) rfl)) (by decide) pd_2932898788 (argsL := [(.ref b162)]) rfl (rm_setMutations l Z a0 hw n0 h164 X.n0le b155 b162 (.ref mu) ga_b155 E_b155 E_b162 F_b155_mutations (.ref a_FORCE) F_b155_durability (.int (0 : Int32)) F_b155_allowCreate) (by rw [hml]; rfl) rfl (by decide) (leB rfl) (hb hby at_150) (by decide) (by decide) (fun T h166 v X hQ => ?_)
          obtain ⟨rfl, K, F_b155_mutations, F_b155_durability, F_b155_allowCreate⟩ := hQ
          have O_ := O_.keep K (allS ga_b155 all0)
          have E_b155 := E_b155.keep K
          have E_mu := E_mu.keep K
          have E_b159 := E_b159.keep K
          have E_b162 := E_b162.keep K
          show Goes _ _ _ _ _ _ _ _ T (mkF m 153 #[.val (.int p0), .val (.int (0 : Int32)), .val (.int (1 : Int32)), .val (.int (1 : Int32)), .val (.int (1 : Int32)), .val (.ref b155), .val (.ref b159), .val (.ref b162), .val (.ref mu), .val (.int (1 : Int32)), .unset, .unset, .unset] [])
          refine Goes.by (g' := (mkF m 155 #[.val (.int p0), .val (.int (0 : Int32)), .val (.int (1 : Int32)), .val (.int (1 : Int32)), .val (.int (1 : Int32)), .val (.ref b155), .val (.ref b159), .val (.ref b162), .val (.ref mu), .val (.int (1 : Int32)), .unset, .unset, .unset] [(.int (1 : Int32))])) (fun _ q => XS.iload X.here X.hx rfl (hb hby at_153) rfl q) ?_
          refine Goes.by (g' := (mkF m 158 #[.val (.int p0), .val (.int (0 : Int32)), .val (.int (1 : Int32)), .val (.int (1 : Int32)), .val (.int (1 : Int32)), .val (.ref b155), .val (.ref b159), .val (.ref b162), .val (.ref mu), .val (.int (1 : Int32)), .unset, .unset, .unset] [])) (fun _ q => XS.ifNo X.here X.hx rfl (hb hby at_155) rfl ((if0 _ _).trans (feq (show ¬ (1 : Int32) = (0 : Int32) from (by decide))).1) q) ?_
          refine Goes.by (g' := (mkF m 160 #[.val (.int p0), .val (.int (0 : Int32)), .val (.int (1 : Int32)), .val (.int (1 : Int32)), .val (.int (1 : Int32)), .val (.ref b155), .val (.ref b159), .val (.ref b162), .val (.ref mu), .val (.int (1 : Int32)), .unset, .unset, .unset] [(.ref b159)])) (fun _ q => XS.aload X.here X.hx rfl (hb hby at_158) rfl rfl q) ?_
          refine Goes.by (g' := (mkF m 165 #[.val (.int p0), .val (.int (0 : Int32)), .val (.int (1 : Int32)), .val (.int (1 : Int32)), .val (.int (1 : Int32)), .val (.ref b155), .val (.ref b159), .val (.ref b162), .val (.ref mu), .val (.int (1 : Int32)), .unset, .unset, .unset] [(.ref b159)])) (fun _ q => XS.goto X.here X.hx rfl (pc0 := 160) (pc' := 165) rfl (hb hby at_160) (by decide) (by decide) q) ?_
          refine Goes.by (g' := (mkF m 167 #[.val (.int p0), .val (.int (0 : Int32)), .val (.int (1 : Int32)), .val (.int (1 : Int32)), .val (.int (1 : Int32)), .val (.ref b155), .val (.ref b159), .val (.ref b162), .val (.ref mu), .val (.int (1 : Int32)), .val (.ref b159), .unset, .unset] [])) (fun _ q => XS.astore X.here X.hx rfl (hb hby at_165) rfl rfl (l' := #[.val (.int p0), .val (.int (0 : Int32)), .val (.int (1 : Int32)), .val (.int (1 : Int32)), .val (.int (1 : Int32)), .val (.ref b155), .val (.ref b159), .val (.ref b162), .val (.ref mu), .val (.int (1 : Int32)), .val (.ref b159), .unset, .unset]) rfl q) ?_
          refine Goes.by (g' := (mkF m 169 #[.val (.int p0), .val (.int (0 : Int32)), .val (.int (1 : Int32)), .val (.int (1 : Int32)), .val (.int (1 : Int32)), .val (.ref b155), .val (.ref b159), .val (.ref b162), .val (.ref mu), .val (.int (1 : Int32)), .val (.ref b159), .unset, .unset] [(.ref b155)])) (fun _ q => XS.aload X.here X.hx rfl (hb hby at_167) rfl rfl q) ?_
          refine Goes.by (g' := (mkF m 171 #[.val (.int p0), .val (.int (0 : Int32)), .val (.int (1 : Int32)), .val (.int (1 : Int32)), .val (.int (1 : Int32)), .val (.ref b155), .val (.ref b159), .val (.ref b162), .val (.ref mu), .val (.int (1 : Int32)), .val (.ref b159), .unset, .unset] [(.ref b159), (.ref b155)])) (fun _ q => XS.aload X.here X.hx rfl (hb hby at_169) rfl rfl q) ?_
          have X_o := X
          refine X.callV E_b155 (hw _ (List.mem_of_getElem? (i := 105) rfl)) (hw _ (List.mem_of_getElem? (i := 106) rfl)) (hw _ (List.mem_of_getElem? (i := 108) rfl)) (hw _ (List.mem_of_getElem? (i := 103) rfl)) rfl (hw _ (List.mem_of_getElem? (i := 107) rfl)) (hw _ (List.mem_of_getElem? (i := 2) rfl)) (hw _ (List.mem_of_getElem? (i := 109) rfl)) (by decide) pd_2932898788 (argsL := [(.ref b159)]) rfl (rm_setMutations l Z a0 hw n0 h166 X.n0le b155 b159 (.ref b162) ga_b155 E_b155 E_b159 F_b155_mutations (.ref a_FORCE) F_b155_durability (.int (0 : Int32)) F_b155_allowCreate) (by rw [hml]; rfl) rfl (by decide) (leB rfl) (hb hby at_171) (by decide) (by decide) (fun T h167 v X hQ => ?_)
          obtain ⟨rfl, K, F_b155_mutations, F_b155_durability, F_b155_allowCreate⟩ := hQ
          have O_ := O_.keep K (allS ga_b155 all0)
          have E_b155 := E_b155.keep K
          have E_mu := E_mu.keep K
          have E_b159 := E_b159.keep K
          have E_b162 := E_b162.keep K
          show Goes _ _ _ _ _ _ _ _ T (mkF m 174 #[.val (.int p0), .val (.int (0 : Int32)), .val (.int (1 : Int32)), .val (.int (1 : Int32)), .val (.int (1 : Int32)), .val (.ref b155), .val (.ref b159), .val (.ref b162), .val (.ref mu), .val (.int (1 : Int32)), .val (.ref b159), .unset, .unset] [])
          refine Goes.by (g' := (mkF m 176 #[.val (.int p0), .val (.int (0 : Int32)), .val (.int (1 : Int32)), .val (.int (1 : Int32)), .val (.int (1 : Int32)), .val (.ref b155), .val (.ref b159), .val (.ref b162), .val (.ref mu), .val (.int (1 : Int32)), .val (.ref b159), .unset, .unset] [(.ref b155)])) (fun _ q => XS.aload X.here X.hx rfl (hb hby at_174) rfl rfl q) ?_
          have X_o := X
          refine X.callV E_b155 (hw _ (List.mem_of_getElem? (i := 100) rfl)) (hw _ (List.mem_of_getElem? (i := 101) rfl)) (hw _ (List.mem_of_getElem? (i := 103) rfl)) (hw _ (List.mem_of_getElem? (i := 103) rfl)) rfl (hw _ (List.mem_of_getElem? (i := 102) rfl)) (hw _ (List.mem_of_getElem? (i := 2) rfl)) (hw _ (List.mem_of_getElem? (i := 104) rfl)) (by decide) pd_2544813166 (argsL := []) rfl (rm_getMutations l Z a0 hw n0 h167 X.n0le b155 b159  F_b155_mutations) (by rw [hml]; rfl) rfl (by decide) (leB rfl) (hb hby at_176) (by decide) (by decide) (fun T h168 v X hQ => ?_)
          obtain ⟨rfl, hh⟩ := hQ
          rw [hh] at X
          clear hh
          show Goes _ _ _ _ _ _ _ _ T (mkF m 179 #[.val (.int p0), .val (.int (0 : Int32)), .val (.int (1 : Int32)), .val (.int (1 : Int32)), .val (.int (1 : Int32)), .val (.ref b155), .val (.ref b159), .val (.ref b162), .val (.ref mu), .val (.int (1 : Int32)), .val (.ref b159), .unset, .unset] [(.ref b159)])
          refine Goes.by (g' := (mkF m 181 #[.val (.int p0), .val (.int (0 : Int32)), .val (.int (1 : Int32)), .val (.int (1 : Int32)), .val (.int (1 : Int32)), .val (.ref b155), .val (.ref b159), .val (.ref b162), .val (.ref mu), .val (.int (1 : Int32)), .val (.ref b159), .val (.ref b159), .unset] [])) (fun _ q => XS.astore X.here X.hx rfl (hb hby at_179) rfl rfl (l' := #[.val (.int p0), .val (.int (0 : Int32)), .val (.int (1 : Int32)), .val (.int (1 : Int32)), .val (.int (1 : Int32)), .val (.ref b155), .val (.ref b159), .val (.ref b162), .val (.ref mu), .val (.int (1 : Int32)), .val (.ref b159), .val (.ref b159), .unset]) rfl q) ?_
          refine Goes.by (g' := (mkF m 182 #[.val (.int p0), .val (.int (0 : Int32)), .val (.int (1 : Int32)), .val (.int (1 : Int32)), .val (.int (1 : Int32)), .val (.ref b155), .val (.ref b159), .val (.ref b162), .val (.ref mu), .val (.int (1 : Int32)), .val (.ref b159), .val (.ref b159), .unset] [(.int (1 : Int32))])) (fun _ q => XS.iloadN X.here X.hx rfl (hb hby at_181) rfl q) ?_
          refine Goes.by (g' := (mkF m 185 #[.val (.int p0), .val (.int (0 : Int32)), .val (.int (1 : Int32)), .val (.int (1 : Int32)), .val (.int (1 : Int32)), .val (.ref b155), .val (.ref b159), .val (.ref b162), .val (.ref mu), .val (.int (1 : Int32)), .val (.ref b159), .val (.ref b159), .unset] [])) (fun _ q => XS.ifNo X.here X.hx rfl (hb hby at_182) rfl ((if0 _ _).trans (feq (show ¬ (1 : Int32) = (0 : Int32) from (by decide))).1) q) ?_
          refine X.getS (Or.inl (hw _ (List.mem_of_getElem? (i := 141) rfl))) (host := "") Via.refl (S_FORCE.ext O_.2) (hb hby at_185) (fun T X => ?_)
          show Goes _ _ _ _ _ _ _ _ T (mkF m 188 #[.val (.int p0), .val (.int (0 : Int32)), .val (.int (1 : Int32)), .val (.int (1 : Int32)), .val (.int (1 : Int32)), .val (.ref b155), .val (.ref b159), .val (.ref b162), .val (.ref mu), .val (.int (1 : Int32)), .val (.ref b159), .val (.ref b159), .unset] [(.ref a_FORCE)])
          refine Goes.by (g' := (mkF m 194 #[.val (.int p0), .val (.int (0 : Int32)), .val (.int (1 : Int32)), .val (.int (1 : Int32)), .val (.int (1 : Int32)), .val (.ref b155), .val (.ref b159), .val (.ref b162), .val (.ref mu), .val (.int (1 : Int32)), .val (.ref b159), .val (.ref b159), .unset] [(.ref a_FORCE)])) (fun _ q => XS.goto X.here X.hx rfl (pc0 := 188) (pc' := 194) rfl (hb hby at_188) (by decide) (by decide) q) ?_
          refine Goes.by (g' := (mkF m 196 #[.val (.int p0), .val (.int (0 : Int32)), .val (.int (1 : Int32)), .val (.int (1 : Int32)), .val (.int (1 : Int32)), .val (.ref b155), .val (.ref b159), .val (.ref b162), .val (.ref mu), .val (.int (1 : Int32)), .val (.ref b159), .val (.ref b159), .val (.ref a_FORCE)] [])) (fun _ q => XS.astore X.here X.hx rfl (hb hby at_194) rfl rfl (l' := #[.val (.int p0), .val (.int (0 : Int32)), .val (.int (1 : Int32)), .val (.int (1 : Int32)), .val (.int (1 : Int32)), .val (.ref b155), .val (.ref b159), .val (.ref b162), .val (.ref mu), .val (.int (1 : Int32)), .val (.ref b159), .val (.ref b159), .val (.ref a_FORCE)]) rfl q) ?_
          refine Goes.by (g' := (mkF m 198 #[.val (.int p0), .val (.int (0 : Int32)), .val (.int (1 : Int32)), .val (.int (1 : Int32)), .val (.int (1 : Int32)), .val (.ref b155), .val (.ref b159), .val (.ref b162), .val (.ref mu), .val (.int (1 : Int32)), .val (.ref b159), .val (.ref b159), .val (.ref a_FORCE)] [(.int (1 : Int32))])) (fun _ q => XS.iload X.here X.hx rfl (hb hby at_196) rfl q) ?_
          refine Goes.by (g' := (mkF m 201 #[.val (.int p0), .val (.int (0 : Int32)), .val (.int (1 : Int32)), .val (.int (1 : Int32)), .val (.int (1 : Int32)), .val (.ref b155), .val (.ref b159), .val (.ref b162), .val (.ref mu), .val (.int (1 : Int32)), .val (.ref b159), .val (.ref b159), .val (.ref a_FORCE)] [])) (fun _ q => XS.ifNo X.here X.hx rfl (hb hby at_198) rfl ((if0 _ _).trans (feq (show ¬ (1 : Int32) = (0 : Int32) from (by decide))).1) q) ?_
          refine Goes.by (g' := (mkF m 203 #[.val (.int p0), .val (.int (0 : Int32)), .val (.int (1 : Int32)), .val (.int (1 : Int32)), .val (.int (1 : Int32)), .val (.ref b155), .val (.ref b159), .val (.ref b162), .val (.ref mu), .val (.int (1 : Int32)), .val (.ref b159), .val (.ref b159), .val (.ref a_FORCE)] [(.ref b159)])) (fun _ q => XS.aload X.here X.hx rfl (hb hby at_201) rfl rfl q) ?_
          refine Goes.by (g' := (mkF m 205 #[.val (.int p0), .val (.int (0 : Int32)), .val (.int (1 : Int32)), .val (.int (1 : Int32)), .val (.int (1 : Int32)), .val (.ref b155), .val (.ref b159), .val (.ref b162), .val (.ref mu), .val (.int (1 : Int32)), .val (.ref b159), .val (.ref b159), .val (.ref a_FORCE)] [(.ref b159), (.ref b159)])) (fun _ q => XS.aload X.here X.hx rfl (hb hby at_203) rfl rfl q) ?_
          refine X.acmp rfl rfl (cd := .ne) (x := (.ref b159)) (y := (.ref b159)) (same := true) (pc' := 208) (hb hby at_205) (decide_eq_true rfl) (by decide) (by decide) ?_
          show Goes _ _ _ _ _ _ _ _ T (mkF m 208 #[.val (.int p0), .val (.int (0 : Int32)), .val (.int (1 : Int32)), .val (.int (1 : Int32)), .val (.int (1 : Int32)), .val (.ref b155), .val (.ref b159), .val (.ref b162), .val (.ref mu), .val (.int (1 : Int32)), .val (.ref b159), .val (.ref b159), .val (.ref a_FORCE)] [])
          refine Goes.by (g' := (mkF m 210 #[.val (.int p0), .val (.int (0 : Int32)), .val (.int (1 : Int32)), .val (.int (1 : Int32)), .val (.int (1 : Int32)), .val (.ref b155), .val (.ref b159), .val (.ref b162), .val (.ref mu), .val (.int (1 : Int32)), .val (.ref b159), .val (.ref b159), .val (.ref a_FORCE)] [(.ref b155)])) (fun _ q => XS.aload X.here X.hx rfl (hb hby at_208) rfl rfl q) ?_
          have X_o := X
          refine X.callV E_b155 (hw _ (List.mem_of_getElem? (i := 124) rfl)) (hw _ (List.mem_of_getElem? (i := 125) rfl)) (hw _ (List.mem_of_getElem? (i := 127) rfl)) (hw _ (List.mem_of_getElem? (i := 103) rfl)) rfl (hw _ (List.mem_of_getElem? (i := 126) rfl)) (hw _ (List.mem_of_getElem? (i := 2) rfl)) (hw _ (List.mem_of_getElem? (i := 128) rfl)) (by decide) pd_193422000 (argsL := []) rfl (rm_getAllowCreate l Z a0 hw n0 h167 X.n0le b155 (0 : Int32) (by decide) F_b155_allowCreate) (by rw [hml]; rfl) rfl (by decide) (leB rfl) (hb hby at_210) (by decide) (by decide) (fun T h169 v X hQ => ?_)
          obtain ⟨rfl, hh⟩ := hQ
          rw [hh] at X
          clear hh
          show Goes _ _ _ _ _ _ _ _ T (mkF m 213 #[.val (.int p0), .val (.int (0 : Int32)), .val (.int (1 : Int32)), .val (.int (1 : Int32)), .val (.int (1 : Int32)), .val (.ref b155), .val (.ref b159), .val (.ref b162), .val (.ref mu), .val (.int (1 : Int32)), .val (.ref b159), .val (.ref b159), .val (.ref a_FORCE)] [(.int (0 : Int32))])
          refine Goes.by (g' := (mkF m 214 #[.val (.int p0), .val (.int (0 : Int32)), .val (.int (1 : Int32)), .val (.int (1 : Int32)), .val (.int (1 : Int32)), .val (.ref b155), .val (.ref b159), .val (.ref b162), .val (.ref mu), .val (.int (1 : Int32)), .val (.ref b159), .val (.ref b159), .val (.ref a_FORCE)] [(.int (0 : Int32)), (.int (0 : Int32))])) (fun _ q => XS.iloadN X.here X.hx rfl (hb hby at_213) rfl q) ?_
          refine Goes.by (g' := (mkF m 217 #[.val (.int p0), .val (.int (0 : Int32)), .val (.int (1 : Int32)), .val (.int (1 : Int32)), .val (.int (1 : Int32)), .val (.ref b155), .val (.ref b159), .val (.ref b162), .val (.ref mu), .val (.int (1 : Int32)), .val (.ref b159), .val (.ref b159), .val (.ref a_FORCE)] [])) (fun _ q => XS.icmpNo X.here X.hx rfl (hb hby at_214) rfl (teq (show (0 : Int32) = (0 : Int32) from (by decide))).2 q) ?_
          refine Goes.by (g' := (mkF m 219 #[.val (.int p0), .val (.int (0 : Int32)), .val (.int (1 : Int32)), .val (.int (1 : Int32)), .val (.int (1 : Int32)), .val (.ref b155), .val (.ref b159), .val (.ref b162), .val (.ref mu), .val (.int (1 : Int32)), .val (.ref b159), .val (.ref b159), .val (.ref a_FORCE)] [(.ref b155)])) (fun _ q => XS.aload X.here X.hx rfl (hb hby at_217) rfl rfl q) ?_
          have X_o := X
          refine X.callV E_b155 (hw _ (List.mem_of_getElem? (i := 131) rfl)) (hw _ (List.mem_of_getElem? (i := 132) rfl)) (hw _ (List.mem_of_getElem? (i := 134) rfl)) (hw _ (List.mem_of_getElem? (i := 103) rfl)) rfl (hw _ (List.mem_of_getElem? (i := 133) rfl)) (hw _ (List.mem_of_getElem? (i := 2) rfl)) (hw _ (List.mem_of_getElem? (i := 135) rfl)) (by decide) pd_2323304547 (argsL := []) rfl (rm_getDurability l Z a0 hw n0 h167 X.n0le b155 a_FORCE  F_b155_durability) (by rw [hml]; rfl) rfl (by decide) (leB rfl) (hb hby at_219) (by decide) (by decide) (fun T h170 v X hQ => ?_)
          obtain ⟨rfl, hh⟩ := hQ
          rw [hh] at X
          clear hh
          show Goes _ _ _ _ _ _ _ _ T (mkF m 222 #[.val (.int p0), .val (.int (0 : Int32)), .val (.int (1 : Int32)), .val (.int (1 : Int32)), .val (.int (1 : Int32)), .val (.ref b155), .val (.ref b159), .val (.ref b162), .val (.ref mu), .val (.int (1 : Int32)), .val (.ref b159), .val (.ref b159), .val (.ref a_FORCE)] [(.ref a_FORCE)])
          refine Goes.by (g' := (mkF m 224 #[.val (.int p0), .val (.int (0 : Int32)), .val (.int (1 : Int32)), .val (.int (1 : Int32)), .val (.int (1 : Int32)), .val (.ref b155), .val (.ref b159), .val (.ref b162), .val (.ref mu), .val (.int (1 : Int32)), .val (.ref b159), .val (.ref b159), .val (.ref a_FORCE)] [(.ref a_FORCE), (.ref a_FORCE)])) (fun _ q => XS.aload X.here X.hx rfl (hb hby at_222) rfl rfl q) ?_
          refine X.acmp rfl rfl (cd := .ne) (x := (.ref a_FORCE)) (y := (.ref a_FORCE)) (same := true) (pc' := 227) (hb hby at_224) (decide_eq_true rfl) (by decide) (by decide) ?_
          show Goes _ _ _ _ _ _ _ _ T (mkF m 227 #[.val (.int p0), .val (.int (0 : Int32)), .val (.int (1 : Int32)), .val (.int (1 : Int32)), .val (.int (1 : Int32)), .val (.ref b155), .val (.ref b159), .val (.ref b162), .val (.ref mu), .val (.int (1 : Int32)), .val (.ref b159), .val (.ref b159), .val (.ref a_FORCE)] [])
          refine Goes.by (g' := (mkF m 228 #[.val (.int p0), .val (.int (0 : Int32)), .val (.int (1 : Int32)), .val (.int (1 : Int32)), .val (.int (1 : Int32)), .val (.ref b155), .val (.ref b159), .val (.ref b162), .val (.ref mu), .val (.int (1 : Int32)), .val (.ref b159), .val (.ref b159), .val (.ref a_FORCE)] [(.int (1 : Int32))])) (fun _ q => XS.iconst X.here X.hx rfl (hb hby at_227) q) ?_
          refine Goes.by (g' := (mkF m 232 #[.val (.int p0), .val (.int (0 : Int32)), .val (.int (1 : Int32)), .val (.int (1 : Int32)), .val (.int (1 : Int32)), .val (.ref b155), .val (.ref b159), .val (.ref b162), .val (.ref mu), .val (.int (1 : Int32)), .val (.ref b159), .val (.ref b159), .val (.ref a_FORCE)] [(.int (1 : Int32))])) (fun _ q => XS.goto X.here X.hx rfl (pc0 := 228) (pc' := 232) rfl (hb hby at_228) (by decide) (by decide) q) ?_
          exact X.retZ hret (hb hby at_232) (by decide) (by decide) rfl
  · skip
    refine Goes.by (g' := (mkF m 6 #[.val (.int p0), .unset, .unset, .unset, .unset, .unset, .unset, .unset, .unset, .unset, .unset, .unset, .unset] [])) (fun _ q => XS.ifNo X.here X.hx rfl (hb hby at_3) rfl ((if0 _ _).trans (feq hB43).1) q) ?_
    refine Goes.by (g' := (mkF m 7 #[.val (.int p0), .unset, .unset, .unset, .unset, .unset, .unset, .unset, .unset, .unset, .unset, .unset, .unset] [(.int (1 : Int32))])) (fun _ q => XS.iconst X.here X.hx rfl (hb hby at_6) q) ?_
    refine Goes.by (g' := (mkF m 11 #[.val (.int p0), .unset, .unset, .unset, .unset, .unset, .unset, .unset, .unset, .unset, .unset, .unset, .unset] [(.int (1 : Int32))])) (fun _ q => XS.goto X.here X.hx rfl (pc0 := 7) (pc' := 11) rfl (hb hby at_7) (by decide) (by decide) q) ?_
    refine Goes.by (g' := (mkF m 12 #[.val (.int p0), .val (.int (1 : Int32)), .unset, .unset, .unset, .unset, .unset, .unset, .unset, .unset, .unset, .unset, .unset] [])) (fun _ q => XS.istoreN X.here X.hx rfl (hb hby at_11) rfl (l' := #[.val (.int p0), .val (.int (1 : Int32)), .unset, .unset, .unset, .unset, .unset, .unset, .unset, .unset, .unset, .unset, .unset]) rfl q) ?_
    refine Goes.by (g' := (mkF m 13 #[.val (.int p0), .val (.int (1 : Int32)), .unset, .unset, .unset, .unset, .unset, .unset, .unset, .unset, .unset, .unset, .unset] [(.int p0)])) (fun _ q => XS.iloadN X.here X.hx rfl (hb hby at_12) rfl q) ?_
    refine Goes.by (g' := (mkF m 14 #[.val (.int p0), .val (.int (1 : Int32)), .unset, .unset, .unset, .unset, .unset, .unset, .unset, .unset, .unset, .unset, .unset] [(.int (2 : Int32)), (.int p0)])) (fun _ q => XS.iconst X.here X.hx rfl (hb hby at_13) q) ?_
    refine Goes.by (g' := (mkF m 15 #[.val (.int p0), .val (.int (1 : Int32)), .unset, .unset, .unset, .unset, .unset, .unset, .unset, .unset, .unset, .unset, .unset] [(.int (p0 &&& (2 : Int32)))])) (fun _ q => XS.iand X.here X.hx rfl (hb hby at_14) rfl q) ?_
    by_cases hB171 : (p0 &&& (2 : Int32)) = (0 : Int32)
    · skip
      refine Goes.by (g' := (mkF m 22 #[.val (.int p0), .val (.int (1 : Int32)), .unset, .unset, .unset, .unset, .unset, .unset, .unset, .unset, .unset, .unset, .unset] [])) (fun _ q => XS.ifYes X.here X.hx rfl (pc0 := 15) (pc' := 22) rfl (hb hby at_15) rfl ((if0 _ _).trans (teq hB171).1) (by decide) (by decide) q) ?_
      refine Goes.by (g' := (mkF m 23 #[.val (.int p0), .val (.int (1 : Int32)), .unset, .unset, .unset, .unset, .unset, .unset, .unset, .unset, .unset, .unset, .unset] [(.int (0 : Int32))])) (fun _ q => XS.iconst X.here X.hx rfl (hb hby at_22) q) ?_
      refine Goes.by (g' := (mkF m 24 #[.val (.int p0), .val (.int (1 : Int32)), .val (.int (0 : Int32)), .unset, .unset, .unset, .unset, .unset, .unset, .unset, .unset, .unset, .unset] [])) (fun _ q => XS.istoreN X.here X.hx rfl (hb hby at_23) rfl (l' := #[.val (.int p0), .val (.int (1 : Int32)), .val (.int (0 : Int32)), .unset, .unset, .unset, .unset, .unset, .unset, .unset, .unset, .unset, .unset]) rfl q) ?_
      refine Goes.by (g' := (mkF m 25 #[.val (.int p0), .val (.int (1 : Int32)), .val (.int (0 : Int32)), .unset, .unset, .unset, .unset, .unset, .unset, .unset, .unset, .unset, .unset] [(.int p0)])) (fun _ q => XS.iloadN X.here X.hx rfl (hb hby at_24) rfl q) ?_
      refine Goes.by (g' := (mkF m 26 #[.val (.int p0), .val (.int (1 : Int32)), .val (.int (0 : Int32)), .unset, .unset, .unset, .unset, .unset, .unset, .unset, .unset, .unset, .unset] [(.int (4 : Int32)), (.int p0)])) (fun _ q => XS.iconst X.here X.hx rfl (hb hby at_25) q) ?_
      refine Goes.by (g' := (mkF m 27 #[.val (.int p0), .val (.int (1 : Int32)), .val (.int (0 : Int32)), .unset, .unset, .unset, .unset, .unset, .unset, .unset, .unset, .unset, .unset] [(.int (p0 &&& (4 : Int32)))])) (fun _ q => XS.iand X.here X.hx rfl (hb hby at_26) rfl q) ?_
      by_cases hB172 : (p0 &&& (4 : Int32)) = (0 : Int32)
      · skip
        refine Goes.by (g' := (mkF m 34 #[.val (.int p0), .val (.int (1 : Int32)), .val (.int (0 : Int32)), .unset, .unset, .unset, .unset, .unset, .unset, .unset, .unset, .unset, .unset] [])) (fun _ q => XS.ifYes X.here X.hx rfl (pc0 := 27) (pc' := 34) rfl (hb hby at_27) rfl ((if0 _ _).trans (teq hB172).1) (by decide) (by decide) q) ?_
        refine Goes.by (g' := (mkF m 35 #[.val (.int p0), .val (.int (1 : Int32)), .val (.int (0 : Int32)), .unset, .unset, .unset, .unset, .unset, .unset, .unset, .unset, .unset, .unset] [(.int (0 : Int32))])) (fun _ q => XS.iconst X.here X.hx rfl (hb hby at_34) q) ?_
        refine Goes.by (g' := (mkF m 36 #[.val (.int p0), .val (.int (1 : Int32)), .val (.int (0 : Int32)), .val (.int (0 : Int32)), .unset, .unset, .unset, .unset, .unset, .unset, .unset, .unset, .unset] [])) (fun _ q => XS.istoreN X.here X.hx rfl (hb hby at_35) rfl (l' := #[.val (.int p0), .val (.int (1 : Int32)), .val (.int (0 : Int32)), .val (.int (0 : Int32)), .unset, .unset, .unset, .unset, .unset, .unset, .unset, .unset, .unset]) rfl q) ?_
        refine Goes.by (g' := (mkF m 37 #[.val (.int p0), .val (.int (1 : Int32)), .val (.int (0 : Int32)), .val (.int (0 : Int32)), .unset, .unset, .unset, .unset, .unset, .unset, .unset, .unset, .unset] [(.int p0)])) (fun _ q => XS.iloadN X.here X.hx rfl (hb hby at_36) rfl q) ?_
        refine Goes.by (g' := (mkF m 39 #[.val (.int p0), .val (.int (1 : Int32)), .val (.int (0 : Int32)), .val (.int (0 : Int32)), .unset, .unset, .unset, .unset, .unset, .unset, .unset, .unset, .unset] [(.int (8 : Int32)), (.int p0)])) (fun _ q => XS.bipush X.here X.hx rfl (hb hby at_37) q) ?_
        refine Goes.by (g' := (mkF m 40 #[.val (.int p0), .val (.int (1 : Int32)), .val (.int (0 : Int32)), .val (.int (0 : Int32)), .unset, .unset, .unset, .unset, .unset, .unset, .unset, .unset, .unset] [(.int (p0 &&& (8 : Int32)))])) (fun _ q => XS.iand X.here X.hx rfl (hb hby at_39) rfl q) ?_
        by_cases hB173 : (p0 &&& (8 : Int32)) = (0 : Int32)
        · skip
          refine Goes.by (g' := (mkF m 47 #[.val (.int p0), .val (.int (1 : Int32)), .val (.int (0 : Int32)), .val (.int (0 : Int32)), .unset, .unset, .unset, .unset, .unset, .unset, .unset, .unset, .unset] [])) (fun _ q => XS.ifYes X.here X.hx rfl (pc0 := 40) (pc' := 47) rfl (hb hby at_40) rfl ((if0 _ _).trans (teq hB173).1) (by decide) (by decide) q) ?_
          refine Goes.by (g' := (mkF m 48 #[.val (.int p0), .val (.int (1 : Int32)), .val (.int (0 : Int32)), .val (.int (0 : Int32)), .unset, .unset, .unset, .unset, .unset, .unset, .unset, .unset, .unset] [(.int (0 : Int32))])) (fun _ q => XS.iconst X.here X.hx rfl (hb hby at_47) q) ?_
          refine Goes.by (g' := (mkF m 50 #[.val (.int p0), .val (.int (1 : Int32)), .val (.int (0 : Int32)), .val (.int (0 : Int32)), .val (.int (0 : Int32)), .unset, .unset, .unset, .unset, .unset, .unset, .unset, .unset] [])) (fun _ q => XS.istore X.here X.hx rfl (hb hby at_48) rfl (l' := #[.val (.int p0), .val (.int (1 : Int32)), .val (.int (0 : Int32)), .val (.int (0 : Int32)), .val (.int (0 : Int32)), .unset, .unset, .unset, .unset, .unset, .unset, .unset, .unset]) rfl q) ?_
          refine X.newO (hw _ (List.mem_of_getElem? (i := 0) rfl)) (hw _ (List.mem_of_getElem? (i := 1) rfl)) (hw _ (List.mem_of_getElem? (i := 2) rfl)) (hb hby at_50) (by decide) (by decide) (fun T h175 b174 X g_b174 ga_b174 E E_b174 D_b174 => ?_)
          have O_ := O_.ext E
          have F_b174_mutations : Fld Z h175 b174 "com/example/hafiza/hafiza/StoreConfig" "mutations" "Lcom/example/hafiza/hafiza/Mutations;" .null := D_b174 (Or.inl (hw _ (List.mem_of_getElem? (i := 92) rfl))) (ty := (.object "com/example/hafiza/hafiza/Mutations")) (by decide)
          have F_b174_durability : Fld Z h175 b174 "com/example/hafiza/hafiza/StoreConfig" "durability" "Lcom/example/hafiza/hafiza/Durability;" .null := D_b174 (Or.inl (hw _ (List.mem_of_getElem? (i := 97) rfl))) (ty := (.object "com/example/hafiza/hafiza/Durability")) (by decide)
          have F_b174_allowCreate : Fld Z h175 b174 "com/example/hafiza/hafiza/StoreConfig" "allowCreate" "Z" (.int (0 : Int32)) := D_b174 (Or.inl (hw _ (List.mem_of_getElem? (i := 130) rfl))) (ty := .boolean) (by decide)
          show Goes _ _ _ _ _ _ _ _ T (mkF m 53 #[.val (.int p0), .val (.int (1 : Int32)), .val (.int (0 : Int32)), .val (.int (0 : Int32)), .val (.int (0 : Int32)), .unset, .unset, .unset, .unset, .unset, .unset, .unset, .unset] [(.ref b174)])
          refine Goes.by (g' := (mkF m 54 #[.val (.int p0), .val (.int (1 : Int32)), .val (.int (0 : Int32)), .val (.int (0 : Int32)), .val (.int (0 : Int32)), .unset, .unset, .unset, .unset, .unset, .unset, .unset, .unset] [(.ref b174), (.ref b174)])) (fun _ q => XS.dup X.here X.hx rfl (hb hby at_53) rfl rfl q) ?_
          have X_o := X
          refine X.callN rfl (hw _ (List.mem_of_getElem? (i := 3) rfl)) (hw _ (List.mem_of_getElem? (i := 4) rfl)) (hw _ (List.mem_of_getElem? (i := 2) rfl)) (hw _ (List.mem_of_getElem? (i := 5) rfl)) (by decide) pd_193421996 (argsL := []) rfl (rmSC l Z a0 hw n0 h175 X.n0le b174 ga_b174 E_b174 F_b174_mutations F_b174_durability F_b174_allowCreate a_WRITE S_WRITE O_) (by rw [hml]; rfl) rfl (by decide) (leB rfl) (hb hby at_54) (by decide) (by decide) (fun T h176 v X hQ => ?_)
          obtain ⟨rfl, K, mu, gz, E_mu, F_b174_mutations, F_b174_durability, F_b174_allowCreate⟩ := hQ
          have ga_mu : n0 ≤ mu := Nat.le_trans X_o.n0le gz
          have ne_b174_mu : b174 ≠ mu := Nat.ne_of_lt (Nat.lt_of_lt_of_le E_b174.lt gz)
          have O_ := O_.keep K (allS ga_b174 all0)
          have E_b174 := E_b174.keep K
          show Goes _ _ _ _ _ _ _ _ T (mkF m 57 #[.val (.int p0), .val (.int (1 : Int32)), .val (.int (0 : Int32)), .val (.int (0 : Int32)), .val (.int (0 : Int32)), .unset, .unset, .unset, .unset, .unset, .unset, .unset, .unset] [(.ref b174)])
          refine Goes.by (g' := (mkF m 59 #[.val (.int p0), .val (.int (1 : Int32)), .val (.int (0 : Int32)), .val (.int (0 : Int32)), .val (.int (0 : Int32)), .val (.ref b174), .unset, .unset, .unset, .unset, .unset, .unset, .unset] [])) (fun _ q => XS.astore X.here X.hx rfl (hb hby at_57) rfl rfl (l' := #[.val (.int p0), .val (.int (1 : Int32)), .val (.int (0 : Int32)), .val (.int (0 : Int32)), .val (.int (0 : Int32)), .val (.ref b174), .unset, .unset, .unset, .unset, .unset, .unset, .unset]) rfl q) ?_
          refine Goes.by (g' := (mkF m 60 #[.val (.int p0), .val (.int (1 : Int32)), .val (.int (0 : Int32)), .val (.int (0 : Int32)), .val (.int (0 : Int32)), .val (.ref b174), .unset, .unset, .unset, .unset, .unset, .unset, .unset] [(.int (1 : Int32))])) (fun _ q => XS.iloadN X.here X.hx rfl (hb hby at_59) rfl q) ?_
          refine Goes.by (g' := (mkF m 63 #[.val (.int p0), .val (.int (1 : Int32)), .val (.int (0 : Int32)), .val (.int (0 : Int32)), .val (.int (0 : Int32)), .val (.ref b174), .unset, .unset, .unset, .unset, .unset, .unset, .unset] [])) (fun _ q => XS.ifNo X.here X.hx rfl (hb hby at_60) rfl ((if0 _ _).trans (feq (show ¬ (1 : Int32) = (0 : Int32) from (by decide))).1) q) ?_
          refine Goes.by (g' := (mkF m 65 #[.val (.int p0), .val (.int (1 : Int32)), .val (.int (0 : Int32)), .val (.int (0 : Int32)), .val (.int (0 : Int32)), .val (.ref b174), .unset, .unset, .unset, .unset, .unset, .unset, .unset] [(.ref b174)])) (fun _ q => XS.aload X.here X.hx rfl (hb hby at_63) rfl rfl q) ?_
          refine Goes.by (g' := (mkF m 66 #[.val (.int p0), .val (.int (1 : Int32)), .val (.int (0 : Int32)), .val (.int (0 : Int32)), .val (.int (0 : Int32)), .val (.ref b174), .unset, .unset, .unset, .unset, .unset, .unset, .unset] [(.int (1 : Int32)), (.ref b174)])) (fun _ q => XS.iconst X.here X.hx rfl (hb hby at_65) q) ?_
          have X_o := X
          refine X.callV E_b174 (hw _ (List.mem_of_getElem? (i := 136) rfl)) (hw _ (List.mem_of_getElem? (i := 137) rfl)) (hw _ (List.mem_of_getElem? (i := 139) rfl)) (hw _ (List.mem_of_getElem? (i := 103) rfl)) rfl (hw _ (List.mem_of_getElem? (i := 138) rfl)) (hw _ (List.mem_of_getElem? (i := 2) rfl)) (hw _ (List.mem_of_getElem? (i := 140) rfl)) (by decide) pd_2088010534 (argsL := [(.int (1 : Int32))]) rfl (rm_setAllowCreate l Z a0 hw n0 h176 X.n0le b174  (.int (0 : Int32)) ga_b174 E_b174  F_b174_allowCreate (.ref mu) F_b174_mutations (.ref a_WRITE) F_b174_durability) (by rw [hml]; rfl) rfl (by decide) (leB rfl) (hb hby at_66) (by decide) (by decide) (fun T h177 v X hQ => ?_)
          obtain ⟨rfl, K, F_b174_allowCreate, F_b174_mutations, F_b174_durability⟩ := hQ
          have O_ := O_.keep K (allS ga_b174 all0)
          have E_b174 := E_b174.keep K
          have E_mu := E_mu.keep K
          show Goes _ _ _ _ _ _ _ _ T (mkF m 69 #[.val (.int p0), .val (.int (1 : Int32)), .val (.int (0 : Int32)), .val (.int (0 : Int32)), .val (.int (0 : Int32)), .val (.ref b174), .unset, .unset, .unset, .unset, .unset, .unset, .unset] [])
          refine Goes.by (g' := (mkF m 70 #[.val (.int p0), .val (.int (1 : Int32)), .val (.int (0 : Int32)), .val (.int (0 : Int32)), .val (.int (0 : Int32)), .val (.ref b174), .unset, .unset, .unset, .unset, .unset, .unset, .unset] [(.int (0 : Int32))])) (fun _ q => XS.iloadN X.here X.hx rfl (hb hby at_69) rfl q) ?_
          refine Goes.by (g' := (mkF m 81 #[.val (.int p0), .val (.int (1 : Int32)), .val (.int (0 : Int32)), .val (.int (0 : Int32)), .val (.int (0 : Int32)), .val (.ref b174), .unset, .unset, .unset, .unset, .unset, .unset, .unset] [])) (fun _ q => XS.ifYes X.here X.hx rfl (pc0 := 70) (pc' := 81) rfl (hb hby at_70) rfl ((if0 _ _).trans (teq (show (0 : Int32) = (0 : Int32) from (by decide))).1) (by decide) (by decide) q) ?_
          refine X.newO (hw _ (List.mem_of_getElem? (i := 98) rfl)) (hw _ (List.mem_of_getElem? (i := 10) rfl)) (hw _ (List.mem_of_getElem? (i := 11) rfl)) (hb hby at_81) (by decide) (by decide) (fun T h179 b178 X g_b178 ga_b178 E E_b178 D_b178 => ?_)
          have ne_b174_b178 : b174 ≠ b178 := by rw [g_b178]; exact Nat.ne_of_lt E_b174.lt
          have ne_mu_b178 : mu ≠ b178 := by rw [g_b178]; exact Nat.ne_of_lt E_mu.lt
          have O_ := O_.ext E
          have E_b174 := E_b174.ext E
          have E_mu := E_mu.ext E
          have F_b174_allowCreate := F_b174_allowCreate.ext E
          have F_b174_mutations := F_b174_mutations.ext E
          have F_b174_durability := F_b174_durability.ext E
          have F_b178_renamers : Fld Z h179 b178 "com/example/hafiza/hafiza/Mutations" "renamers" "Ljava/util/Set;" .null := D_b178 (Or.inr (hw _ (List.mem_of_getElem? (i := 86) rfl))) (ty := (.object "java/util/Set")) (by decide)
          have F_b178_deleters : Fld Z h179 b178 "com/example/hafiza/hafiza/Mutations" "deleters" "Ljava/util/Set;" .null := D_b178 (Or.inr (hw _ (List.mem_of_getElem? (i := 88) rfl))) (ty := (.object "java/util/Set")) (by decide)
          have F_b178_converters : Fld Z h179 b178 "com/example/hafiza/hafiza/Mutations" "converters" "Ljava/util/Set;" .null := D_b178 (Or.inr (hw _ (List.mem_of_getElem? (i := 90) rfl))) (ty := (.object "java/util/Set")) (by decide)
          show Goes _ _ _ _ _ _ _ _ T (mkF m 84 #[.val (.int p0), .val (.int (1 : Int32)), .val (.int (0 : Int32)), .val (.int (0 : Int32)), .val (.int (0 : Int32)), .val (.ref b174), .unset, .unset, .unset, .unset, .unset, .unset, .unset] [(.ref b178)])
          refine Goes.by (g' := (mkF m 85 #[.val (.int p0), .val (.int (1 : Int32)), .val (.int (0 : Int32)), .val (.int (0 : Int32)), .val (.int (0 : Int32)), .val (.ref b174), .unset, .unset, .unset, .unset, .unset, .unset, .unset] [(.ref b178), (.ref b178)])) (fun _ q => XS.dup X.here X.hx rfl (hb hby at_84) rfl rfl q) ?_
          have X_o := X
          refine X.callN rfl (hw _ (List.mem_of_getElem? (i := 99) rfl)) (hw _ (List.mem_of_getElem? (i := 13) rfl)) (hw _ (List.mem_of_getElem? (i := 11) rfl)) (hw _ (List.mem_of_getElem? (i := 14) rfl)) (by decide) pd_193421996 (argsL := []) rfl (rmMU l Z a0 hw n0 h179 X.n0le b178 ga_b178 E_b178 F_b178_renamers F_b178_deleters F_b178_converters) (by rw [hml]; rfl) rfl (by decide) (leB rfl) (hb hby at_85) (by decide) (by decide) (fun T h180 v X hQ => ?_)
          obtain ⟨rfl, K⟩ := hQ
          have O_ := O_.keep K (allS ga_b178 all0)
          have E_b174 := E_b174.keep K
          have E_mu := E_mu.keep K
          have F_b174_allowCreate := F_b174_allowCreate.keep K (ninS ne_b174_b178 nin0)
          have F_b174_mutations := F_b174_mutations.keep K (ninS ne_b174_b178 nin0)
          have F_b174_durability := F_b174_durability.keep K (ninS ne_b174_b178 nin0)
          have E_b178 := E_b178.keep K
          show Goes _ _ _ _ _ _ _ _ T (mkF m 88 #[.val (.int p0), .val (.int (1 : Int32)), .val (.int (0 : Int32)), .val (.int (0 : Int32)), .val (.int (0 : Int32)), .val (.ref b174), .unset, .unset, .unset, .unset, .unset, .unset, .unset] [(.ref b178)])
          refine Goes.by (g' := (mkF m 90 #[.val (.int p0), .val (.int (1 : Int32)), .val (.int (0 : Int32)), .val (.int (0 : Int32)), .val (.int (0 : Int32)), .val (.ref b174), .val (.ref b178), .unset, .unset, .unset, .unset, .unset, .unset] [])) (fun _ q => XS.astore X.here X.hx rfl (hb hby at_88) rfl rfl (l' := #[.val (.int p0), .val (.int (1 : Int32)), .val (.int (0 : Int32)), .val (.int (0 : Int32)), .val (.int (0 : Int32)), .val (.ref b174), .val (.ref b178), .unset, .unset, .unset, .unset, .unset, .unset]) rfl q) ?_
          refine X.newO (hw _ (List.mem_of_getElem? (i := 98) rfl)) (hw _ (List.mem_of_getElem? (i := 10) rfl)) (hw _ (List.mem_of_getElem? (i := 11) rfl)) (hb hby at_90) (by decide) (by decide) (fun T h182 b181 X g_b181 ga_b181 E E_b181 D_b181 => ?_)
          have ne_b174_b181 : b174 ≠ b181 := by rw [g_b181]; exact Nat.ne_of_lt E_b174.lt
          have ne_mu_b181 : mu ≠ b181 := by rw [g_b181]; exact Nat.ne_of_lt E_mu.lt
          have ne_b178_b181 : b178 ≠ b181 := by rw [g_b181]; exact Nat.ne_of_lt E_b178.lt
          have O_ := O_.ext E
          have E_b174 := E_b174.ext E
          have E_mu := E_mu.ext E
          have F_b174_allowCreate := F_b174_allowCreate.ext E
          have F_b174_mutations := F_b174_mutations.ext E
          have F_b174_durability := F_b174_durability.ext E
          have E_b178 := E_b178.ext E
          have F_b181_renamers : Fld Z h182 b181 "com/example/hafiza/hafiza/Mutations" "renamers" "Ljava/util/Set;" .null := D_b181 (Or.inr (hw _ (List.mem_of_getElem? (i := 86) rfl))) (ty := (.object "java/util/Set")) (by decide)
          have F_b181_deleters : Fld Z h182 b181 "com/example/hafiza/hafiza/Mutations" "deleters" "Ljava/util/Set;" .null := D_b181 (Or.inr (hw _ (List.mem_of_getElem? (i := 88) rfl))) (ty := (.object "java/util/Set")) (by decide)
          have F_b181_converters : Fld Z h182 b181 "com/example/hafiza/hafiza/Mutations" "converters" "Ljava/util/Set;" .null := D_b181 (Or.inr (hw _ (List.mem_of_getElem? (i := 90) rfl))) (ty := (.object "java/util/Set")) (by decide)
          show Goes _ _ _ _ _ _ _ _ T (mkF m 93 #[.val (.int p0), .val (.int (1 : Int32)), .val (.int (0 : Int32)), .val (.int (0 : Int32)), .val (.int (0 : Int32)), .val (.ref b174), .val (.ref b178), .unset, .unset, .unset, .unset, .unset, .unset] [(.ref b181)])
          refine Goes.by (g' := (mkF m 94 #[.val (.int p0), .val (.int (1 : Int32)), .val (.int (0 : Int32)), .val (.int (0 : Int32)), .val (.int (0 : Int32)), .val (.ref b174), .val (.ref b178), .unset, .unset, .unset, .unset, .unset, .unset] [(.ref b181), (.ref b181)])) (fun _ q => XS.dup X.here X.hx rfl (hb hby at_93) rfl rfl q) ?_
          have X_o := X
          refine X.callN rfl (hw _ (List.mem_of_getElem? (i := 99) rfl)) (hw _ (List.mem_of_getElem? (i := 13) rfl)) (hw _ (List.mem_of_getElem? (i := 11) rfl)) (hw _ (List.mem_of_getElem? (i := 14) rfl)) (by decide) pd_193421996 (argsL := []) rfl (rmMU l Z a0 hw n0 h182 X.n0le b181 ga_b181 E_b181 F_b181_renamers F_b181_deleters F_b181_converters) (by rw [hml]; rfl) rfl (by decide) (leB rfl) (hb hby at_94) (by decide) (by decide) (fun T h183 v X hQ => ?_)
          obtain ⟨rfl, K⟩ := hQ
          have O_ := O_.keep K (allS ga_b181 all0)
          have E_b174 := E_b174.keep K
          have E_mu := E_mu.keep K
          have F_b174_allowCreate := F_b174_allowCreate.keep K (ninS ne_b174_b181 nin0)
          have F_b174_mutations := F_b174_mutations.keep K (ninS ne_b174_b181 nin0)
          have F_b174_durability := F_b174_durability.keep K (ninS ne_b174_b181 nin0)
          have E_b178 := E_b178.keep K
          have E_b181 := E_b181.keep K
          show Goes _ _ _ _ _ _ _ _ T (mkF m 97 #[.val (.int p0), .val (.int (1 : Int32)), .val (.int (0 : Int32)), .val (.int (0 : Int32)), .val (.int (0 : Int32)), .val (.ref b174), .val (.ref b178), .unset, .unset, .unset, .unset, .unset, .unset] [(.ref b181)])
          refine Goes.by (g' := (mkF m 99 #[.val (.int p0), .val (.int (1 : Int32)), .val (.int (0 : Int32)), .val (.int (0 : Int32)), .val (.int (0 : Int32)), .val (.ref b174), .val (.ref b178), .val (.ref b181), .unset, .unset, .unset, .unset, .unset] [])) (fun _ q => XS.astore X.here X.hx rfl (hb hby at_97) rfl rfl (l' := #[.val (.int p0), .val (.int (1 : Int32)), .val (.int (0 : Int32)), .val (.int (0 : Int32)), .val (.int (0 : Int32)), .val (.ref b174), .val (.ref b178), .val (.ref b181), .unset, .unset, .unset, .unset, .unset]) rfl q) ?_
          refine Goes.by (g' := (mkF m 101 #[.val (.int p0), .val (.int (1 : Int32)), .val (.int (0 : Int32)), .val (.int (0 : Int32)), .val (.int (0 : Int32)), .val (.ref b174), .val (.ref b178), .val (.ref b181), .unset, .unset, .unset, .unset, .unset] [(.ref b174)])) (fun _ q => XS.aload X.here X.hx rfl (hb hby at_99) rfl rfl q) ?_
          have X_o := X
          refine X.callV E_b174 (hw _ (List.mem_of_getElem? (i := 100) rfl)) (hw _ (List.mem_of_getElem? (i := 101) rfl)) (hw _ (List.mem_of_getElem? (i := 103) rfl)) (hw _ (List.mem_of_getElem? (i := 103) rfl)) rfl (hw _ (List.mem_of_getElem? (i := 102) rfl)) (hw _ (List.mem_of_getElem? (i := 2) rfl)) (hw _ (List.mem_of_getElem? (i := 104) rfl)) (by decide) pd_2544813166 (argsL := []) rfl (rm_getMutations l Z a0 hw n0 h183 X.n0le b174 mu  F_b174_mutations) (by rw [hml]; rfl) rfl (by decide) (leB rfl) (hb hby at_101) (by decide) (by decide) (fun T h184 v X hQ => ?_)
          obtain ⟨rfl, hh⟩ := hQ
          rw [hh] at X
          clear hh
          show Goes _ _ _ _ _ _ _ _ T (mkF m 104 #[.val (.int p0), .val (.int (1 : Int32)), .val (.int (0 : Int32)), .val (.int (0 : Int32)), .val (.int (0 : Int32)), .val (.ref b174), .val (.ref b178), .val (.ref b181), .unset, .unset, .unset, .unset, .unset] [(.ref mu)])
          refine Goes.by (g' := (mkF m 106 #[.val (.int p0), .val (.int (1 : Int32)), .val (.int (0 : Int32)), .val (.int (0 : Int32)), .val (.int (0 : Int32)), .val (.ref b174), .val (.ref b178), .val (.ref b181), .val (.ref mu), .unset, .unset, .unset, .unset] [])) (fun _ q => XS.astore X.here X.hx rfl (hb hby at_104) rfl rfl (l' := #[.val (.int p0), .val (.int (1 : Int32)), .val (.int (0 : Int32)), .val (.int (0 : Int32)), .val (.int (0 : Int32)), .val (.ref b174), .val (.ref b178), .val (.ref b181), .val (.ref mu), .unset, .unset, .unset, .unset]) rfl q) ?_
          refine Goes.by (g' := (mkF m 108 #[.val (.int p0), .val (.int (1 : Int32)), .val (.int (0 : Int32)), .val (.int (0 : Int32)), .val (.int (0 : Int32)), .val (.ref b174), .val (.ref b178), .val (.ref b181), .val (.ref mu), .unset, .unset, .unset, .unset] [(.ref mu)])) (fun _ q => XS.aload X.here X.hx rfl (hb hby at_106) rfl rfl q) ?_
          refine Goes.by (g' := (mkF m 111 #[.val (.int p0), .val (.int (1 : Int32)), .val (.int (0 : Int32)), .val (.int (0 : Int32)), .val (.int (0 : Int32)), .val (.ref b174), .val (.ref b178), .val (.ref b181), .val (.ref mu), .unset, .unset, .unset, .unset] [])) (fun _ q => XS.ifnullNo X.here X.hx rfl (hb hby at_108) rfl q) ?_
          refine Goes.by (g' := (mkF m 113 #[.val (.int p0), .val (.int (1 : Int32)), .val (.int (0 : Int32)), .val (.int (0 : Int32)), .val (.int (0 : Int32)), .val (.ref b174), .val (.ref b178), .val (.ref b181), .val (.ref mu), .unset, .unset, .unset, .unset] [(.ref mu)])) (fun _ q => XS.aload X.here X.hx rfl (hb hby at_111) rfl rfl q) ?_
          refine Goes.by (g' := (mkF m 115 #[.val (.int p0), .val (.int (1 : Int32)), .val (.int (0 : Int32)), .val (.int (0 : Int32)), .val (.int (0 : Int32)), .val (.ref b174), .val (.ref b178), .val (.ref b181), .val (.ref mu), .unset, .unset, .unset, .unset] [(.ref b178), (.ref mu)])) (fun _ q => XS.aload X.here X.hx rfl (hb hby at_113) rfl rfl q) ?_
          refine X.acmp rfl rfl (cd := .eq) (x := (.ref mu)) (y := (.ref b178)) (same := false) (pc' := 118) (hb hby at_115) (decide_eq_false fun q => ne_mu_b178 (Value.ref.inj q)) (by decide) (by decide) ?_
          show Goes _ _ _ _ _ _ _ _ T (mkF m 118 #[.val (.int p0), .val (.int (1 : Int32)), .val (.int (0 : Int32)), .val (.int (0 : Int32)), .val (.int (0 : Int32)), .val (.ref b174), .val (.ref b178), .val (.ref b181), .val (.ref mu), .unset, .unset, .unset, .unset] [])
          refine Goes.by (g' := (mkF m 120 #[.val (.int p0), .val (.int (1 : Int32)), .val (.int (0 : Int32)), .val (.int (0 : Int32)), .val (.int (0 : Int32)), .val (.ref b174), .val (.ref b178), .val (.ref b181), .val (.ref mu), .unset, .unset, .unset, .unset] [(.ref mu)])) (fun _ q => XS.aload X.here X.hx rfl (hb hby at_118) rfl rfl q) ?_
          refine Goes.by (g' := (mkF m 122 #[.val (.int p0), .val (.int (1 : Int32)), .val (.int (0 : Int32)), .val (.int (0 : Int32)), .val (.int (0 : Int32)), .val (.ref b174), .val (.ref b178), .val (.ref b181), .val (.ref mu), .unset, .unset, .unset, .unset] [(.ref b181), (.ref mu)])) (fun _ q => XS.aload X.here X.hx rfl (hb hby at_120) rfl rfl q) ?_
          refine X.acmp rfl rfl (cd := .eq) (x := (.ref mu)) (y := (.ref b181)) (same := false) (pc' := 125) (hb hby at_122) (decide_eq_false fun q => ne_mu_b181 (Value.ref.inj q)) (by decide) (by decide) ?_
          show Goes _ _ _ _ _ _ _ _ T (mkF m 125 #[.val (.int p0), .val (.int (1 : Int32)), .val (.int (0 : Int32)), .val (.int (0 : Int32)), .val (.int (0 : Int32)), .val (.ref b174), .val (.ref b178), .val (.ref b181), .val (.ref mu), .unset, .unset, .unset, .unset] [])
          refine Goes.by (g' := (mkF m 126 #[.val (.int p0), .val (.int (1 : Int32)), .val (.int (0 : Int32)), .val (.int (0 : Int32)), .val (.int (0 : Int32)), .val (.ref b174), .val (.ref b178), .val (.ref b181), .val (.ref mu), .unset, .unset, .unset, .unset] [(.int (1 : Int32))])) (fun _ q => XS.iconst X.here X.hx rfl (hb hby at_125) q) ?_
          refine Goes.by (g' := (mkF m 130 #[.val (.int p0), .val (.int (1 : Int32)), .val (.int (0 : Int32)), .val (.int (0 : Int32)), .val (.int (0 : Int32)), .val (.ref b174), .val (.ref b178), .val (.ref b181), .val (.ref mu), .unset, .unset, .unset, .unset] [(.int (1 : Int32))])) (fun _ q => XS.goto X.here X.hx rfl (pc0 := 126) (pc' := 130) rfl (hb hby at_126) (by decide) (by decide) q) ?_
          refine Goes.by (g' := (mkF m 132 #[.val (.int p0), .val (.int (1 : Int32)), .val (.int (0 : Int32)), .val (.int (0 : Int32)), .val (.int (0 : Int32)), .val (.ref b174), .val (.ref b178), .val (.ref b181), .val (.ref mu), .val (.int (1 : Int32)), .unset, .unset, .unset] [])) (fun _ q => XS.istore X.here X.hx rfl (hb hby at_130) rfl (l' := #[.val (.int p0), .val (.int (1 : Int32)), .val (.int (0 : Int32)), .val (.int (0 : Int32)), .val (.int (0 : Int32)), .val (.ref b174), .val (.ref b178), .val (.ref b181), .val (.ref mu), .val (.int (1 : Int32)), .unset, .unset, .unset]) rfl q) ?_
          refine Goes.by (g' := (mkF m 133 #[.val (.int p0), .val (.int (1 : Int32)), .val (.int (0 : Int32)), .val (.int (0 : Int32)), .val (.int (0 : Int32)), .val (.ref b174), .val (.ref b178), .val (.ref b181), .val (.ref mu), .val (.int (1 : Int32)), .unset, .unset, .unset] [(.int (0 : Int32))])) (fun _ q => XS.iloadN X.here X.hx rfl (hb hby at_132) rfl q) ?_
          refine Goes.by (g' := (mkF m 153 #[.val (.int p0), .val (.int (1 : Int32)), .val (.int (0 : Int32)), .val (.int (0 : Int32)), .val (.int (0 : Int32)), .val (.ref b174), .val (.ref b178), .val (.ref b181), .val (.ref mu), .val (.int (1 : Int32)), .unset, .unset, .unset] [])) (fun _ q => XS.ifYes X.here X.hx rfl (pc0 := 133) (pc' := 153) rfl (hb hby at_133) rfl ((if0 _ _).trans (teq (show (0 : Int32) = (0 : Int32) from (by decide))).1) (by decide) (by decide) q) ?_
          refine Goes.by (g' := (mkF m 155 #[.val (.int p0), .val (.int (1 : Int32)), .val (.int (0 : Int32)), .val (.int (0 : Int32)), .val (.int (0 : Int32)), .val (.ref b174), .val (.ref b178), .val (.ref b181), .val (.ref mu), .val (.int (1 : Int32)), .unset, .unset, .unset] [(.int (0 : Int32))])) (fun _ q => XS.iload X.here X.hx rfl (hb hby at_153) rfl q) ?_
          refine Goes.by (g' := (mkF m 163 #[.val (.int p0), .val (.int (1 : Int32)), .val (.int (0 : Int32)), .val (.int (0 : Int32)), .val (.int (0 : Int32)), .val (.ref b174), .val (.ref b178), .val (.ref b181), .val (.ref mu), .val (.int (1 : Int32)), .unset, .unset, .unset] [])) (fun _ q => XS.ifYes X.here X.hx rfl (pc0 := 155) (pc' := 163) rfl (hb hby at_155) rfl ((if0 _ _).trans (teq (show (0 : Int32) = (0 : Int32) from (by decide))).1) (by decide) (by decide) q) ?_
          refine Goes.by (g' := (mkF m 165 #[.val (.int p0), .val (.int (1 : Int32)), .val (.int (0 : Int32)), .val (.int (0 : Int32)), .val (.int (0 : Int32)), .val (.ref b174), .val (.ref b178), .val (.ref b181), .val (.ref mu), .val (.int (1 : Int32)), .unset, .unset, .unset] [(.ref b181)])) (fun _ q => XS.aload X.here X.hx rfl (hb hby at_163) rfl rfl q) ?_
          refine Goes.by (g' := (mkF m 167 #[.val (.int p0), .val (.int (1 : Int32)), .val (.int (0 : Int32)), .val (.int (0 : Int32)), .val (.int (0 : Int32)), .val (.ref b174), .val (.ref b178), .val (.ref b181), .val (.ref mu), .val (.int (1 : Int32)), .val (.ref b181), .unset, .unset] [])) (fun _ q => XS.astore X.here X.hx rfl (hb hby at_165) rfl rfl (l' := #[.val (.int p0), .val (.int (1 : Int32)), .val (.int (0 : Int32)), .val (.int (0 : Int32)), .val (.int (0 : Int32)), .val (.ref b174), .val (.ref b178), .val (.ref b181), .val (.ref mu), .val (.int (1 : Int32)), .val (.ref b181), .unset, .unset]) rfl q) ?_
          refine Goes.by (g' := (mkF m 169 #[.val (.int p0), .val (.int (1 : Int32)), .val (.int (0 : Int32)), .val (.int (0 : Int32)), .val (.int (0 : Int32)), .val (.ref b174), .val (.ref b178), .val (.ref b181), .val (.ref mu), .val (.int (1 : Int32)), .val (.ref b181), .unset, .unset] [(.ref b174)])) (fun _ q => XS.aload X.here X.hx rfl (hb hby at_167) rfl rfl q) ?_
          refine Goes.by (g' := (mkF m 171 #[.val (.int p0), .val (.int (1 : Int32)), .val (.int (0 : Int32)), .val (.int (0 : Int32)), .val (.int (0 : Int32)), .val (.ref b174), .val (.ref b178), .val (.ref b181), .val (.ref mu), .val (.int (1 : Int32)), .val (.ref b181), .unset, .unset] [(.ref b181), (.ref b174)])) (fun _ q => XS.aload X.here X.hx rfl (hb hby at_169) rfl rfl q) ?_
          have X_o := X
          refine X.callV E_b174 (hw _ (List.mem_of_getElem? (i := 105) rfl)) (hw _ (List.mem_of_getElem? (i := 106) rfl)) (hw _ (List.mem_of_getElem? (i := 108) rfl)) (hw _ (List.mem_of_getElem? (i := 103) rfl)) rfl (hw _ (List.mem_of_getElem? (i := 107) rfl)) (hw _ (List.mem_of_getElem? (i := 2) rfl)) (hw _ (List.mem_of_getElem? (i := 109) rfl)) (by decide) pd_2932898788 (argsL := [(.ref b181)]) rfl (rm_setMutations l Z a0 hw n0 h183 X.n0le b174 b181 (.ref mu) ga_b174 E_b174 E_b181 F_b174_mutations (.ref a_WRITE) F_b174_durability (.int (1 : Int32)) F_b174_allowCreate) (by rw [hml]; rfl) rfl (by decide) (leB rfl) (hb hby at_171) (by decide) (by decide) (fun T h185 v X hQ => ?_)
          obtain ⟨rfl, K, F_b174_mutations, F_b174_durability, F_b174_allowCreate⟩ := hQ
          have O_ := O_.keep K (allS ga_b174 all0)
          have E_b174 := E_b174.keep K
          have E_mu := E_mu.keep K
          have E_b178 := E_b178.keep K
          have E_b181 := E_b181.keep K
          show Goes _ _ _ _ _ _ _ _ T (mkF m 174 #[.val (.int p0), .val (.int (1 : Int32)), .val (.int (0 : Int32)), .val (.int (0 : Int32)), .val (.int (0 : Int32)), .val (.ref b174), .val (.ref b178), .val (.ref b181), .val (.ref mu), .val (.int (1 : Int32)), .val (.ref b181), .unset, .unset] [])
          refine Goes.by (g' := (mkF m 176 #[.val (.int p0), .val (.int (1 : Int32)), .val (.int (0 : Int32)), .val (.int (0 : Int32)), .val (.int (0 : Int32)), .val (.ref b174), .val (.ref b178), .val (.ref b181), .val (.ref mu), .val (.int (1 : Int32)), .val (.ref b181), .unset, .unset] [(.ref b174)])) (fun _ q => XS.aload X.here X.hx rfl (hb hby at_174) rfl rfl q) ?_
          have X_o := X
          refine X.callV E_b174 (hw _ (List.mem_of_getElem? (i := 100) rfl)) (hw _ (List.mem_of_getElem? (i := 101) rfl)) (hw _ (List.mem_of_getElem? (i := 103) rfl)) (hw _ (List.mem_of_getElem? (i := 103) rfl)) rfl (hw _ (List.mem_of_getElem? (i := 102) rfl)) (hw _ (List.mem_of_getElem? (i := 2) rfl)) (hw _ (List.mem_of_getElem? (i := 104) rfl)) (by decide) pd_2544813166 (argsL := []) rfl (rm_getMutations l Z a0 hw n0 h185 X.n0le b174 b181  F_b174_mutations) (by rw [hml]; rfl) rfl (by decide) (leB rfl) (hb hby at_176) (by decide) (by decide) (fun T h186 v X hQ => ?_)
          obtain ⟨rfl, hh⟩ := hQ
          rw [hh] at X
          clear hh
          show Goes _ _ _ _ _ _ _ _ T (mkF m 179 #[.val (.int p0), .val (.int (1 : Int32)), .val (.int (0 : Int32)), .val (.int (0 : Int32)), .val (.int (0 : Int32)), .val (.ref b174), .val (.ref b178), .val (.ref b181), .val (.ref mu), .val (.int (1 : Int32)), .val (.ref b181), .unset, .unset] [(.ref b181)])
          refine Goes.by (g' := (mkF m 181 #[.val (.int p0), .val (.int (1 : Int32)), .val (.int (0 : Int32)), .val (.int (0 : Int32)), .val (.int (0 : Int32)), .val (.ref b174), .val (.ref b178), .val (.ref b181), .val (.ref mu), .val (.int (1 : Int32)), .val (.ref b181), .val (.ref b181), .unset] [])) (fun _ q => XS.astore X.here X.hx rfl (hb hby at_179) rfl rfl (l' := #[.val (.int p0), .val (.int (1 : Int32)), .val (.int (0 : Int32)), .val (.int (0 : Int32)), .val (.int (0 : Int32)), .val (.ref b174), .val (.ref b178), .val (.ref b181), .val (.ref mu), .val (.int (1 : Int32)), .val (.ref b181), .val (.ref b181), .unset]) rfl q) ?_
          refine Goes.by (g' := (mkF m 182 #[.val (.int p0), .val (.int (1 : Int32)), .val (.int (0 : Int32)), .val (.int (0 : Int32)), .val (.int (0 : Int32)), .val (.ref b174), .val (.ref b178), .val (.ref b181), .val (.ref mu), .val (.int (1 : Int32)), .val (.ref b181), .val (.ref b181), .unset] [(.int (0 : Int32))])) (fun _ q => XS.iloadN X.here X.hx rfl (hb hby at_181) rfl q) ?_
          refine Goes.by (g' := (mkF m 191 #[.val (.int p0), .val (.int (1 : Int32)), .val (.int (0 : Int32)), .val (.int (0 : Int32)), .val (.int (0 : Int32)), .val (.ref b174), .val (.ref b178), .val (.ref b181), .val (.ref mu), .val (.int (1 : Int32)), .val (.ref b181), .val (.ref b181), .unset] [])) (fun _ q => XS.ifYes X.here X.hx rfl (pc0 := 182) (pc' := 191) rfl (hb hby at_182) rfl ((if0 _ _).trans (teq (show (0 : Int32) = (0 : Int32) from (by decide))).1) (by decide) (by decide) q) ?_
          refine X.getS (Or.inl (hw _ (List.mem_of_getElem? (i := 123) rfl))) (host := "") Via.refl (S_WRITE.ext O_.2) (hb hby at_191) (fun T X => ?_)
          show Goes _ _ _ _ _ _ _ _ T (mkF m 194 #[.val (.int p0), .val (.int (1 : Int32)), .val (.int (0 : Int32)), .val (.int (0 : Int32)), .val (.int (0 : Int32)), .val (.ref b174), .val (.ref b178), .val (.ref b181), .val (.ref mu), .val (.int (1 : Int32)), .val (.ref b181), .val (.ref b181), .unset] [(.ref a_WRITE)])
          refine Goes.by (g' := (mkF m 196 #[.val (.int p0), .val (.int (1 : Int32)), .val (.int (0 : Int32)), .val (.int (0 : Int32)), .val (.int (0 : Int32)), .val (.ref b174), .val (.ref b178), .val (.ref b181), .val (.ref mu), .val (.int (1 : Int32)), .val (.ref b181), .val (.ref b181), .val (.ref a_WRITE)] [])) (fun _ q => XS.astore X.here X.hx rfl (hb hby at_194) rfl rfl (l' := #[.val (.int p0), .val (.int (1 : Int32)), .val (.int (0 : Int32)), .val (.int (0 : Int32)), .val (.int (0 : Int32)), .val (.ref b174), .val (.ref b178), .val (.ref b181), .val (.ref mu), .val (.int (1 : Int32)), .val (.ref b181), .val (.ref b181), .val (.ref a_WRITE)]) rfl q) ?_
          refine Goes.by (g' := (mkF m 198 #[.val (.int p0), .val (.int (1 : Int32)), .val (.int (0 : Int32)), .val (.int (0 : Int32)), .val (.int (0 : Int32)), .val (.ref b174), .val (.ref b178), .val (.ref b181), .val (.ref mu), .val (.int (1 : Int32)), .val (.ref b181), .val (.ref b181), .val (.ref a_WRITE)] [(.int (1 : Int32))])) (fun _ q => XS.iload X.here X.hx rfl (hb hby at_196) rfl q) ?_
          refine Goes.by (g' := (mkF m 201 #[.val (.int p0), .val (.int (1 : Int32)), .val (.int (0 : Int32)), .val (.int (0 : Int32)), .val (.int (0 : Int32)), .val (.ref b174), .val (.ref b178), .val (.ref b181), .val (.ref mu), .val (.int (1 : Int32)), .val (.ref b181), .val (.ref b181), .val (.ref a_WRITE)] [])) (fun _ q => XS.ifNo X.here X.hx rfl (hb hby at_198) rfl ((if0 _ _).trans (feq (show ¬ (1 : Int32) = (0 : Int32) from (by decide))).1) q) ?_
          refine Goes.by (g' := (mkF m 203 #[.val (.int p0), .val (.int (1 : Int32)), .val (.int (0 : Int32)), .val (.int (0 : Int32)), .val (.int (0 : Int32)), .val (.ref b174), .val (.ref b178), .val (.ref b181), .val (.ref mu), .val (.int (1 : Int32)), .val (.ref b181), .val (.ref b181), .val (.ref a_WRITE)] [(.ref b181)])) (fun _ q => XS.aload X.here X.hx rfl (hb hby at_201) rfl rfl q) ?_
          refine Goes.by (g' := (mkF m 205 #[.val (.int p0), .val (.int (1 : Int32)), .val (.int (0 : Int32)), .val (.int (0 : Int32)), .val (.int (0 : Int32)), .val (.ref b174), .val (.ref b178), .val (.ref b181), .val (.ref mu), .val (.int (1 : Int32)), .val (.ref b181), .val (.ref b181), .val (.ref a_WRITE)] [(.ref b181), (.ref b181)])) (fun _ q => XS.aload X.here X.hx rfl (hb hby at_203) rfl rfl q) ?_
          refine X.acmp rfl rfl (cd := .ne) (x := (.ref b181)) (y := (.ref b181)) (same := true) (pc' := 208) (hb hby at_205) (decide_eq_true rfl) (by decide) (by decide) ?_
          show Goes _ _ _ _ _ _ _ _ T (mkF m 208 #[.val (.int p0), .val (.int (1 : Int32)), .val (.int (0 : Int32)), .val (.int (0 : Int32)), .val (.int (0 : Int32)), .val (.ref b174), .val (.ref b178), .val (.ref b181), .val (.ref mu), .val (.int (1 : Int32)), .val (.ref b181), .val (.ref b181), .val (.ref a_WRITE)] [])
          refine Goes.by (g' := (mkF m 210 #[.val (.int p0), .val (.int (1 : Int32)), .val (.int (0 : Int32)), .val (.int (0 : Int32)), .val (.int (0 : Int32)), .val (.ref b174), .val (.ref b178), .val (.ref b181), .val (.ref mu), .val (.int (1 : Int32)), .val (.ref b181), .val (.ref b181), .val (.ref a_WRITE)] [(.ref b174)])) (fun _ q => XS.aload X.here X.hx rfl (hb hby at_208) rfl rfl q) ?_
          have X_o := X
          refine X.callV E_b174 (hw _ (List.mem_of_getElem? (i := 124) rfl)) (hw _ (List.mem_of_getElem? (i := 125) rfl)) (hw _ (List.mem_of_getElem? (i := 127) rfl)) (hw _ (List.mem_of_getElem? (i := 103) rfl)) rfl (hw _ (List.mem_of_getElem? (i := 126) rfl)) (hw _ (List.mem_of_getElem? (i := 2) rfl)) (hw _ (List.mem_of_getElem? (i := 128) rfl)) (by decide) pd_193422000 (argsL := []) rfl (rm_getAllowCreate l Z a0 hw n0 h185 X.n0le b174 (1 : Int32) (by decide) F_b174_allowCreate) (by rw [hml]; rfl) rfl (by decide) (leB rfl) (hb hby at_210) (by decide) (by decide) (fun T h187 v X hQ => ?_)
          obtain ⟨rfl, hh⟩ := hQ
          rw [hh] at X
          clear hh
          show Goes _ _ _ _ _ _ _ _ T (mkF m 213 #[.val (.int p0), .val (.int (1 : Int32)), .val (.int (0 : Int32)), .val (.int (0 : Int32)), .val (.int (0 : Int32)), .val (.ref b174), .val (.ref b178), .val (.ref b181), .val (.ref mu), .val (.int (1 : Int32)), .val (.ref b181), .val (.ref b181), .val (.ref a_WRITE)] [(.int (1 : Int32))])
          refine Goes.by (g' := (mkF m 214 #[.val (.int p0), .val (.int (1 : Int32)), .val (.int (0 : Int32)), .val (.int (0 : Int32)), .val (.int (0 : Int32)), .val (.ref b174), .val (.ref b178), .val (.ref b181), .val (.ref mu), .val (.int (1 : Int32)), .val (.ref b181), .val (.ref b181), .val (.ref a_WRITE)] [(.int (1 : Int32)), (.int (1 : Int32))])) (fun _ q => XS.iloadN X.here X.hx rfl (hb hby at_213) rfl q) ?_
          refine Goes.by (g' := (mkF m 217 #[.val (.int p0), .val (.int (1 : Int32)), .val (.int (0 : Int32)), .val (.int (0 : Int32)), .val (.int (0 : Int32)), .val (.ref b174), .val (.ref b178), .val (.ref b181), .val (.ref mu), .val (.int (1 : Int32)), .val (.ref b181), .val (.ref b181), .val (.ref a_WRITE)] [])) (fun _ q => XS.icmpNo X.here X.hx rfl (hb hby at_214) rfl (teq (show (1 : Int32) = (1 : Int32) from (by decide))).2 q) ?_
          refine Goes.by (g' := (mkF m 219 #[.val (.int p0), .val (.int (1 : Int32)), .val (.int (0 : Int32)), .val (.int (0 : Int32)), .val (.int (0 : Int32)), .val (.ref b174), .val (.ref b178), .val (.ref b181), .val (.ref mu), .val (.int (1 : Int32)), .val (.ref b181), .val (.ref b181), .val (.ref a_WRITE)] [(.ref b174)])) (fun _ q => XS.aload X.here X.hx rfl (hb hby at_217) rfl rfl q) ?_
          have X_o := X
          refine X.callV E_b174 (hw _ (List.mem_of_getElem? (i := 131) rfl)) (hw _ (List.mem_of_getElem? (i := 132) rfl)) (hw _ (List.mem_of_getElem? (i := 134) rfl)) (hw _ (List.mem_of_getElem? (i := 103) rfl)) rfl (hw _ (List.mem_of_getElem? (i := 133) rfl)) (hw _ (List.mem_of_getElem? (i := 2) rfl)) (hw _ (List.mem_of_getElem? (i := 135) rfl)) (by decide) pd_2323304547 (argsL := []) rfl (rm_getDurability l Z a0 hw n0 h185 X.n0le b174 a_WRITE  F_b174_durability) (by rw [hml]; rfl) rfl (by decide) (leB rfl) (hb hby at_219) (by decide) (by decide) (fun T h188 v X hQ => ?_)
          obtain ⟨rfl, hh⟩ := hQ
          rw [hh] at X
          clear hh
          show Goes _ _ _ _ _ _ _ _ T (mkF m 222 #[.val (.int p0), .val (.int (1 : Int32)), .val (.int (0 : Int32)), .val (.int (0 : Int32)), .val (.int (0 : Int32)), .val (.ref b174), .val (.ref b178), .val (.ref b181), .val (.ref mu), .val (.int (1 : Int32)), .val (.ref b181), .val (.ref b181), .val (.ref a_WRITE)] [(.ref a_WRITE)])
          refine Goes.by (g' := (mkF m 224 #[.val (.int p0), .val (.int (1 : Int32)), .val (.int (0 : Int32)), .val (.int (0 : Int32)), .val (.int (0 : Int32)), .val (.ref b174), .val (.ref b178), .val (.ref b181), .val (.ref mu), .val (.int (1 : Int32)), .val (.ref b181), .val (.ref b181), .val (.ref a_WRITE)] [(.ref a_WRITE), (.ref a_WRITE)])) (fun _ q => XS.aload X.here X.hx rfl (hb hby at_222) rfl rfl q) ?_
          refine X.acmp rfl rfl (cd := .ne) (x := (.ref a_WRITE)) (y := (.ref a_WRITE)) (same := true) (pc' := 227) (hb hby at_224) (decide_eq_true rfl) (by decide) (by decide) ?_
          show Goes _ _ _ _ _ _ _ _ T (mkF m 227 #[.val (.int p0), .val (.int (1 : Int32)), .val (.int (0 : Int32)), .val (.int (0 : Int32)), .val (.int (0 : Int32)), .val (.ref b174), .val (.ref b178), .val (.ref b181), .val (.ref mu), .val (.int (1 : Int32)), .val (.ref b181), .val (.ref b181), .val (.ref a_WRITE)] [])
          refine Goes.by (g' := (mkF m 228 #[.val (.int p0), .val (.int (1 : Int32)), .val (.int (0 : Int32)), .val (.int (0 : Int32)), .val (.int (0 : Int32)), .val (.ref b174), .val (.ref b178), .val (.ref b181), .val (.ref mu), .val (.int (1 : Int32)), .val (.ref b181), .val (.ref b181), .val (.ref a_WRITE)] [(.int (1 : Int32))])) (fun _ q => XS.iconst X.here X.hx rfl (hb hby at_227) q) ?_
          refine Goes.by (g' := (mkF m 232 #[.val (.int p0), .val (.int (1 : Int32)), .val (.int (0 : Int32)), .val (.int (0 : Int32)), .val (.int (0 : Int32)), .val (.ref b174), .val (.ref b178), .val (.ref b181), .val (.ref mu), .val (.int (1 : Int32)), .val (.ref b181), .val (.ref b181), .val (.ref a_WRITE)] [(.int (1 : Int32))])) (fun _ q => XS.goto X.here X.hx rfl (pc0 := 228) (pc' := 232) rfl (hb hby at_228) (by decide) (by decide) q) ?_
          exact X.retZ hret (hb hby at_232) (by decide) (by decide) rfl
        · skip
          refine Goes.by (g' := (mkF m 43 #[.val (.int p0), .val (.int (1 : Int32)), .val (.int (0 : Int32)), .val (.int (0 : Int32)), .unset, .unset, .unset, .unset, .unset, .unset, .unset, .unset, .unset] [])) (fun _ q => XS.ifNo X.here X.hx rfl (hb hby at_40) rfl ((if0 _ _).trans (feq hB173).1) q) ?_
          refine Goes.by (g' := (mkF m 44 #[.val (.int p0), .val (.int (1 : Int32)), .val (.int (0 : Int32)), .val (.int (0 : Int32)), .unset, .unset, .unset, .unset, .unset, .unset, .unset, .unset, .unset] [(.int (1 : Int32))])) (fun _ q => XS.iconst X.here X.hx rfl (hb hby at_43) q) ?_
          refine Goes.by (g' := (mkF m 48 #[.val (.int p0), .val (.int (1 : Int32)), .val (.int (0 : Int32)), .val (.int (0 : Int32)), .unset, .unset, .unset, .unset, .unset, .unset, .unset, .unset, .unset] [(.int (1 : Int32))])) (fun _ q => XS.goto X.here X.hx rfl (pc0 := 44) (pc' := 48) rfl (hb hby at_44) (by decide) (by decide) q) ?_
          refine Goes.by (g' := (mkF m 50 #[.val (.int p0), .val (.int (1 : Int32)), .val (.int (0 : Int32)), .val (.int (0 : Int32)), .val (.int (1 : Int32)), .unset, .unset, .unset, .unset, .unset, .unset, .unset, .unset] [])) (fun _ q => XS.istore X.here X.hx rfl (hb hby at_48) rfl (l' := #[.val (.int p0), .val (.int (1 : Int32)), .val (.int (0 : Int32)), .val (.int (0 : Int32)), .val (.int (1 : Int32)), .unset, .unset, .unset, .unset, .unset, .unset, .unset, .unset]) rfl q) ?_
          refine X.newO (hw _ (List.mem_of_getElem? (i := 0) rfl)) (hw _ (List.mem_of_getElem? (i := 1) rfl)) (hw _ (List.mem_of_getElem? (i := 2) rfl)) (hb hby at_50) (by decide) (by decide) (fun T h190 b189 X g_b189 ga_b189 E E_b189 D_b189 => ?_)
          have O_ := O_.ext E
          have F_b189_mutations : Fld Z h190 b189 "com/example/hafiza/hafiza/StoreConfig" "mutations" "Lcom/example/hafiza/hafiza/Mutations;" .null := D_b189 (Or.inl (hw _ (List.mem_of_getElem? (i := 92) rfl))) (ty := (.object "com/example/hafiza/hafiza/Mutations")) (by decide)
          have F_b189_durability : Fld Z h190 b189 "com/example/hafiza/hafiza/StoreConfig" "durability" "Lcom/example/hafiza/hafiza/Durability;" .null := D_b189 (Or.inl (hw _ (List.mem_of_getElem? (i := 97) rfl))) (ty := (.object "com/example/hafiza/hafiza/Durability")) (by decide)
          have F_b189_allowCreate : Fld Z h190 b189 "com/example/hafiza/hafiza/StoreConfig" "allowCreate" "Z" (.int (0 : Int32)) := D_b189 (Or.inl (hw _ (List.mem_of_getElem? (i := 130) rfl))) (ty := .boolean) (by decide)
          show Goes _ _ _ _ _ _ _ _ T (mkF m 53 #[.val (.int p0), .val (.int (1 : Int32)), .val (.int (0 : Int32)), .val (.int (0 : Int32)), .val (.int (1 : Int32)), .unset, .unset, .unset, .unset, .unset, .unset, .unset, .unset] [(.ref b189)])
          refine Goes.by (g' := (mkF m 54 #[.val (.int p0), .val (.int (1 : Int32)), .val (.int (0 : Int32)), .val (.int (0 : Int32)), .val (.int (1 : Int32)), .unset, .unset, .unset, .unset, .unset, .unset, .unset, .unset] [(.ref b189), (.ref b189)])) (fun _ q => XS.dup X.here X.hx rfl (hb hby at_53) rfl rfl q) ?_
          have X_o := X
          refine X.callN rfl (hw _ (List.mem_of_getElem? (i := 3) rfl)) (hw _ (List.mem_of_getElem? (i := 4) rfl)) (hw _ (List.mem_of_getElem? (i := 2) rfl)) (hw _ (List.mem_of_getElem? (i := 5) rfl)) (by decide) pd_193421996 (argsL := []) rfl (rmSC l Z a0 hw n0 h190 X.n0le b189 ga_b189 E_b189 F_b189_mutations F_b189_durability F_b189_allowCreate a_WRITE S_WRITE O_) (by rw [hml]; rfl) rfl (by decide) (leB rfl) (hb hby at_54) (by decide) (by decide) (fun T h191 v X hQ => ?_)
          obtain ⟨rfl, K, mu, gz, E_mu, F_b189_mutations, F_b189_durability, F_b189_allowCreate⟩ := hQ
          have ga_mu : n0 ≤ mu := Nat.le_trans X_o.n0le gz
          have ne_b189_mu : b189 ≠ mu := Nat.ne_of_lt (Nat.lt_of_lt_of_le E_b189.lt gz)
          have O_ := O_.keep K (allS ga_b189 all0)
          have E_b189 := E_b189.keep K
          show Goes _ _ _ _ _ _ _ _ T (mkF m 57 #[.val (.int p0), .val (.int (1 : Int32)), .val (.int (0 : Int32)), .val (.int (0 : Int32)), .val (.int (1 : Int32)), .unset, .unset, .unset, .unset, .unset, .unset, .unset, .unset] [(.ref b189)])
          refine Goes.by (g' := (mkF m 59 #[.val (.int p0), .val (.int (1 : Int32)), .val (.int (0 : Int32)), .val (.int (0 : Int32)), .val (.int (1 : Int32)), .val (.ref b189), .unset, .unset, .unset, .unset, .unset, .unset, .unset] [])) (fun _ q => XS.astore X.here X.hx rfl (hb hby at_57) rfl rfl (l' := #[.val (.int p0), .val (.int (1 : Int32)), .val (.int (0 : Int32)), .val (.int (0 : Int32)), .val (.int (1 : Int32)), .val (.ref b189), .unset, .unset, .unset, .unset, .unset, .unset, .unset]) rfl q) ?_
          refine Goes.by (g' := (mkF m 60 #[.val (.int p0), .val (.int (1 : Int32)), .val (.int (0 : Int32)), .val (.int (0 : Int32)), .val (.int (1 : Int32)), .val (.ref b189), .unset, .unset, .unset, .unset, .unset, .unset, .unset] [(.int (1 : Int32))])) (fun _ q => XS.iloadN X.here X.hx rfl (hb hby at_59) rfl q) ?_
          refine Goes.by (g' := (mkF m 63 #[.val (.int p0), .val (.int (1 : Int32)), .val (.int (0 : Int32)), .val (.int (0 : Int32)), .val (.int (1 : Int32)), .val (.ref b189), .unset, .unset, .unset, .unset, .unset, .unset, .unset] [])) (fun _ q => XS.ifNo X.here X.hx rfl (hb hby at_60) rfl ((if0 _ _).trans (feq (show ¬ (1 : Int32) = (0 : Int32) from (by decide))).1) q) ?_
          refine Goes.by (g' := (mkF m 65 #[.val (.int p0), .val (.int (1 : Int32)), .val (.int (0 : Int32)), .val (.int (0 : Int32)), .val (.int (1 : Int32)), .val (.ref b189), .unset, .unset, .unset, .unset, .unset, .unset, .unset] [(.ref b189)])) (fun _ q => XS.aload X.here X.hx rfl (hb hby at_63) rfl rfl q) ?_
          refine Goes.by (g' := (mkF m 66 #[.val (.int p0), .val (.int (1 : Int32)), .val (.int (0 : Int32)), .val (.int (0 : Int32)), .val (.int (1 : Int32)), .val (.ref b189), .unset, .unset, .unset, .unset, .unset, .unset, .unset] [(.int (1 : Int32)), (.ref b189)])) (fun _ q => XS.iconst X.here X.hx rfl (hb hby at_65) q) ?_
          have X_o := X
          refine X.callV E_b189 (hw _ (List.mem_of_getElem? (i := 136) rfl)) (hw _ (List.mem_of_getElem? (i := 137) rfl)) (hw _ (List.mem_of_getElem? (i := 139) rfl)) (hw _ (List.mem_of_getElem? (i := 103) rfl)) rfl (hw _ (List.mem_of_getElem? (i := 138) rfl)) (hw _ (List.mem_of_getElem? (i := 2) rfl)) (hw _ (List.mem_of_getElem? (i := 140) rfl)) (by decide) pd_2088010534 (argsL := [(.int (1 : Int32))]) rfl (rm_setAllowCreate l Z a0 hw n0 h191 X.n0le b189  (.int (0 : Int32)) ga_b189 E_b189  F_b189_allowCreate (.ref mu) F_b189_mutations (.ref a_WRITE) F_b189_durability) (by rw [hml]; rfl) rfl (by decide) (leB rfl) (hb hby at_66) (by decide) (by decide) (fun T h192 v X hQ => ?_)
          obtain ⟨rfl, K, F_b189_allowCreate, F_b189_mutations, F_b189_durability⟩ := hQ
          have O_ := O_.keep K (allS ga_b189 all0)
          have E_b189 := E_b189.keep K
          have E_mu := E_mu.keep K
          show Goes _ _ _ _ _ _ _ _ T (mkF m 69 #[.val (.int p0), .val (.int (1 : Int32)), .val (.int (0 : Int32)), .val (.int (0 : Int32)), .val (.int (1 : Int32)), .val (.ref b189), .unset, .unset, .unset, .unset, .unset, .unset, .unset] [])
          refine Goes.by (g' := (mkF m 70 #[.val (.int p0), .val (.int (1 : Int32)), .val (.int (0 : Int32)), .val (.int (0 : Int32)), .val (.int (1 : Int32)), .val (.ref b189), .unset, .unset, .unset, .unset, .unset, .unset, .unset] [(.int (0 : Int32))])) (fun _ q => XS.iloadN X.here X.hx rfl (hb hby at_69) rfl q) ?_
          refine Goes.by (g' := (mkF m 81 #[.val (.int p0), .val (.int (1 : Int32)), .val (.int (0 : Int32)), .val (.int (0 : Int32)), .val (.int (1 : Int32)), .val (.ref b189), .unset, .unset, .unset, .unset, .unset, .unset, .unset] [])) (fun _ q => XS.ifYes X.here X.hx rfl (pc0 := 70) (pc' := 81) rfl (hb hby at_70) rfl ((if0 _ _).trans (teq (show (0 : Int32) = (0 : Int32) from (by decide))).1) (by decide) (by decide) q) ?_
          refine X.newO (hw _ (List.mem_of_getElem? (i := 98) rfl)) (hw _ (List.mem_of_getElem? (i := 10) rfl)) (hw _ (List.mem_of_getElem? (i := 11) rfl)) (hb hby at_81) (by decide) (by decide) (fun T h194 b193 X g_b193 ga_b193 E E_b193 D_b193 => ?_)
          have ne_b189_b193 : b189 ≠ b193 := by rw [g_b193]; exact Nat.ne_of_lt E_b189.lt
          have ne_mu_b193 : mu ≠ b193 := by rw [g_b193]; exact Nat.ne_of_lt E_mu.lt
          have O_ := O_.ext E
          have E_b189 := E_b189.ext E
          have E_mu := E_mu.ext E
          have F_b189_allowCreate := F_b189_allowCreate.ext E
          have F_b189_mutations := F_b189_mutations.ext E
          have F_b189_durability := F_b189_durability.ext E
          have F_b193_renamers : Fld Z h194 b193 "com/example/hafiza/hafiza/Mutations" "renamers" "Ljava/util/Set;" .null := D_b193 (Or.inr (hw _ (List.mem_of_getElem? (i := 86) rfl))) (ty := (.object "java/util/Set")) (by decide)
          have F_b193_deleters : Fld Z h194 b193 "com/example/hafiza/hafiza/Mutations" "deleters" "Ljava/util/Set;" .null := D_b193 (Or.inr (hw _ (List.mem_of_getElem? (i := 88) rfl))) (ty := (.object "java/util/Set")) (by decide)
          have F_b193_converters : Fld Z h194 b193 "com/example/hafiza/hafiza/Mutations" "converters" "Ljava/util/Set;" .null := D_b193 (Or.inr (hw _ (List.mem_of_getElem? (i := 90) rfl))) (ty := (.object "java/util/Set")) (by decide)
          show Goes _ _ _ _ _ _ _ _ T (mkF m 84 #[.val (.int p0), .val (.int (1 : Int32)), .val (.int (0 : Int32)), .val (.int (0 : Int32)), .val (.int (1 : Int32)), .val (.ref b189), .unset, .unset, .unset, .unset, .unset, .unset, .unset] [(.ref b193)])
          refine Goes.by (g' := (mkF m 85 #[.val (.int p0), .val (.int (1 : Int32)), .val (.int (0 : Int32)), .val (.int (0 : Int32)), .val (.int (1 : Int32)), .val (.ref b189), .unset, .unset, .unset, .unset, .unset, .unset, .unset] [(.ref b193), (.ref b193)])) (fun _ q => XS.dup X.here X.hx rfl (hb hby at_84) rfl rfl q) ?_
          have X_o := X
          refine X.callN rfl (hw _ (List.mem_of_getElem? (i := 99) rfl)) (hw _ (List.mem_of_getElem? (i := 13) rfl)) (hw _ (List.mem_of_getElem? (i := 11) rfl)) (hw _ (List.mem_of_getElem? (i := 14) rfl)) (by decide) pd_193421996 (argsL := []) rfl (rmMU l Z a0 hw n0 h194 X.n0le b193 ga_b193 E_b193 F_b193_renamers F_b193_deleters F_b193_converters) (by rw [hml]; rfl) rfl (by decide) (leB rfl) (hb hby at_85) (by decide) (by decide) (fun T h195 v X hQ => ?_)
          obtain ⟨rfl, K⟩ := hQ
          have O_ := O_.keep K (allS ga_b193 all0)
          have E_b189 := E_b189.keep K
          have E_mu := E_mu.keep K
          have F_b189_allowCreate := F_b189_allowCreate.keep K (ninS ne_b189_b193 nin0)
          have F_b189_mutations := F_b189_mutations.keep K (ninS ne_b189_b193 nin0)
          have F_b189_durability := F_b189_durability.keep K (ninS ne_b189_b193 nin0)
          have E_b193 := E_b193.keep K
          show Goes _ _ _ _ _ _ _ _ T (mkF m 88 #[.val (.int p0), .val (.int (1 : Int32)), .val (.int (0 : Int32)), .val (.int (0 : Int32)), .val (.int (1 : Int32)), .val (.ref b189), .unset, .unset, .unset, .unset, .unset, .unset, .unset] [(.ref b193)])
          refine Goes.by (g' := (mkF m 90 #[.val (.int p0), .val (.int (1 : Int32)), .val (.int (0 : Int32)), .val (.int (0 : Int32)), .val (.int (1 : Int32)), .val (.ref b189), .val (.ref b193), .unset, .unset, .unset, .unset, .unset, .unset] [])) (fun _ q => XS.astore X.here X.hx rfl (hb hby at_88) rfl rfl (l' := #[.val (.int p0), .val (.int (1 : Int32)), .val (.int (0 : Int32)), .val (.int (0 : Int32)), .val (.int (1 : Int32)), .val (.ref b189), .val (.ref b193), .unset, .unset, .unset, .unset, .unset, .unset]) rfl q) ?_
          refine X.newO (hw _ (List.mem_of_getElem? (i := 98) rfl)) (hw _ (List.mem_of_getElem? (i := 10) rfl)) (hw _ (List.mem_of_getElem? (i := 11) rfl)) (hb hby at_90) (by decide) (by decide) (fun T h197 b196 X g_b196 ga_b196 E E_b196 D_b196 => ?_)
          have ne_b189_b196 : b189 ≠ b196 := by rw [g_b196]; exact Nat.ne_of_lt E_b189.lt
          have ne_mu_b196 : mu ≠ b196 := by rw [g_b196]; exact Nat.ne_of_lt E_mu.lt
          have ne_b193_b196 : b193 ≠ b196 := by rw [g_b196]; exact Nat.ne_of_lt E_b193.lt
          have O_ := O_.ext E
          have E_b189 := E_b189.ext E
          have E_mu := E_mu.ext E
          have F_b189_allowCreate := F_b189_allowCreate.ext E
          have F_b189_mutations := F_b189_mutations.ext E
          have F_b189_durability := F_b189_durability.ext E
          have E_b193 := E_b193.ext E
          have F_b196_renamers : Fld Z h197 b196 "com/example/hafiza/hafiza/Mutations" "renamers" "Ljava/util/Set;" .null := D_b196 (Or.inr (hw _ (List.mem_of_getElem? (i := 86) rfl))) (ty := (.object "java/util/Set")) (by decide)
          have F_b196_deleters : Fld Z h197 b196 "com/example/hafiza/hafiza/Mutations" "deleters" "Ljava/util/Set;" .null := D_b196 (Or.inr (hw _ (List.mem_of_getElem? (i := 88) rfl))) (ty := (.object "java/util/Set")) (by decide)
          have F_b196_converters : Fld Z h197 b196 "com/example/hafiza/hafiza/Mutations" "converters" "Ljava/util/Set;" .null := D_b196 (Or.inr (hw _ (List.mem_of_getElem? (i := 90) rfl))) (ty := (.object "java/util/Set")) (by decide)
          show Goes _ _ _ _ _ _ _ _ T (mkF m 93 #[.val (.int p0), .val (.int (1 : Int32)), .val (.int (0 : Int32)), .val (.int (0 : Int32)), .val (.int (1 : Int32)), .val (.ref b189), .val (.ref b193), .unset, .unset, .unset, .unset, .unset, .unset] [(.ref b196)])
          refine Goes.by (g' := (mkF m 94 #[.val (.int p0), .val (.int (1 : Int32)), .val (.int (0 : Int32)), .val (.int (0 : Int32)), .val (.int (1 : Int32)), .val (.ref b189), .val (.ref b193), .unset, .unset, .unset, .unset, .unset, .unset] [(.ref b196), (.ref b196)])) (fun _ q => XS.dup X.here X.hx rfl (hb hby at_93) rfl rfl q) ?_
          have X_o := X
          refine X.callN rfl (hw _ (List.mem_of_getElem? (i := 99) rfl)) (hw _ (List.mem_of_getElem? (i := 13) rfl)) (hw _ (List.mem_of_getElem? (i := 11) rfl)) (hw _ (List.mem_of_getElem? (i := 14) rfl)) (by decide) pd_193421996 (argsL := []) rfl (rmMU l Z a0 hw n0 h197 X.n0le b196 ga_b196 E_b196 F_b196_renamers F_b196_deleters F_b196_converters) (by rw [hml]; rfl) rfl (by decide) (leB rfl) (hb hby at_94) (by decide) (by decide) (fun T h198 v X hQ => ?_)
          obtain ⟨rfl, K⟩ := hQ
          have O_ := O_.keep K (allS ga_b196 all0)
          have E_b189 := E_b189.keep K
          have E_mu := E_mu.keep K
          have F_b189_allowCreate := F_b189_allowCreate.keep K (ninS ne_b189_b196 nin0)
          have F_b189_mutations := F_b189_mutations.keep K (ninS ne_b189_b196 nin0)
          have F_b189_durability := F_b189_durability.keep K (ninS ne_b189_b196 nin0)
          have E_b193 := E_b193.keep K
          have E_b196 := E_b196.keep K
          show Goes _ _ _ _ _ _ _ _ T (mkF m 97 #[.val (.int p0), .val (.int (1 : Int32)), .val (.int (0 : Int32)), .val (.int (0 : Int32)), .val (.int (1 : Int32)), .val (.ref b189), .val (.ref b193), .unset, .unset, .unset, .unset, .unset, .unset] [(.ref b196)])
          refine Goes.by (g' := (mkF m 99 #[.val (.int p0), .val (.int (1 : Int32)), .val (.int (0 : Int32)), .val (.int (0 : Int32)), .val (.int (1 : Int32)), .val (.ref b189), .val (.ref b193), .val (.ref b196), .unset, .unset, .unset, .unset, .unset] [])) (fun _ q => XS.astore X.here X.hx rfl (hb hby at_97) rfl rfl (l' := #[.val (.int p0), .val (.int (1 : Int32)), .val (.int (0 : Int32)), .val (.int (0 : Int32)), .val (.int (1 : Int32)), .val (.ref b189), .val (.ref b193), .val (.ref b196), .unset, .unset, .unset, .unset, .unset]) rfl q) ?_
          refine Goes.by (g' := (mkF m 101 #[.val (.int p0), .val (.int (1 : Int32)), .val (.int (0 : Int32)), .val (.int (0 : Int32)), .val (.int (1 : Int32)), .val (.ref b189), .val (.ref b193), .val (.ref b196), .unset, .unset, .unset, .unset, .unset] [(.ref b189)])) (fun _ q => XS.aload X.here X.hx rfl (hb hby at_99) rfl rfl q) ?_
          have X_o := X
          refine X.callV E_b189 (hw _ (List.mem_of_getElem? (i := 100) rfl)) (hw _ (List.mem_of_getElem? (i := 101) rfl)) (hw _ (List.mem_of_getElem? (i := 103) rfl)) (hw _ (List.mem_of_getElem? (i := 103) rfl)) rfl (hw _ (List.mem_of_getElem? (i := 102) rfl)) (hw _ (List.mem_of_getElem? (i := 2) rfl)) (hw _ (List.mem_of_getElem? (i := 104) rfl)) (by decide) pd_2544813166 (argsL := []) rfl (rm_getMutations l Z a0 hw n0 h198 X.n0le b189 mu  F_b189_mutations) (by rw [hml]; rfl) rfl (by decide) (leB rfl) (hb hby at_101) (by decide) (by decide) (fun T h199 v X hQ => ?_)
          obtain ⟨rfl, hh⟩ := hQ
          rw [hh] at X
          clear hh
          show Goes _ _ _ _ _ _ _ _ T (mkF m 104 #[.val (.int p0), .val (.int (1 : Int32)), .val (.int (0 : Int32)), .val (.int (0 : Int32)), .val (.int (1 : Int32)), .val (.ref b189), .val (.ref b193), .val (.ref b196), .unset, .unset, .unset, .unset, .unset] [(.ref mu)])
          refine Goes.by (g' := (mkF m 106 #[.val (.int p0), .val (.int (1 : Int32)), .val (.int (0 : Int32)), .val (.int (0 : Int32)), .val (.int (1 : Int32)), .val (.ref b189), .val (.ref b193), .val (.ref b196), .val (.ref mu), .unset, .unset, .unset, .unset] [])) (fun _ q => XS.astore X.here X.hx rfl (hb hby at_104) rfl rfl (l' := #[.val (.int p0), .val (.int (1 : Int32)), .val (.int (0 : Int32)), .val (.int (0 : Int32)), .val (.int (1 : Int32)), .val (.ref b189), .val (.ref b193), .val (.ref b196), .val (.ref mu), .unset, .unset, .unset, .unset]) rfl q) ?_
          refine Goes.by (g' := (mkF m 108 #[.val (.int p0), .val (.int (1 : Int32)), .val (.int (0 : Int32)), .val (.int (0 : Int32)), .val (.int (1 : Int32)), .val (.ref b189), .val (.ref b193), .val (.ref b196), .val (.ref mu), .unset, .unset, .unset, .unset] [(.ref mu)])) (fun _ q => XS.aload X.here X.hx rfl (hb hby at_106) rfl rfl q) ?_
          refine Goes.by (g' := (mkF m 111 #[.val (.int p0), .val (.int (1 : Int32)), .val (.int (0 : Int32)), .val (.int (0 : Int32)), .val (.int (1 : Int32)), .val (.ref b189), .val (.ref b193), .val (.ref b196), .val (.ref mu), .unset, .unset, .unset, .unset] [])) (fun _ q => XS.ifnullNo X.here X.hx rfl (hb hby at_108) rfl q) ?_
          refine Goes.by (g' := (mkF m 113 #[.val (.int p0), .val (.int (1 : Int32)), .val (.int (0 : Int32)), .val (.int (0 : Int32)), .val (.int (1 : Int32)), .val (.ref b189), .val (.ref b193), .val (.ref b196), .val (.ref mu), .unset, .unset, .unset, .unset] [(.ref mu)])) (fun _ q => XS.aload X.here X.hx rfl (hb hby at_111) rfl rfl q) ?_
          refine Goes.by (g' := (mkF m 115 #[.val (.int p0), .val (.int (1 : Int32)), .val (.int (0 : Int32)), .val (.int (0 : Int32)), .val (.int (1 : Int32)), .val (.ref b189), .val (.ref b193), .val (.ref b196), .val (.ref mu), .unset, .unset, .unset, .unset] [(.ref b193), (.ref mu)])) (fun _ q => XS.aload X.here X.hx rfl (hb hby at_113) rfl rfl q) ?_
          refine X.acmp rfl rfl (cd := .eq) (x := (.ref mu)) (y := (.ref b193)) (same := false) (pc' := 118) (hb hby at_115) (decide_eq_false fun q => ne_mu_b193 (Value.ref.inj q)) (by decide) (by decide) ?_
          show Goes _ _ _ _ _ _ _ _ T (mkF m 118 #[.val (.int p0), .val (.int (1 : Int32)), .val (.int (0 : Int32)), .val (.int (0 : Int32)), .val (.int (1 : Int32)), .val (.ref b189), .val (.ref b193), .val (.ref b196), .val (.ref mu), .unset, .unset, .unset, .unset] [])
          refine Goes.by (g' := (mkF m 120 #[.val (.int p0), .val (.int (1 : Int32)), .val (.int (0 : Int32)), .val (.int (0 : Int32)), .val (.int (1 : Int32)), .val (.ref b189), .val (.ref b193), .val (.ref b196), .val (.ref mu), .unset, .unset, .unset, .unset] [(.ref mu)])) (fun _ q => XS.aload X.here X.hx rfl (hb hby at_118) rfl rfl q) ?_
          refine Goes.by (g' := (mkF m 122 #[.val (.int p0), .val (.int (1 : Int32)), .val (.int (0 : Int32)), .val (.int (0 : Int32)), .val (.int (1 : Int32)), .val (.ref b189), .val (.ref b193), .val (.ref b196), .val (.ref mu), .unset, .unset, .unset, .unset] [(.ref b196), (.ref mu)])) (fun _ q => XS.aload X.here X.hx rfl (hb hby at_120) rfl rfl q) ?_
          refine X.acmp rfl rfl (cd := .eq) (x := (.ref mu)) (y := (.ref b196)) (same := false) (pc' := 125) (hb hby at_122) (decide_eq_false fun q => ne_mu_b196 (Value.ref.inj q)) (by decide) (by decide) ?_
          show Goes _ _ _ _ _ _ _ _ T (mkF m 125 #[.val (.int p0), .val (.int (1 : Int32)), .val (.int (0 : Int32)), .val (.int (0 : Int32)), .val (.int (1 : Int32)), .val (.ref b189), .val (.ref b193), .val (.ref b196), .val (.ref mu), .unset, .unset, .unset, .unset] [])
          refine Goes.by (g' := (mkF m 126 #[.val (.int p0), .val (.int (1 : Int32)), .val (.int (0 : Int32)), .val (.int (0 : Int32)), .val (.int (1 : Int32)), .val (.ref b189), .val (.ref b193), .val (.ref b196), .val (.ref mu), .unset, .unset, .unset, .unset] [(.int (1 : Int32))])) (fun _ q => XS.iconst X.here X.hx rfl (hb hby at_125) q) ?_
          refine Goes.by (g' := (mkF m 130 #[.val (.int p0), .val (.int (1 : Int32)), .val (.int (0 : Int32)), .val (.int (0 : Int32)), .val (.int (1 : Int32)), .val (.ref b189), .val (.ref b193), .val (.ref b196), .val (.ref mu), .unset, .unset, .unset, .unset] [(.int (1 : Int32))])) (fun _ q => XS.goto X.here X.hx rfl (pc0 := 126) (pc' := 130) rfl (hb hby at_126) (by decide) (by decide) q) ?_
          refine Goes.by (g' := (mkF m 132 #[.val (.int p0), .val (.int (1 : Int32)), .val (.int (0 : Int32)), .val (.int (0 : Int32)), .val (.int (1 : Int32)), .val (.ref b189), .val (.ref b193), .val (.ref b196), .val (.ref mu), .val (.int (1 : Int32)), .unset, .unset, .unset] [])) (fun _ q => XS.istore X.here X.hx rfl (hb hby at_130) rfl (l' := #[.val (.int p0), .val (.int (1 : Int32)), .val (.int (0 : Int32)), .val (.int (0 : Int32)), .val (.int (1 : Int32)), .val (.ref b189), .val (.ref b193), .val (.ref b196), .val (.ref mu), .val (.int (1 : Int32)), .unset, .unset, .unset]) rfl q) ?_
          refine Goes.by (g' := (mkF m 133 #[.val (.int p0), .val (.int (1 : Int32)), .val (.int (0 : Int32)), .val (.int (0 : Int32)), .val (.int (1 : Int32)), .val (.ref b189), .val (.ref b193), .val (.ref b196), .val (.ref mu), .val (.int (1 : Int32)), .unset, .unset, .unset] [(.int (0 : Int32))])) (fun _ q => XS.iloadN X.here X.hx rfl (hb hby at_132) rfl q) ?_
          refine Goes.by (g' := (mkF m 153 #[.val (.int p0), .val (.int (1 : Int32)), .val (.int (0 : Int32)), .val (.int (0 : Int32)), .val (.int (1 : Int32)), .val (.ref b189), .val (.ref b193), .val (.ref b196), .val (.ref mu), .val (.int (1 : Int32)), .unset, .unset, .unset] [])) (fun _ q => XS.ifYes X.here X.hx rfl (pc0 := 133) (pc' := 153) rfl (hb hby at_133) rfl ((if0 _ _).trans (teq (show (0 : Int32) = (0 : Int32) from (by decide))).1) (by decide) (by decide) q) ?_
          refine Goes.by (g' := (mkF m 155 #[.val (.int p0), .val (.int (1 : Int32)), .val (.int (0 : Int32)), .val (.int (0 : Int32)), .val (.int (1 : Int32)), .val (.ref b189), .val (.ref b193), .val (.ref b196), .val (.ref mu), .val (.int (1 : Int32)), .unset, .unset, .unset] [(.int (1 : Int32))])) (fun _ q => XS.iload X.here X.hx rfl (hb hby at_153) rfl q) ?_
          refine Goes.by (g' := (mkF m 158 #[.val (.int p0), .val (.int (1 : Int32)), .val (.int (0 : Int32)), .val (.int (0 : Int32)), .val (.int (1 : Int32)), .val (.ref b189), .val (.ref b193), .val (.ref b196), .val (.ref mu), .val (.int (1 : Int32)), .unset, .unset, .unset] [])) (fun _ q => XS.ifNo X.here X.hx rfl (hb hby at_155) rfl ((if0 _ _).trans (feq (show ¬ (1 : Int32) = (0 : Int32) from (by decide))).1) q) ?_
          refine Goes.by (g' := (mkF m 160 #[.val (.int p0), .val (.int (1 : Int32)), .val (.int (0 : Int32)), .val (.int (0 : Int32)), .val (.int (1 : Int32)), .val (.ref b189), .val (.ref b193), .val (.ref b196), .val (.ref mu), .val (.int (1 : Int32)), .unset, .unset, .unset] [(.ref b193)])) (fun _ q => XS.aload X.here X.hx rfl (hb hby at_158) rfl rfl q) ?_
          refine Goes.by (g' := (mkF m 165 #[.val (.int p0), .val (.int (1 : Int32)), .val (.int (0 : Int32)), .val (.int (0 : Int32)), .val (.int (1 : Int32)), .val (.ref b189), .val (.ref b193), .val (.ref b196), .val (.ref mu), .val (.int (1 : Int32)), .unset, .unset, .unset] [(.ref b193)])) (fun _ q => XS.goto X.here X.hx rfl (pc0 := 160) (pc' := 165) rfl (hb hby at_160) (by decide) (by decide) q) ?_
          refine Goes.by (g' := (mkF m 167 #[.val (.int p0), .val (.int (1 : Int32)), .val (.int (0 : Int32)), .val (.int (0 : Int32)), .val (.int (1 : Int32)), .val (.ref b189), .val (.ref b193), .val (.ref b196), .val (.ref mu), .val (.int (1 : Int32)), .val (.ref b193), .unset, .unset] [])) (fun _ q => XS.astore X.here X.hx rfl (hb hby at_165) rfl rfl (l' := #[.val (.int p0), .val (.int (1 : Int32)), .val (.int (0 : Int32)), .val (.int (0 : Int32)), .val (.int (1 : Int32)), .val (.ref b189), .val (.ref b193), .val (.ref b196), .val (.ref mu), .val (.int (1 : Int32)), .val (.ref b193), .unset, .unset]) rfl q) ?_
          refine Goes.by (g' := (mkF m 169 #[.val (.int p0), .val (.int (1 : Int32)), .val (.int (0 : Int32)), .val (.int (0 : Int32)), .val (.int (1 : Int32)), .val (.ref b189), .val (.ref b193), .val (.ref b196), .val (.ref mu), .val (.int (1 : Int32)), .val (.ref b193), .unset, .unset] [(.ref b189)])) (fun _ q => XS.aload X.here X.hx rfl (hb hby at_167) rfl rfl q) ?_
          refine Goes.by (g' := (mkF m 171 #[.val (.int p0), .val (.int (1 : Int32)), .val (.int (0 : Int32)), .val (.int (0 : Int32)), .val (.int (1 : Int32)), .val (.ref b189), .val (.ref b193), .val (.ref b196), .val (.ref mu), .val (.int (1 : Int32)), .val (.ref b193), .unset, .unset] [(.ref b193), (.ref b189)])) (fun _ q => XS.aload X.here X.hx rfl (hb hby at_169) rfl rfl q) ?_
          have X_o := X
          refine X.callV E_b189 (hw _ (List.mem_of_getElem? (i := 105) rfl)) (hw _ (List.mem_of_getElem? (i := 106) rfl)) (hw _ (List.mem_of_getElem? (i := 108) rfl)) (hw _ (List.mem_of_getElem? (i := 103) rfl)) rfl (hw _ (List.mem_of_getElem? (i := 107) rfl)) (hw _ (List.mem_of_getElem? (i := 2) rfl)) (hw _ (List.mem_of_getElem? (i := 109) rfl)) (by decide) pd_2932898788 (argsL := [(.ref b193)]) rfl (rm_setMutations l Z a0 hw n0 h198 X.n0le b189 b193 (.ref mu) ga_b189 E_b189 E_b193 F_b189_mutations (.ref a_WRITE) F_b189_durability (.int (1 : Int32)) F_b189_allowCreate) (by rw [hml]; rfl) rfl (by decide) (leB rfl) (hb hby at_171) (by decide) (by decide) (fun T h200 v X hQ => ?_)
          obtain ⟨rfl, K, F_b189_mutations, F_b189_durability, F_b189_allowCreate⟩ := hQ
          have O_ := O_.keep K (allS ga_b189 all0)
          have E_b189 := E_b189.keep K
          have E_mu := E_mu.keep K
          have E_b193 := E_b193.keep K
          have E_b196 := E_b196.keep K
          show Goes _ _ _ _ _ _ _ _ T (mkF m 174 #[.val (.int p0), .val (.int (1 : Int32)), .val (.int (0 : Int32)), .val (.int (0 : Int32)), .val (.int (1 : Int32)), .val (.ref b189), .val (.ref b193), .val (.ref b196), .val (.ref mu), .val (.int (1 : Int32)), .val (.ref b193), .unset, .unset] [])
          refine Goes.by (g' := (mkF m 176 #[.val (.int p0), .val (.int (1 : Int32)), .val (.int (0 : Int32)), .val (.int (0 : Int32)), .val (.int (1 : Int32)), .val (.ref b189), .val (.ref b193), .val (.ref b196), .val (.ref mu), .val (.int (1 : Int32)), .val (.ref b193), .unset, .unset] [(.ref b189)])) (fun _ q => XS.aload X.here X.hx rfl (hb hby at_174) rfl rfl q) ?_
          have X_o := X
          refine X.callV E_b189 (hw _ (List.mem_of_getElem? (i := 100) rfl)) (hw _ (List.mem_of_getElem? (i := 101) rfl)) (hw _ (List.mem_of_getElem? (i := 103) rfl)) (hw _ (List.mem_of_getElem? (i := 103) rfl)) rfl (hw _ (List.mem_of_getElem? (i := 102) rfl)) (hw _ (List.mem_of_getElem? (i := 2) rfl)) (hw _ (List.mem_of_getElem? (i := 104) rfl)) (by decide) pd_2544813166 (argsL := []) rfl (rm_getMutations l Z a0 hw n0 h200 X.n0le b189 b193  F_b189_mutations) (by rw [hml]; rfl) rfl (by decide) (leB rfl) (hb hby at_176) (by decide) (by decide) (fun T h201 v X hQ => ?_)
          obtain ⟨rfl, hh⟩ := hQ
          rw [hh] at X
          clear hh
          show Goes _ _ _ _ _ _ _ _ T (mkF m 179 #[.val (.int p0), .val (.int (1 : Int32)), .val (.int (0 : Int32)), .val (.int (0 : Int32)), .val (.int (1 : Int32)), .val (.ref b189), .val (.ref b193), .val (.ref b196), .val (.ref mu), .val (.int (1 : Int32)), .val (.ref b193), .unset, .unset] [(.ref b193)])
          refine Goes.by (g' := (mkF m 181 #[.val (.int p0), .val (.int (1 : Int32)), .val (.int (0 : Int32)), .val (.int (0 : Int32)), .val (.int (1 : Int32)), .val (.ref b189), .val (.ref b193), .val (.ref b196), .val (.ref mu), .val (.int (1 : Int32)), .val (.ref b193), .val (.ref b193), .unset] [])) (fun _ q => XS.astore X.here X.hx rfl (hb hby at_179) rfl rfl (l' := #[.val (.int p0), .val (.int (1 : Int32)), .val (.int (0 : Int32)), .val (.int (0 : Int32)), .val (.int (1 : Int32)), .val (.ref b189), .val (.ref b193), .val (.ref b196), .val (.ref mu), .val (.int (1 : Int32)), .val (.ref b193), .val (.ref b193), .unset]) rfl q) ?_
          refine Goes.by (g' := (mkF m 182 #[.val (.int p0), .val (.int (1 : Int32)), .val (.int (0 : Int32)), .val (.int (0 : Int32)), .val (.int (1 : Int32)), .val (.ref b189), .val (.ref b193), .val (.ref b196), .val (.ref mu), .val (.int (1 : Int32)), .val (.ref b193), .val (.ref b193), .unset] [(.int (0 : Int32))])) (fun _ q => XS.iloadN X.here X.hx rfl (hb hby at_181) rfl q) ?_
          refine Goes.by (g' := (mkF m 191 #[.val (.int p0), .val (.int (1 : Int32)), .val (.int (0 : Int32)), .val (.int (0 : Int32)), .val (.int (1 : Int32)), .val (.ref b189), .val (.ref b193), .val (.ref b196), .val (.ref mu), .val (.int (1 : Int32)), .val (.ref b193), .val (.ref b193), .unset] [])) (fun _ q => XS.ifYes X.here X.hx rfl (pc0 := 182) (pc' := 191) rfl (hb hby at_182) rfl ((if0 _ _).trans (teq (show (0 : Int32) = (0 : Int32) from (by decide))).1) (by decide) (by decide) q) ?_
          refine X.getS (Or.inl (hw _ (List.mem_of_getElem? (i := 123) rfl))) (host := "") Via.refl (S_WRITE.ext O_.2) (hb hby at_191) (fun T X => ?_)
          show Goes _ _ _ _ _ _ _ _ T (mkF m 194 #[.val (.int p0), .val (.int (1 : Int32)), .val (.int (0 : Int32)), .val (.int (0 : Int32)), .val (.int (1 : Int32)), .val (.ref b189), .val (.ref b193), .val (.ref b196), .val (.ref mu), .val (.int (1 : Int32)), .val (.ref b193), .val (.ref b193), .unset] [(.ref a_WRITE)])
          refine Goes.by (g' := (mkF m 196 #[.val (.int p0), .val (.int (1 : Int32)), .val (.int (0 : Int32)), .val (.int (0 : Int32)), .val (.int (1 : Int32)), .val (.ref b189), .val (.ref b193), .val (.ref b196), .val (.ref mu), .val (.int (1 : Int32)), .val (.ref b193), .val (.ref b193), .val (.ref a_WRITE)] [])) (fun _ q => XS.astore X.here X.hx rfl (hb hby at_194) rfl rfl (l' := #[.val (.int p0), .val (.int (1 : Int32)), .val (.int (0 : Int32)), .val (.int (0 : Int32)), .val (.int (1 : Int32)), .val (.ref b189), .val (.ref b193), .val (.ref b196), .val (.ref mu), .val (.int (1 : Int32)), .val (.ref b193), .val (.ref b193), .val (.ref a_WRITE)]) rfl q) ?_
          refine Goes.by (g' := (mkF m 198 #[.val (.int p0), .val (.int (1 : Int32)), .val (.int (0 : Int32)), .val (.int (0 : Int32)), .val (.int (1 : Int32)), .val (.ref b189), .val (.ref b193), .val (.ref b196), .val (.ref mu), .val (.int (1 : Int32)), .val (.ref b193), .val (.ref b193), .val (.ref a_WRITE)] [(.int (1 : Int32))])) (fun _ q => XS.iload X.here X.hx rfl (hb hby at_196) rfl q) ?_
          refine Goes.by (g' := (mkF m 201 #[.val (.int p0), .val (.int (1 : Int32)), .val (.int (0 : Int32)), .val (.int (0 : Int32)), .val (.int (1 : Int32)), .val (.ref b189), .val (.ref b193), .val (.ref b196), .val (.ref mu), .val (.int (1 : Int32)), .val (.ref b193), .val (.ref b193), .val (.ref a_WRITE)] [])) (fun _ q => XS.ifNo X.here X.hx rfl (hb hby at_198) rfl ((if0 _ _).trans (feq (show ¬ (1 : Int32) = (0 : Int32) from (by decide))).1) q) ?_
          refine Goes.by (g' := (mkF m 203 #[.val (.int p0), .val (.int (1 : Int32)), .val (.int (0 : Int32)), .val (.int (0 : Int32)), .val (.int (1 : Int32)), .val (.ref b189), .val (.ref b193), .val (.ref b196), .val (.ref mu), .val (.int (1 : Int32)), .val (.ref b193), .val (.ref b193), .val (.ref a_WRITE)] [(.ref b193)])) (fun _ q => XS.aload X.here X.hx rfl (hb hby at_201) rfl rfl q) ?_
          refine Goes.by (g' := (mkF m 205 #[.val (.int p0), .val (.int (1 : Int32)), .val (.int (0 : Int32)), .val (.int (0 : Int32)), .val (.int (1 : Int32)), .val (.ref b189), .val (.ref b193), .val (.ref b196), .val (.ref mu), .val (.int (1 : Int32)), .val (.ref b193), .val (.ref b193), .val (.ref a_WRITE)] [(.ref b193), (.ref b193)])) (fun _ q => XS.aload X.here X.hx rfl (hb hby at_203) rfl rfl q) ?_
          refine X.acmp rfl rfl (cd := .ne) (x := (.ref b193)) (y := (.ref b193)) (same := true) (pc' := 208) (hb hby at_205) (decide_eq_true rfl) (by decide) (by decide) ?_
          show Goes _ _ _ _ _ _ _ _ T (mkF m 208 #[.val (.int p0), .val (.int (1 : Int32)), .val (.int (0 : Int32)), .val (.int (0 : Int32)), .val (.int (1 : Int32)), .val (.ref b189), .val (.ref b193), .val (.ref b196), .val (.ref mu), .val (.int (1 : Int32)), .val (.ref b193), .val (.ref b193), .val (.ref a_WRITE)] [])
          refine Goes.by (g' := (mkF m 210 #[.val (.int p0), .val (.int (1 : Int32)), .val (.int (0 : Int32)), .val (.int (0 : Int32)), .val (.int (1 : Int32)), .val (.ref b189), .val (.ref b193), .val (.ref b196), .val (.ref mu), .val (.int (1 : Int32)), .val (.ref b193), .val (.ref b193), .val (.ref a_WRITE)] [(.ref b189)])) (fun _ q => XS.aload X.here X.hx rfl (hb hby at_208) rfl rfl q) ?_
          have X_o := X
          refine X.callV E_b189 (hw _ (List.mem_of_getElem? (i := 124) rfl)) (hw _ (List.mem_of_getElem? (i := 125) rfl)) (hw _ (List.mem_of_getElem? (i := 127) rfl)) (hw _ (List.mem_of_getElem? (i := 103) rfl)) rfl (hw _ (List.mem_of_getElem? (i := 126) rfl)) (hw _ (List.mem_of_getElem? (i := 2) rfl)) (hw _ (List.mem_of_getElem? (i := 128) rfl)) (by decide) pd_193422000 (argsL := []) rfl (rm_getAllowCreate l Z a0 hw n0 h200 X.n0le b189 (1 : Int32) (by decide) F_b189_allowCreate) (by rw [hml]; rfl) rfl (by decide) (leB rfl) (hb hby at_210) (by decide) (by decide) (fun T h202 v X hQ => ?_)
          obtain ⟨rfl, hh⟩ := hQ
          rw [hh] at X
          clear hh
          show Goes _ _ _ _ _ _ _ _ T (mkF m 213 #[.val (.int p0), .val (.int (1 : Int32)), .val (.int (0 : Int32)), .val (.int (0 : Int32)), .val (.int (1 : Int32)), .val (.ref b189), .val (.ref b193), .val (.ref b196), .val (.ref mu), .val (.int (1 : Int32)), .val (.ref b193), .val (.ref b193), .val (.ref a_WRITE)] [(.int (1 : Int32))])
          refine Goes.by (g' := (mkF m 214 #[.val (.int p0), .val (.int (1 : Int32)), .val (.int (0 : Int32)), .val (.int (0 : Int32)), .val (.int (1 : Int32)), .val (.ref b189), .val (.ref b193), .val (.ref b196), .val (.ref mu), .val (.int (1 : Int32)), .val (.ref b193), .val (.ref b193), .val (.ref a_WRITE)] [(.int (1 : Int32)), (.int (1 : Int32))])) (fun _ q => XS.iloadN X.here X.hx rfl (hb hby at_213) rfl q) ?_
          refine Goes.by (g' := (mkF m 217 #[.val (.int p0), .val (.int (1 : Int32)), .val (.int (0 : Int32)), .val (.int (0 : Int32)), .val (.int (1 : Int32)), .val (.ref b189), .val (.ref b193), .val (.ref b196), .val (.ref mu), .val (.int (1 : Int32)), .val (.ref b193), .val (.ref b193), .val (.ref a_WRITE)] [])) (fun _ q => XS.icmpNo X.here X.hx rfl (hb hby at_214) rfl (teq (show (1 : Int32) = (1 : Int32) from (by decide))).2 q) ?_
          refine Goes.by (g' := (mkF m 219 #[.val (.int p0), .val (.int (1 : Int32)), .val (.int (0 : Int32)), .val (.int (0 : Int32)), .val (.int (1 : Int32)), .val (.ref b189), .val (.ref b193), .val (.ref b196), .val (.ref mu), .val (.int (1 : Int32)), .val (.ref b193), .val (.ref b193), .val (.ref a_WRITE)] [(.ref b189)])) (fun _ q => XS.aload X.here X.hx rfl (hb hby at_217) rfl rfl q) ?_
          have X_o := X
          refine X.callV E_b189 (hw _ (List.mem_of_getElem? (i := 131) rfl)) (hw _ (List.mem_of_getElem? (i := 132) rfl)) (hw _ (List.mem_of_getElem? (i := 134) rfl)) (hw _ (List.mem_of_getElem? (i := 103) rfl)) rfl (hw _ (List.mem_of_getElem? (i := 133) rfl)) (hw _ (List.mem_of_getElem? (i := 2) rfl)) (hw _ (List.mem_of_getElem? (i := 135) rfl)) (by decide) pd_2323304547 (argsL := []) rfl (rm_getDurability l Z a0 hw n0 h200 X.n0le b189 a_WRITE  F_b189_durability) (by rw [hml]; rfl) rfl (by decide) (leB rfl) (hb hby at_219) (by decide) (by decide) (fun T h203 v X hQ => ?_)
          obtain ⟨rfl, hh⟩ := hQ
          rw [hh] at X
          clear hh
          show Goes _ _ _ _ _ _ _ _ T (mkF m 222 #[.val (.int p0), .val (.int (1 : Int32)), .val (.int (0 : Int32)), .val (.int (0 : Int32)), .val (.int (1 : Int32)), .val (.ref b189), .val (.ref b193), .val (.ref b196), .val (.ref mu), .val (.int (1 : Int32)), .val (.ref b193), .val (.ref b193), .val (.ref a_WRITE)] [(.ref a_WRITE)])
          refine Goes.by (g' := (mkF m 224 #[.val (.int p0), .val (.int (1 : Int32)), .val (.int (0 : Int32)), .val (.int (0 : Int32)), .val (.int (1 : Int32)), .val (.ref b189), .val (.ref b193), .val (.ref b196), .val (.ref mu), .val (.int (1 : Int32)), .val (.ref b193), .val (.ref b193), .val (.ref a_WRITE)] [(.ref a_WRITE), (.ref a_WRITE)])) (fun _ q => XS.aload X.here X.hx rfl (hb hby at_222) rfl rfl q) ?_
          refine X.acmp rfl rfl (cd := .ne) (x := (.ref a_WRITE)) (y := (.ref a_WRITE)) (same := true) (pc' := 227) (hb hby at_224) (decide_eq_true rfl) (by decide) (by decide) ?_
          show Goes _ _ _ _ _ _ _ _ T (mkF m 227 #[.val (.int p0), .val (.int (1 : Int32)), .val (.int (0 : Int32)), .val (.int (0 : Int32)), .val (.int (1 : Int32)), .val (.ref b189), .val (.ref b193), .val (.ref b196), .val (.ref mu), .val (.int (1 : Int32)), .val (.ref b193), .val (.ref b193), .val (.ref a_WRITE)] [])
          refine Goes.by (g' := (mkF m 228 #[.val (.int p0), .val (.int (1 : Int32)), .val (.int (0 : Int32)), .val (.int (0 : Int32)), .val (.int (1 : Int32)), .val (.ref b189), .val (.ref b193), .val (.ref b196), .val (.ref mu), .val (.int (1 : Int32)), .val (.ref b193), .val (.ref b193), .val (.ref a_WRITE)] [(.int (1 : Int32))])) (fun _ q => XS.iconst X.here X.hx rfl (hb hby at_227) q) ?_
          refine Goes.by (g' := (mkF m 232 #[.val (.int p0), .val (.int (1 : Int32)), .val (.int (0 : Int32)), .val (.int (0 : Int32)), .val (.int (1 : Int32)), .val (.ref b189), .val (.ref b193), .val (.ref b196), .val (.ref mu), .val (.int (1 : Int32)), .val (.ref b193), .val (.ref b193), .val (.ref a_WRITE)] [(.int (1 : Int32))])) (fun _ q => XS.goto X.here X.hx rfl (pc0 := 228) (pc' := 232) rfl (hb hby at_228) (by decide) (by decide) q) ?_
          exact X.retZ hret (hb hby at_232) (by decide) (by decide) rfl
      · skip
        refine Goes.by (g' := (mkF m 30 #[.val (.int p0), .val (.int (1 : Int32)), .val (.int (0 : Int32)), .unset, .unset, .unset, .unset, .unset, .unset, .unset, .unset, .unset, .unset] [])) (fun _ q => XS.ifNo X.here X.hx rfl (hb hby at_27) rfl ((if0 _ _).trans (feq hB172).1) q) ?_
        refine Goes.by (g' := (mkF m 31 #[.val (.int p0), .val (.int (1 : Int32)), .val (.int (0 : Int32)), .unset, .unset, .unset, .unset, .unset, .unset, .unset, .unset, .unset, .unset] [(.int (1 : Int32))])) (fun _ q => XS.iconst X.here X.hx rfl (hb hby at_30) q) ?_
        refine Goes.by (g' := (mkF m 35 #[.val (.int p0), .val (.int (1 : Int32)), .val (.int (0 : Int32)), .unset, .unset, .unset, .unset, .unset, .unset, .unset, .unset, .unset, .unset] [(.int (1 : Int32))])) (fun _ q => XS.goto X.here X.hx rfl (pc0 := 31) (pc' := 35) rfl (hb hby at_31) (by decide) (by decide) q) ?_
        refine Goes.by (g' := (mkF m 36 #[.val (.int p0), .val (.int (1 : Int32)), .val (.int (0 : Int32)), .val (.int (1 : Int32)), .unset, .unset, .unset, .unset, .unset, .unset, .unset, .unset, .unset] [])) (fun _ q => XS.istoreN X.here X.hx rfl (hb hby at_35) rfl (l' := #[.val (.int p0), .val (.int (1 : Int32)), .val (.int (0 : Int32)), .val (.int (1 : Int32)), .unset, .unset, .unset, .unset, .unset, .unset, .unset, .unset, .unset]) rfl q) ?_
        refine Goes.by (g' := (mkF m 37 #[.val (.int p0), .val (.int (1 : Int32)), .val (.int (0 : Int32)), .val (.int (1 : Int32)), .unset, .unset, .unset, .unset, .unset, .unset, .unset, .unset, .unset] [(.int p0)])) (fun _ q => XS.iloadN X.here X.hx rfl (hb hby at_36) rfl q) ?_
        refine Goes.by (g' := (mkF m 39 #[.val (.int p0), .val (.int (1 : Int32)), .val (.int (0 : Int32)), .val (.int (1 : Int32)), .unset, .unset, .unset, .unset, .unset, .unset, .unset, .unset, .unset] [(.int (8 : Int32)), (.int p0)])) (fun _ q => XS.bipush X.here X.hx rfl (hb hby at_37) q) ?_
        refine Goes.by (g' := (mkF m 40 #[.val (.int p0), .val (.int (1 : Int32)), .val (.int (0 : Int32)), .val (.int (1 : Int32)), .unset, .unset, .unset, .unset, .unset, .unset, .unset, .unset, .unset] [(.int (p0 &&& (8 : Int32)))])) (fun _ q => XS.iand X.here X.hx rfl (hb hby at_39) rfl q) ?_
        by_cases hB204 : (p0 &&& (8 : Int32)) = (0 : Int32)
        · skip
          refine Goes.by (g' := (mkF m 47 #[.val (.int p0), .val (.int (1 : Int32)), .val (.int (0 : Int32)), .val (.int (1 : Int32)), .unset, .unset, .unset, .unset, .unset, .unset, .unset, .unset, .unset] [])) (fun _ q => XS.ifYes X.here X.hx rfl (pc0 := 40) (pc' := 47) rfl (hb hby at_40) rfl ((if0 _ _).trans (teq hB204).1) (by decide) (by decide) q) ?_
          refine Goes.by (g' := (mkF m 48 #[.val (.int p0), .val (.int (1 : Int32)), .val (.int (0 : Int32)), .val (.int (1 : Int32)), .unset, .unset, .unset, .unset, .unset, .unset, .unset, .unset, .unset] [(.int (0 : Int32))])) (fun _ q => XS.iconst X.here X.hx rfl (hb hby at_47) q) ?_
          refine Goes.by (g' := (mkF m 50 #[.val (.int p0), .val (.int (1 : Int32)), .val (.int (0 : Int32)), .val (.int (1 : Int32)), .val (.int (0 : Int32)), .unset, .unset, .unset, .unset, .unset, .unset, .unset, .unset] [])) (fun _ q => XS.istore X.here X.hx rfl (hb hby at_48) rfl (l' := #[.val (.int p0), .val (.int (1 : Int32)), .val (.int (0 : Int32)), .val (.int (1 : Int32)), .val (.int (0 : Int32)), .unset, .unset, .unset, .unset, .unset, .unset, .unset, .unset]) rfl q) ?_
          refine X.newO (hw _ (List.mem_of_getElem? (i := 0) rfl)) (hw _ (List.mem_of_getElem? (i := 1) rfl)) (hw _ (List.mem_of_getElem? (i := 2) rfl)) (hb hby at_50) (by decide) (by decide) (fun T h206 b205 X g_b205 ga_b205 E E_b205 D_b205 => ?_)
          have O_ := O_.ext E
          have F_b205_mutations : Fld Z h206 b205 "com/example/hafiza/hafiza/StoreConfig" "mutations" "Lcom/example/hafiza/hafiza/Mutations;" .null := D_b205 (Or.inl (hw _ (List.mem_of_getElem? (i := 92) rfl))) (ty := (.object "com/example/hafiza/hafiza/Mutations")) (by decide)
          have F_b205_durability : Fld Z h206 b205 "com/example/hafiza/hafiza/StoreConfig" "durability" "Lcom/example/hafiza/hafiza/Durability;" .null := D_b205 (Or.inl (hw _ (List.mem_of_getElem? (i := 97) rfl))) (ty := (.object "com/example/hafiza/hafiza/Durability")) (by decide)
          have F_b205_allowCreate : Fld Z h206 b205 "com/example/hafiza/hafiza/StoreConfig" "allowCreate" "Z" (.int (0 : Int32)) := D_b205 (Or.inl (hw _ (List.mem_of_getElem? (i := 130) rfl))) (ty := .boolean) (by decide)
          show Goes _ _ _ _ _ _ _ _ T (mkF m 53 #[.val (.int p0), .val (.int (1 : Int32)), .val (.int (0 : Int32)), .val (.int (1 : Int32)), .val (.int (0 : Int32)), .unset, .unset, .unset, .unset, .unset, .unset, .unset, .unset] [(.ref b205)])
          refine Goes.by (g' := (mkF m 54 #[.val (.int p0), .val (.int (1 : Int32)), .val (.int (0 : Int32)), .val (.int (1 : Int32)), .val (.int (0 : Int32)), .unset, .unset, .unset, .unset, .unset, .unset, .unset, .unset] [(.ref b205), (.ref b205)])) (fun _ q => XS.dup X.here X.hx rfl (hb hby at_53) rfl rfl q) ?_
          have X_o := X
          refine X.callN rfl (hw _ (List.mem_of_getElem? (i := 3) rfl)) (hw _ (List.mem_of_getElem? (i := 4) rfl)) (hw _ (List.mem_of_getElem? (i := 2) rfl)) (hw _ (List.mem_of_getElem? (i := 5) rfl)) (by decide) pd_193421996 (argsL := []) rfl (rmSC l Z a0 hw n0 h206 X.n0le b205 ga_b205 E_b205 F_b205_mutations F_b205_durability F_b205_allowCreate a_WRITE S_WRITE O_) (by rw [hml]; rfl) rfl (by decide) (leB rfl) (hb hby at_54) (by decide) (by decide) (fun T h207 v X hQ => ?_)
          obtain ⟨rfl, K, mu, gz, E_mu, F_b205_mutations, F_b205_durability, F_b205_allowCreate⟩ := hQ
          have ga_mu : n0 ≤ mu := Nat.le_trans X_o.n0le gz
          have ne_b205_mu : b205 ≠ mu := Nat.ne_of_lt (Nat.lt_of_lt_of_le E_b205.lt gz)
          have O_ := O_.keep K (allS ga_b205 all0)
          have E_b205 := E_b205.keep K
          show Goes _ _ _ _ _ _ _ _ T (mkF m 57 #[.val (.int p0), .val (.int (1 : Int32)), .val (.int (0 : Int32)), .val (.int (1 : Int32)), .val (.int (0 : Int32)), .unset, .unset, .unset, .unset, .unset, .unset, .unset, .unset] [(.ref b205)])
          refine Goes.by (g' := (mkF m 59 #[.val (.int p0), .val (.int (1 : Int32)), .val (.int (0 : Int32)), .val (.int (1 : Int32)), .val (.int (0 : Int32)), .val (.ref b205), .unset, .unset, .unset, .unset, .unset, .unset, .unset] [])) (fun _ q => XS.astore X.here X.hx rfl (hb hby at_57) rfl rfl (l' := #[.val (.int p0), .val (.int (1 : Int32)), .val (.int (0 : Int32)), .val (.int (1 : Int32)), .val (.int (0 : Int32)), .val (.ref b205), .unset, .unset, .unset, .unset, .unset, .unset, .unset]) rfl q) ?_
          refine Goes.by (g' := (mkF m 60 #[.val (.int p0), .val (.int (1 : Int32)), .val (.int (0 : Int32)), .val (.int (1 : Int32)), .val (.int (0 : Int32)), .val (.ref b205), .unset, .unset, .unset, .unset, .unset, .unset, .unset] [(.int (1 : Int32))])) (fun _ q => XS.iloadN X.here X.hx rfl (hb hby at_59) rfl q) ?_
          refine Goes.by (g' := (mkF m 63 #[.val (.int p0), .val (.int (1 : Int32)), .val (.int (0 : Int32)), .val (.int (1 : Int32)), .val (.int (0 : Int32)), .val (.ref b205), .unset, .unset, .unset, .unset, .unset, .unset, .unset] [])) (fun _ q => XS.ifNo X.here X.hx rfl (hb hby at_60) rfl ((if0 _ _).trans (feq (show ¬ (1 : Int32) = (0 : Int32) from (by decide))).1) q) ?_
          refine Goes.by (g' := (mkF m 65 #[.val (.int p0), .val (.int (1 : Int32)), .val (.int (0 : Int32)), .val (.int (1 : Int32)), .val (.int (0 : Int32)), .val (.ref b205), .unset, .unset, .unset, .unset, .unset, .unset, .unset] [(.ref b205)])) (fun _ q => XS.aload X.here X.hx rfl (hb hby at_63) rfl rfl q) ?_
          refine Goes.by (g' := (mkF m 66 #[.val (.int p0), .val (.int (1 : Int32)), .val (.int (0 : Int32)), .val (.int (1 : Int32)), .val (.int (0 : Int32)), .val (.ref b205), .unset, .unset, .unset, .unset, .unset, .unset, .unset] [(.int (1 : Int32)), (.ref b205)])) (fun _ q => XS.iconst X.here X.hx rfl (hb hby at_65) q) ?_
          have X_o := X
          refine X.callV E_b205 (hw _ (List.mem_of_getElem? (i := 136) rfl)) (hw _ (List.mem_of_getElem? (i := 137) rfl)) (hw _ (List.mem_of_getElem? (i := 139) rfl)) (hw _ (List.mem_of_getElem? (i := 103) rfl)) rfl (hw _ (List.mem_of_getElem? (i := 138) rfl)) (hw _ (List.mem_of_getElem? (i := 2) rfl)) (hw _ (List.mem_of_getElem? (i := 140) rfl)) (by decide) pd_2088010534 (argsL := [(.int (1 : Int32))]) rfl (rm_setAllowCreate l Z a0 hw n0 h207 X.n0le b205  (.int (0 : Int32)) ga_b205 E_b205  F_b205_allowCreate (.ref mu) F_b205_mutations (.ref a_WRITE) F_b205_durability) (by rw [hml]; rfl) rfl (by decide) (leB rfl) (hb hby at_66) (by decide) (by decide) (fun T h208 v X hQ => ?_)
          obtain ⟨rfl, K, F_b205_allowCreate, F_b205_mutations, F_b205_durability⟩ := hQ
          have O_ := O_.keep K (allS ga_b205 all0)
          have E_b205 := E_b205.keep K
          have E_mu := E_mu.keep K
          show Goes _ _ _ _ _ _ _ _ T (mkF m 69 #[.val (.int p0), .val (.int (1 : Int32)), .val (.int (0 : Int32)), .val (.int (1 : Int32)), .val (.int (0 : Int32)), .val (.ref b205), .unset, .unset, .unset, .unset, .unset, .unset, .unset] [])
          refine Goes.by (g' := (mkF m 70 #[.val (.int p0), .val (.int (1 : Int32)), .val (.int (0 : Int32)), .val (.int (1 : Int32)), .val (.int (0 : Int32)), .val (.ref b205), .unset, .unset, .unset, .unset, .unset, .unset, .unset] [(.int (0 : Int32))])) (fun _ q => XS.iloadN X.here X.hx rfl (hb hby at_69) rfl q) ?_
          refine Goes.by (g' := (mkF m 81 #[.val (.int p0), .val (.int (1 : Int32)), .val (.int (0 : Int32)), .val (.int (1 : Int32)), .val (.int (0 : Int32)), .val (.ref b205), .unset, .unset, .unset, .unset, .unset, .unset, .unset] [])) (fun _ q => XS.ifYes X.here X.hx rfl (pc0 := 70) (pc' := 81) rfl (hb hby at_70) rfl ((if0 _ _).trans (teq (show (0 : Int32) = (0 : Int32) from (by decide))).1) (by decide) (by decide) q) ?_
          refine X.newO (hw _ (List.mem_of_getElem? (i := 98) rfl)) (hw _ (List.mem_of_getElem? (i := 10) rfl)) (hw _ (List.mem_of_getElem? (i := 11) rfl)) (hb hby at_81) (by decide) (by decide) (fun T h210 b209 X g_b209 ga_b209 E E_b209 D_b209 => ?_)
          have ne_b205_b209 : b205 ≠ b209 := by rw [g_b209]; exact Nat.ne_of_lt E_b205.lt
          have ne_mu_b209 : mu ≠ b209 := by rw [g_b209]; exact Nat.ne_of_lt E_mu.lt
          have O_ := O_.ext E
          have E_b205 := E_b205.ext E
          have E_mu := E_mu.ext E
          have F_b205_allowCreate := F_b205_allowCreate.ext E
          have F_b205_mutations := F_b205_mutations.ext E
          have F_b205_durability := F_b205_durability.ext E
          have F_b209_renamers : Fld Z h210 b209 "com/example/hafiza/hafiza/Mutations" "renamers" "Ljava/util/Set;" .null := D_b209 (Or.inr (hw _ (List.mem_of_getElem? (i := 86) rfl))) (ty := (.object "java/util/Set")) (by decide)
          have F_b209_deleters : Fld Z h210 b209 "com/example/hafiza/hafiza/Mutations" "deleters" "Ljava/util/Set;" .null := D_b209 (Or.inr (hw _ (List.mem_of_getElem? (i := 88) rfl))) (ty := (.object "java/util/Set")) (by decide)
          have F_b209_converters : Fld Z h210 b209 "com/example/hafiza/hafiza/Mutations" "converters" "Ljava/util/Set;" .null := D_b209 (Or.inr (hw _ (List.mem_of_getElem? (i := 90) rfl))) (ty := (.object "java/util/Set")) (by decide)
          show Goes _ _ _ _ _ _ _ _ T (mkF m 84 #[.val (.int p0), .val (.int (1 : Int32)), .val (.int (0 : Int32)), .val (.int (1 : Int32)), .val (.int (0 : Int32)), .val (.ref b205), .unset, .unset, .unset, .unset, .unset, .unset, .unset] [(.ref b209)])
          refine Goes.by (g' := (mkF m 85 #[.val (.int p0), .val (.int (1 : Int32)), .val (.int (0 : Int32)), .val (.int (1 : Int32)), .val (.int (0 : Int32)), .val (.ref b205), .unset, .unset, .unset, .unset, .unset, .unset, .unset] [(.ref b209), (.ref b209)])) (fun _ q => XS.dup X.here X.hx rfl (hb hby at_84) rfl rfl q) ?_
          have X_o := X
          refine X.callN rfl (hw _ (List.mem_of_getElem? (i := 99) rfl)) (hw _ (List.mem_of_getElem? (i := 13) rfl)) (hw _ (List.mem_of_getElem? (i := 11) rfl)) (hw _ (List.mem_of_getElem? (i := 14) rfl)) (by decide) pd_193421996 (argsL := []) rfl (rmMU l Z a0 hw n0 h210 X.n0le b209 ga_b209 E_b209 F_b209_renamers F_b209_deleters F_b209_converters) (by rw [hml]; rfl) rfl (by decide) (leB rfl) (hb hby at_85) (by decide) (by decide) (fun T h211 v X hQ => ?_)
          obtain ⟨rfl, K⟩ := hQ
          have O_ := O_.keep K (allS ga_b209 all0)
          have E_b205 := E_b205.keep K
          have E_mu := E_mu.keep K
          have F_b205_allowCreate := F_b205_allowCreate.keep K (ninS ne_b205_b209 nin0)
          have F_b205_mutations := F_b205_mutations.keep K (ninS ne_b205_b209 nin0)
          have F_b205_durability := F_b205_durability.keep K (ninS ne_b205_b209 nin0)
          have E_b209 := E_b209.keep K
          show Goes _ _ _ _ _ _ _ _ T (mkF m 88 #[.val (.int p0), .val (.int (1 : Int32)), .val (.int (0 : Int32)), .val (.int (1 : Int32)), .val (.int (0 : Int32)), .val (.ref b205), .unset, .unset, .unset, .unset, .unset, .unset, .unset] [(.ref b209)])
          refine Goes.by (g' := (mkF m 90 #[.val (.int p0), .val (.int (1 : Int32)), .val (.int (0 : Int32)), .val (.int (1 : Int32)), .val (.int (0 : Int32)), .val (.ref b205), .val (.ref b209), .unset, .unset, .unset, .unset, .unset, .unset] [])) (fun _ q => XS.astore X.here X.hx rfl (hb hby at_88) rfl rfl (l' := #[.val (.int p0), .val (.int (1 : Int32)), .val (.int (0 : Int32)), .val (.int (1 : Int32)), .val (.int (0 : Int32)), .val (.ref b205), .val (.ref b209), .unset, .unset, .unset, .unset, .unset, .unset]) rfl q) ?_
          refine X.newO (hw _ (List.mem_of_getElem? (i := 98) rfl)) (hw _ (List.mem_of_getElem? (i := 10) rfl)) (hw _ (List.mem_of_getElem? (i := 11) rfl)) (hb hby at_90) (by decide) (by decide) (fun T h213 b212 X g_b212 ga_b212 E E_b212 D_b212 => ?_)
          have ne_b205_b212 : b205 ≠ b212 := by rw [g_b212]; exact Nat.ne_of_lt E_b205.lt
          have ne_mu_b212 : mu ≠ b212 := by rw [g_b212]; exact Nat.ne_of_lt E_mu.lt
          have ne_b209_b212 : b209 ≠ b212 := by rw [g_b212]; exact Nat.ne_of_lt E_b209.lt
          have O_ := O_.ext E
          have E_b205 := E_b205.ext E
          have E_mu := E_mu.ext E
          have F_b205_allowCreate := F_b205_allowCreate.ext E
          have F_b205_mutations := F_b205_mutations.ext E
          have F_b205_durability := F_b205_durability.ext E
          have E_b209 := E_b209.ext E
          have F_b212_renamers : Fld Z h213 b212 "com/example/hafiza/hafiza/Mutations" "renamers" "Ljava/util/Set;" .null := D_b212 (Or.inr (hw _ (List.mem_of_getElem? (i := 86) rfl))) (ty := (.object "java/util/Set")) (by decide)
          have F_b212_deleters : Fld Z h213 b212 "com/example/hafiza/hafiza/Mutations" "deleters" "Ljava/util/Set;" .null := D_b212 (Or.inr (hw _ (List.mem_of_getElem? (i := 88) rfl))) (ty := (.object "java/util/Set")) (by decide)
          have F_b212_converters : Fld Z h213 b212 "com/example/hafiza/hafiza/Mutations" "converters" "Ljava/util/Set;" .null := D_b212 (Or.inr (hw _ (List.mem_of_getElem? (i := 90) rfl))) (ty := (.object "java/util/Set")) (by decide)
          show Goes _ _ _ _ _ _ _ _ T (mkF m 93 #[.val (.int p0), .val (.int (1 : Int32)), .val (.int (0 : Int32)), .val (.int (1 : Int32)), .val (.int (0 : Int32)), .val (.ref b205), .val (.ref b209), .unset, .unset, .unset, .unset, .unset, .unset] [(.ref b212)])
          refine Goes.by (g' := (mkF m 94 #[.val (.int p0), .val (.int (1 : Int32)), .val (.int (0 : Int32)), .val (.int (1 : Int32)), .val (.int (0 : Int32)), .val (.ref b205), .val (.ref b209), .unset, .unset, .unset, .unset, .unset, .unset] [(.ref b212), (.ref b212)])) (fun _ q => XS.dup X.here X.hx rfl (hb hby at_93) rfl rfl q) ?_
          have X_o := X
          refine X.callN rfl (hw _ (List.mem_of_getElem? (i := 99) rfl)) (hw _ (List.mem_of_getElem? (i := 13) rfl)) (hw _ (List.mem_of_getElem? (i := 11) rfl)) (hw _ (List.mem_of_getElem? (i := 14) rfl)) (by decide) pd_193421996 (argsL := []) rfl (rmMU l Z a0 hw n0 h213 X.n0le b212 ga_b212 E_b212 F_b212_renamers F_b212_deleters F_b212_converters) (by rw [hml]; rfl) rfl (by decide) (leB rfl) (hb hby at_94) (by decide) (by decide) (fun T h214 v X hQ => ?_)
          obtain ⟨rfl, K⟩ := hQ
          have O_ := O_.keep K (allS ga_b212 all0)
          have E_b205 := E_b205.keep K
          have E_mu := E_mu.keep K
          have F_b205_allowCreate := F_b205_allowCreate.keep K (ninS ne_b205_b212 nin0)
          have F_b205_mutations := F_b205_mutations.keep K (ninS ne_b205_b212 nin0)
          have F_b205_durability := F_b205_durability.keep K (ninS ne_b205_b212 nin0)
          have E_b209 := E_b209.keep K
          have E_b212 := E_b212.keep K
          show Goes _ _ _ _ _ _ _ _ T (mkF m 97 #[.val (.int p0), .val (.int (1 : Int32)), .val (.int (0 : Int32)), .val (.int (1 : Int32)), .val (.int (0 : Int32)), .val (.ref b205), .val (.ref b209), .unset, .unset, .unset, .unset, .unset, .unset] [(.ref b212)])
          refine Goes.by (g' := (mkF m 99 #[.val (.int p0), .val (.int (1 : Int32)), .val (.int (0 : Int32)), .val (.int (1 : Int32)), .val (.int (0 : Int32)), .val (.ref b205), .val (.ref b209), .val (.ref b212), .unset, .unset, .unset, .unset, .unset] [])) (fun _ q => XS.astore X.here X.hx rfl (hb hby at_97) rfl rfl (l' := #[.val (.int p0), .val (.int (1 : Int32)), .val (.int (0 : Int32)), .val (.int (1 : Int32)), .val (.int (0 : Int32)), .val (.ref b205), .val (.ref b209), .val (.ref b212), .unset, .unset, .unset, .unset, .unset]) rfl q) ?_
          refine Goes.by (g' := (mkF m 101 #[.val (.int p0), .val (.int (1 : Int32)), .val (.int (0 : Int32)), .val (.int (1 : Int32)), .val (.int (0 : Int32)), .val (.ref b205), .val (.ref b209), .val (.ref b212), .unset, .unset, .unset, .unset, .unset] [(.ref b205)])) (fun _ q => XS.aload X.here X.hx rfl (hb hby at_99) rfl rfl q) ?_
          have X_o := X
          refine X.callV E_b205 (hw _ (List.mem_of_getElem? (i := 100) rfl)) (hw _ (List.mem_of_getElem? (i := 101) rfl)) (hw _ (List.mem_of_getElem? (i := 103) rfl)) (hw _ (List.mem_of_getElem? (i := 103) rfl)) rfl (hw _ (List.mem_of_getElem? (i := 102) rfl)) (hw _ (List.mem_of_getElem? (i := 2) rfl)) (hw _ (List.mem_of_getElem? (i := 104) rfl)) (by decide) pd_2544813166 (argsL := []) rfl (rm_getMutations l Z a0 hw n0 h214 X.n0le b205 mu  F_b205_mutations) (by rw [hml]; rfl) rfl (by decide) (leB rfl) (hb hby at_101) (by decide) (by decide) (fun T h215 v X hQ => ?_)
          obtain ⟨rfl, hh⟩ := hQ
          rw [hh] at X
          clear hh
          show Goes _ _ _ _ _ _ _ _ T (mkF m 104 #[.val (.int p0), .val (.int (1 : Int32)), .val (.int (0 : Int32)), .val (.int (1 : Int32)), .val (.int (0 : Int32)), .val (.ref b205), .val (.ref b209), .val (.ref b212), .unset, .unset, .unset, .unset, .unset] [(.ref mu)])
          refine Goes.by (g' := (mkF m 106 #[.val (.int p0), .val (.int (1 : Int32)), .val (.int (0 : Int32)), .val (.int (1 : Int32)), .val (.int (0 : Int32)), .val (.ref b205), .val (.ref b209), .val (.ref b212), .val (.ref mu), .unset, .unset, .unset, .unset] [])) (fun _ q => XS.astore X.here X.hx rfl (hb hby at_104) rfl rfl (l' := #[.val (.int p0), .val (.int (1 : Int32)), .val (.int (0 : Int32)), .val (.int (1 : Int32)), .val (.int (0 : Int32)), .val (.ref b205), .val (.ref b209), .val (.ref b212), .val (.ref mu), .unset, .unset, .unset, .unset]) rfl q) ?_
          refine Goes.by (g' := (mkF m 108 #[.val (.int p0), .val (.int (1 : Int32)), .val (.int (0 : Int32)), .val (.int (1 : Int32)), .val (.int (0 : Int32)), .val (.ref b205), .val (.ref b209), .val (.ref b212), .val (.ref mu), .unset, .unset, .unset, .unset] [(.ref mu)])) (fun _ q => XS.aload X.here X.hx rfl (hb hby at_106) rfl rfl q) ?_
          refine Goes.by (g' := (mkF m 111 #[.val (.int p0), .val (.int (1 : Int32)), .val (.int (0 : Int32)), .val (.int (1 : Int32)), .val (.int (0 : Int32)), .val (.ref b205), .val (.ref b209), .val (.ref b212), .val (.ref mu), .unset, .unset, .unset, .unset] [])) (fun _ q => XS.ifnullNo X.here X.hx rfl (hb hby at_108) rfl q) ?_
          refine Goes.by (g' := (mkF m 113 #[.val (.int p0), .val (.int (1 : Int32)), .val (.int (0 : Int32)), .val (.int (1 : Int32)), .val (.int (0 : Int32)), .val (.ref b205), .val (.ref b209), .val (.ref b212), .val (.ref mu), .unset, .unset, .unset, .unset] [(.ref mu)])) (fun _ q => XS.aload X.here X.hx rfl (hb hby at_111) rfl rfl q) ?_
          refine Goes.by (g' := (mkF m 115 #[.val (.int p0), .val (.int (1 : Int32)), .val (.int (0 : Int32)), .val (.int (1 : Int32)), .val (.int (0 : Int32)), .val (.ref b205), .val (.ref b209), .val (.ref b212), .val (.ref mu), .unset, .unset, .unset, .unset] [(.ref b209), (.ref mu)])) (fun _ q => XS.aload X.here X.hx rfl (hb hby at_113) rfl rfl q) ?_
          refine X.acmp rfl rfl (cd := .eq) (x := (.ref mu)) (y := (.ref b209)) (same := false) (pc' := 118) (hb hby at_115) (decide_eq_false fun q => ne_mu_b209 (Value.ref.inj q)) (by decide) (by decide) ?_
          show Goes _ _ _ _ _ _ _ _ T (mkF m 118 #[.val (.int p0), .val (.int (1 : Int32)), .val (.int (0 : Int32)), .val (.int (1 : Int32)), .val (.int (0 : Int32)), .val (.ref b205), .val (.ref b209), .val (.ref b212), .val (.ref mu), .unset, .unset, .unset, .unset] [])
          refine Goes.by (g' := (mkF m 120 #[.val (.int p0), .val (.int (1 : Int32)), .val (.int (0 : Int32)), .val (.int (1 : Int32)), .val (.int (0 : Int32)), .val (.ref b205), .val (.ref b209), .val (.ref b212), .val (.ref mu), .unset, .unset, .unset, .unset] [(.ref mu)])) (fun _ q => XS.aload X.here X.hx rfl (hb hby at_118) rfl rfl q) ?_
          refine Goes.by (g' := (mkF m 122 #[.val (.int p0), .val (.int (1 : Int32)), .val (.int (0 : Int32)), .val (.int (1 : Int32)), .val (.int (0 : Int32)), .val (.ref b205), .val (.ref b209), .val (.ref b212), .val (.ref mu), .unset, .unset, .unset, .unset] [(.ref b212), (.ref mu)])) (fun _ q => XS.aload X.here X.hx rfl (hb hby at_120) rfl rfl q) ?_
          refine X.acmp rfl rfl (cd := .eq) (x := (.ref mu)) (y := (.ref b212)) (same := false) (pc' := 125) (hb hby at_122) (decide_eq_false fun q => ne_mu_b212 (Value.ref.inj q)) (by decide) (by decide) ?_
          show Goes _ _ _ _ _ _ _ _ T (mkF m 125 #[.val (.int p0), .val (.int (1 : Int32)), .val (.int (0 : Int32)), .val (.int (1 : Int32)), .val (.int (0 : Int32)), .val (.ref b205), .val (.ref b209), .val (.ref b212), .val (.ref mu), .unset, .unset, .unset, .unset] [])
          refine Goes.by (g' := (mkF m 126 #[.val (.int p0), .val (.int (1 : Int32)), .val (.int (0 : Int32)), .val (.int (1 : Int32)), .val (.int (0 : Int32)), .val (.ref b205), .val (.ref b209), .val (.ref b212), .val (.ref mu), .unset, .unset, .unset, .unset] [(.int (1 : Int32))])) (fun _ q => XS.iconst X.here X.hx rfl (hb hby at_125) q) ?_
          refine Goes.by (g' := (mkF m 130 #[.val (.int p0), .val (.int (1 : Int32)), .val (.int (0 : Int32)), .val (.int (1 : Int32)), .val (.int (0 : Int32)), .val (.ref b205), .val (.ref b209), .val (.ref b212), .val (.ref mu), .unset, .unset, .unset, .unset] [(.int (1 : Int32))])) (fun _ q => XS.goto X.here X.hx rfl (pc0 := 126) (pc' := 130) rfl (hb hby at_126) (by decide) (by decide) q) ?_
          refine Goes.by (g' := (mkF m 132 #[.val (.int p0), .val (.int (1 : Int32)), .val (.int (0 : Int32)), .val (.int (1 : Int32)), .val (.int (0 : Int32)), .val (.ref b205), .val (.ref b209), .val (.ref b212), .val (.ref mu), .val (.int (1 : Int32)), .unset, .unset, .unset] [])) (fun _ q => XS.istore X.here X.hx rfl (hb hby at_130) rfl (l' := #[.val (.int p0), .val (.int (1 : Int32)), .val (.int (0 : Int32)), .val (.int (1 : Int32)), .val (.int (0 : Int32)), .val (.ref b205), .val (.ref b209), .val (.ref b212), .val (.ref mu), .val (.int (1 : Int32)), .unset, .unset, .unset]) rfl q) ?_
          refine Goes.by (g' := (mkF m 133 #[.val (.int p0), .val (.int (1 : Int32)), .val (.int (0 : Int32)), .val (.int (1 : Int32)), .val (.int (0 : Int32)), .val (.ref b205), .val (.ref b209), .val (.ref b212), .val (.ref mu), .val (.int (1 : Int32)), .unset, .unset, .unset] [(.int (1 : Int32))])) (fun _ q => XS.iloadN X.here X.hx rfl (hb hby at_132) rfl q) ?_
          refine Goes.by (g' := (mkF m 136 #[.val (.int p0), .val (.int (1 : Int32)), .val (.int (0 : Int32)), .val (.int (1 : Int32)), .val (.int (0 : Int32)), .val (.ref b205), .val (.ref b209), .val (.ref b212), .val (.ref mu), .val (.int (1 : Int32)), .unset, .unset, .unset] [])) (fun _ q => XS.ifNo X.here X.hx rfl (hb hby at_133) rfl ((if0 _ _).trans (feq (show ¬ (1 : Int32) = (0 : Int32) from (by decide))).1) q) ?_
          refine Goes.by (g' := (mkF m 138 #[.val (.int p0), .val (.int (1 : Int32)), .val (.int (0 : Int32)), .val (.int (1 : Int32)), .val (.int (0 : Int32)), .val (.ref b205), .val (.ref b209), .val (.ref b212), .val (.ref mu), .val (.int (1 : Int32)), .unset, .unset, .unset] [(.ref b205)])) (fun _ q => XS.aload X.here X.hx rfl (hb hby at_136) rfl rfl q) ?_
          refine Goes.by (g' := (mkF m 140 #[.val (.int p0), .val (.int (1 : Int32)), .val (.int (0 : Int32)), .val (.int (1 : Int32)), .val (.int (0 : Int32)), .val (.ref b205), .val (.ref b209), .val (.ref b212), .val (.ref mu), .val (.int (1 : Int32)), .unset, .unset, .unset] [(.int (0 : Int32)), (.ref b205)])) (fun _ q => XS.iload X.here X.hx rfl (hb hby at_138) rfl q) ?_
          refine Goes.by (g' := (mkF m 148 #[.val (.int p0), .val (.int (1 : Int32)), .val (.int (0 : Int32)), .val (.int (1 : Int32)), .val (.int (0 : Int32)), .val (.ref b205), .val (.ref b209), .val (.ref b212), .val (.ref mu), .val (.int (1 : Int32)), .unset, .unset, .unset] [(.ref b205)])) (fun _ q => XS.ifYes X.here X.hx rfl (pc0 := 140) (pc' := 148) rfl (hb hby at_140) rfl ((if0 _ _).trans (teq (show (0 : Int32) = (0 : Int32) from (by decide))).1) (by decide) (by decide) q) ?_
          refine Goes.by (g' := (mkF m 150 #[.val (.int p0), .val (.int (1 : Int32)), .val (.int (0 : Int32)), .val (.int (1 : Int32)), .val (.int (0 : Int32)), .val (.ref b205), .val (.ref b209), .val (.ref b212), .val (.ref mu), .val (.int (1 : Int32)), .unset, .unset, .unset] [(.ref b209), (.ref b205)])) (fun _ q => XS.aload X.here X.hx rfl (hb hby at_148) rfl rfl q) ?_
          have X_o := X
          refine X.callV E_b205 (hw _ (List.mem_of_getElem? (i := 105) rfl)) (hw _ (List.mem_of_getElem? (i := 106) rfl)) (hw _ (List.mem_of_getElem? (i := 108) rfl)) (hw _ (List.mem_of_getElem? (i := 103) rfl)) rfl (hw _ (List.mem_of_getElem? (i := 107) rfl)) (hw _ (List.mem_of_getElem? (i := 2) rfl)) (hw _ (List.mem_of_getElem? (i := 109) rfl)) (by decide) pd_2932898788 (argsL := [(.ref b209)]) rfl (rm_setMutations l Z a0 hw n0 h214 X.n0le b205 b209 (.ref mu) ga_b205 E_b205 E_b209 F_b205_mutations (.ref a_WRITE) F_b205_durability (.int (1 : Int32)) F_b205_allowCreate) (by rw [hml]; rfl) rfl (by decide) (leB rfl) (hb hby at_150) (by decide) (by decide) (fun T h216 v X hQ => ?_)
          obtain ⟨rfl, K, F_b205_mutations, F_b205_durability, F_b205_allowCreate⟩ := hQ
          have O_ := O_.keep K (allS ga_b205 all0)
          have E_b205 := E_b205.keep K
          have E_mu := E_mu.keep K
          have E_b209 := E_b209.keep K
          have E_b212 := E_b212.keep K
          show Goes _ _ _ _ _ _ _ _ T (mkF m 153 #[.val (.int p0), .val (.int (1 : Int32)), .val (.int (0 : Int32)), .val (.int (1 : Int32)), .val (.int (0 : Int32)), .val (.ref b205), .val (.ref b209), .val (.ref b212), .val (.ref mu), .val (.int (1 : Int32)), .unset, .unset, .unset] [])
          refine Goes.by (g' := (mkF m 155 #[.val (.int p0), .val (.int (1 : Int32)), .val (.int (0 : Int32)), .val (.int (1 : Int32)), .val (.int (0 : Int32)), .val (.ref b205), .val (.ref b209), .val (.ref b212), .val (.ref mu), .val (.int (1 : Int32)), .unset, .unset, .unset] [(.int (0 : Int32))])) (fun _ q => XS.iload X.here X.hx rfl (hb hby at_153) rfl q) ?_
          refine Goes.by (g' := (mkF m 163 #[.val (.int p0), .val (.int (1 : Int32)), .val (.int (0 : Int32)), .val (.int (1 : Int32)), .val (.int (0 : Int32)), .val (.ref b205), .val (.ref b209), .val (.ref b212), .val (.ref mu), .val (.int (1 : Int32)), .unset, .unset, .unset] [])) (fun _ q => XS.ifYes X.here X.hx rfl (pc0 := 155) (pc' := 163) rfl (hb hby at_155) rfl ((if0 _ _).trans (teq (show (0 : Int32) = (0 : Int32) from (by decide))).1) (by decide) (by decide) q) ?_
          refine Goes.by (g' := (mkF m 165 #[.val (.int p0), .val (.int (1 : Int32)), .val (.int (0 : Int32)), .val (.int (1 : Int32)), .val (.int (0 : Int32)), .val (.ref b205), .val (.ref b209), .val (.ref b212), .val (.ref mu), .val (.int (1 : Int32)), .unset, .unset, .unset] [(.ref b212)])) (fun _ q => XS.aload X.here X.hx rfl (hb hby at_163) rfl rfl q) ?_
          refine Goes.by (g' := (mkF m 167 #[.val (.int p0), .val (.int (1 : Int32)), .val (.int (0 : Int32)), .val (.int (1 : Int32)), .val (.int (0 : Int32)), .val (.ref b205), .val (.ref b209), .val (.ref b212), .val (.ref mu), .val (.int (1 : Int32)), .val (.ref b212), .unset, .unset] [])) (fun _ q => XS.astore X.here X.hx rfl (hb hby at_165) rfl rfl (l' := #[.val (.int p0), .val (.int (1 : Int32)), .val (.int (0 : Int32)), .val (.int (1 : Int32)), .val (.int (0 : Int32)), .val (.ref b205), .val (.ref b209), .val (.ref b212), .val (.ref mu), .val (.int (1 : Int32)), .val (.ref b212), .unset, .unset]) rfl q) ?_
          refine Goes.by (g' := (mkF m 169 #[.val (.int p0), .val (.int (1 : Int32)), .val (.int (0 : Int32)), .val (.int (1 : Int32)), .val (.int (0 : Int32)), .val (.ref b205), .val (.ref b209), .val (.ref b212), .val (.ref mu), .val (.int (1 : Int32)), .val (.ref b212), .unset, .unset] [(.ref b205)])) (fun _ q => XS.aload X.here X.hx rfl (hb hby at_167) rfl rfl q) ?_
          refine Goes.by (g' := (mkF m 171 #[.val (.int p0), .val (.int (1 : Int32)), .val (.int (0 : Int32)), .val (.int (1 : Int32)), .val (.int (0 : Int32)), .val (.ref b205), .val (.ref b209), .val (.ref b212), .val (.ref mu), .val (.int (1 : Int32)), .val (.ref b212), .unset, .unset] [(.ref b212), (.ref b205)])) (fun _ q => XS.aload X.here X.hx rfl (hb hby at_169) rfl rfl q) ?_
          have X_o := X
          refine X.callV E_b205 (hw _ (List.mem_of_getElem? (i := 105) rfl)) (hw _ (List.mem_of_getElem? (i := 106) rfl)) (hw _ (List.mem_of_getElem? (i := 108) rfl)) (hw _ (List.mem_of_getElem? (i := 103) rfl)) rfl (hw _ (List.mem_of_getElem? (i := 107) rfl)) (hw _ (List.mem_of_getElem? (i := 2) rfl)) (hw _ (List.mem_of_getElem? (i := 109) rfl)) (by decide) pd_2932898788 (argsL := [(.ref b212)]) rfl (rm_setMutations l Z a0 hw n0 h216 X.n0le b205 b212 (.ref b209) ga_b205 E_b205 E_b212 F_b205_mutations (.ref a_WRITE) F_b205_durability (.int (1 : Int32)) F_b205_allowCreate) (by rw [hml]; rfl) rfl (by decide) (leB rfl) (hb hby at_171) (by decide) (by decide) (fun T h217 v X hQ => ?_)
          obtain ⟨rfl, K, F_b205_mutations, F_b205_durability, F_b205_allowCreate⟩ := hQ
          have O_ := O_.keep K (allS ga_b205 all0)
          have E_b205 := E_b205.keep K
          have E_mu := E_mu.keep K
          have E_b209 := E_b209.keep K
          have E_b212 := E_b212.keep K
          show Goes _ _ _ _ _ _ _ _ T (mkF m 174 #[.val (.int p0), .val (.int (1 : Int32)), .val (.int (0 : Int32)), .val (.int (1 : Int32)), .val (.int (0 : Int32)), .val (.ref b205), .val (.ref b209), .val (.ref b212), .val (.ref mu), .val (.int (1 : Int32)), .val (.ref b212), .unset, .unset] [])
          refine Goes.by (g' := (mkF m 176 #[.val (.int p0), .val (.int (1 : Int32)), .val (.int (0 : Int32)), .val (.int (1 : Int32)), .val (.int (0 : Int32)), .val (.ref b205), .val (.ref b209), .val (.ref b212), .val (.ref mu), .val (.int (1 : Int32)), .val (.ref b212), .unset, .unset] [(.ref b205)])) (fun _ q => XS.aload X.here X.hx rfl (hb hby at_174) rfl rfl q) ?_
          have X_o := X
          refine X.callV E_b205 (hw _ (List.mem_of_getElem? (i := 100) rfl)) (hw _ (List.mem_of_getElem? (i := 101) rfl)) (hw _ (List.mem_of_getElem? (i := 103) rfl)) (hw _ (List.mem_of_getElem? (i := 103) rfl)) rfl (hw _ (List.mem_of_getElem? (i := 102) rfl)) (hw _ (List.mem_of_getElem? (i := 2) rfl)) (hw _ (List.mem_of_getElem? (i := 104) rfl)) (by decide) pd_2544813166 (argsL := []) rfl (rm_getMutations l Z a0 hw n0 h217 X.n0le b205 b212  F_b205_mutations) (by rw [hml]; rfl) rfl (by decide) (leB rfl) (hb hby at_176) (by decide) (by decide) (fun T h218 v X hQ => ?_)
          obtain ⟨rfl, hh⟩ := hQ
          rw [hh] at X
          clear hh
          show Goes _ _ _ _ _ _ _ _ T (mkF m 179 #[.val (.int p0), .val (.int (1 : Int32)), .val (.int (0 : Int32)), .val (.int (1 : Int32)), .val (.int (0 : Int32)), .val (.ref b205), .val (.ref b209), .val (.ref b212), .val (.ref mu), .val (.int (1 : Int32)), .val (.ref b212), .unset, .unset] [(.ref b212)])
          refine Goes.by (g' := (mkF m 181 #[.val (.int p0), .val (.int (1 : Int32)), .val (.int (0 : Int32)), .val (.int (1 : Int32)), .val (.int (0 : Int32)), .val (.ref b205), .val (.ref b209), .val (.ref b212), .val (.ref mu), .val (.int (1 : Int32)), .val (.ref b212), .val (.ref b212), .unset] [])) (fun _ q => XS.astore X.here X.hx rfl (hb hby at_179) rfl rfl (l' := #[.val (.int p0), .val (.int (1 : Int32)), .val (.int (0 : Int32)), .val (.int (1 : Int32)), .val (.int (0 : Int32)), .val (.ref b205), .val (.ref b209), .val (.ref b212), .val (.ref mu), .val (.int (1 : Int32)), .val (.ref b212), .val (.ref b212), .unset]) rfl q) ?_
          refine Goes.by (g' := (mkF m 182 #[.val (.int p0), .val (.int (1 : Int32)), .val (.int (0 : Int32)), .val (.int (1 : Int32)), .val (.int (0 : Int32)), .val (.ref b205), .val (.ref b209), .val (.ref b212), .val (.ref mu), .val (.int (1 : Int32)), .val (.ref b212), .val (.ref b212), .unset] [(.int (0 : Int32))])) (fun _ q => XS.iloadN X.here X.hx rfl (hb hby at_181) rfl q) ?_
          refine Goes.by (g' := (mkF m 191 #[.val (.int p0), .val (.int (1 : Int32)), .val (.int (0 : Int32)), .val (.int (1 : Int32)), .val (.int (0 : Int32)), .val (.ref b205), .val (.ref b209), .val (.ref b212), .val (.ref mu), .val (.int (1 : Int32)), .val (.ref b212), .val (.ref b212), .unset] [])) (fun _ q => XS.ifYes X.here X.hx rfl (pc0 := 182) (pc' := 191) rfl (hb hby at_182) rfl ((if0 _ _).trans (teq (show (0 : Int32) = (0 : Int32) from (by decide))).1) (by decide) (by decide) q) ?_
          refine X.getS (Or.inl (hw _ (List.mem_of_getElem? (i := 123) rfl))) (host := "") Via.refl (S_WRITE.ext O_.2) (hb hby at_191) (fun T X => ?_)
          show Goes _ _ _ _ _ _ _ _ T (mkF m 194 #[.val (.int p0), .val (.int (1 : Int32)), .val (.int (0 : Int32)), .val (.int (1 : Int32)), .val (.int (0 : Int32)), .val (.ref b205), .val (.ref b209), .val (.ref b212), .val (.ref mu), .val (.int (1 : Int32)), .val (.ref b212), .val (.ref b212), .unset] [(.ref a_WRITE)])
          refine Goes.by (g' := (mkF m 196 #[.val (.int p0), .val (.int (1 : Int32)), .val (.int (0 : Int32)), .val (.int (1 : Int32)), .val (.int (0 : Int32)), .val (.ref b205), .val (.ref b209), .val (.ref b212), .val (.ref mu), .val (.int (1 : Int32)), .val (.ref b212), .val (.ref b212), .val (.ref a_WRITE)] [])) (fun _ q => XS.astore X.here X.hx rfl (hb hby at_194) rfl rfl (l' := #[.val (.int p0), .val (.int (1 : Int32)), .val (.int (0 : Int32)), .val (.int (1 : Int32)), .val (.int (0 : Int32)), .val (.ref b205), .val (.ref b209), .val (.ref b212), .val (.ref mu), .val (.int (1 : Int32)), .val (.ref b212), .val (.ref b212), .val (.ref a_WRITE)]) rfl q) ?_
          refine Goes.by (g' := (mkF m 198 #[.val (.int p0), .val (.int (1 : Int32)), .val (.int (0 : Int32)), .val (.int (1 : Int32)), .val (.int (0 : Int32)), .val (.ref b205), .val (.ref b209), .val (.ref b212), .val (.ref mu), .val (.int (1 : Int32)), .val (.ref b212), .val (.ref b212), .val (.ref a_WRITE)] [(.int (1 : Int32))])) (fun _ q => XS.iload X.here X.hx rfl (hb hby at_196) rfl q) ?_
          refine Goes.by (g' := (mkF m 201 #[.val (.int p0), .val (.int (1 : Int32)), .val (.int (0 : Int32)), .val (.int (1 : Int32)), .val (.int (0 : Int32)), .val (.ref b205), .val (.ref b209), .val (.ref b212), .val (.ref mu), .val (.int (1 : Int32)), .val (.ref b212), .val (.ref b212), .val (.ref a_WRITE)] [])) (fun _ q => XS.ifNo X.here X.hx rfl (hb hby at_198) rfl ((if0 _ _).trans (feq (show ¬ (1 : Int32) = (0 : Int32) from (by decide))).1) q) ?_
          refine Goes.by (g' := (mkF m 203 #[.val (.int p0), .val (.int (1 : Int32)), .val (.int (0 : Int32)), .val (.int (1 : Int32)), .val (.int (0 : Int32)), .val (.ref b205), .val (.ref b209), .val (.ref b212), .val (.ref mu), .val (.int (1 : Int32)), .val (.ref b212), .val (.ref b212), .val (.ref a_WRITE)] [(.ref b212)])) (fun _ q => XS.aload X.here X.hx rfl (hb hby at_201) rfl rfl q) ?_
          refine Goes.by (g' := (mkF m 205 #[.val (.int p0), .val (.int (1 : Int32)), .val (.int (0 : Int32)), .val (.int (1 : Int32)), .val (.int (0 : Int32)), .val (.ref b205), .val (.ref b209), .val (.ref b212), .val (.ref mu), .val (.int (1 : Int32)), .val (.ref b212), .val (.ref b212), .val (.ref a_WRITE)] [(.ref b212), (.ref b212)])) (fun _ q => XS.aload X.here X.hx rfl (hb hby at_203) rfl rfl q) ?_
          refine X.acmp rfl rfl (cd := .ne) (x := (.ref b212)) (y := (.ref b212)) (same := true) (pc' := 208) (hb hby at_205) (decide_eq_true rfl) (by decide) (by decide) ?_
          show Goes _ _ _ _ _ _ _ _ T (mkF m 208 #[.val (.int p0), .val (.int (1 : Int32)), .val (.int (0 : Int32)), .val (.int (1 : Int32)), .val (.int (0 : Int32)), .val (.ref b205), .val (.ref b209), .val (.ref b212), .val (.ref mu), .val (.int (1 : Int32)), .val (.ref b212), .val (.ref b212), .val (.ref a_WRITE)] [])
          refine Goes.by (g' := (mkF m 210 #[.val (.int p0), .val (.int (1 : Int32)), .val (.int (0 : Int32)), .val (.int (1 : Int32)), .val (.int (0 : Int32)), .val (.ref b205), .val (.ref b209), .val (.ref b212), .val (.ref mu), .val (.int (1 : Int32)), .val (.ref b212), .val (.ref b212), .val (.ref a_WRITE)] [(.ref b205)])) (fun _ q => XS.aload X.here X.hx rfl (hb hby at_208) rfl rfl q) ?_
          have X_o := X
          refine X.callV E_b205 (hw _ (List.mem_of_getElem? (i := 124) rfl)) (hw _ (List.mem_of_getElem? (i := 125) rfl)) (hw _ (List.mem_of_getElem? (i := 127) rfl)) (hw _ (List.mem_of_getElem? (i := 103) rfl)) rfl (hw _ (List.mem_of_getElem? (i := 126) rfl)) (hw _ (List.mem_of_getElem? (i := 2) rfl)) (hw _ (List.mem_of_getElem? (i := 128) rfl)) (by decide) pd_193422000 (argsL := []) rfl (rm_getAllowCreate l Z a0 hw n0 h217 X.n0le b205 (1 : Int32) (by decide) F_b205_allowCreate) (by rw [hml]; rfl) rfl (by decide) (leB rfl) (hb hby at_210) (by decide) (by decide) (fun T h219 v X hQ => ?_)
          obtain ⟨rfl, hh⟩ := hQ
          rw [hh] at X
          clear hh
          show Goes _ _ _ _ _ _ _ _ T (mkF m 213 #[.val (.int p0), .val (.int (1 : Int32)), .val (.int (0 : Int32)), .val (.int (1 : Int32)), .val (.int (0 : Int32)), .val (.ref b205), .val (.ref b209), .val (.ref b212), .val (.ref mu), .val (.int (1 : Int32)), .val (.ref b212), .val (.ref b212), .val (.ref a_WRITE)] [(.int (1 : Int32))])
          refine Goes.by (g' := (mkF m 214 #[.val (.int p0), .val (.int (1 : Int32)), .val (.int (0 : Int32)), .val (.int (1 : Int32)), .val (.int (0 : Int32)), .val (.ref b205), .val (.ref b209), .val (.ref b212), .val (.ref mu), .val (.int (1 : Int32)), .val (.ref b212), .val (.ref b212), .val (.ref a_WRITE)] [(.int (1 : Int32)), (.int (1 : Int32))])) (fun _ q => XS.iloadN X.here X.hx rfl (hb hby at_213) rfl q) ?_
          refine Goes.by (g' := (mkF m 217 #[.val (.int p0), .val (.int (1 : Int32)), .val (.int (0 : Int32)), .val (.int (1 : Int32)), .val (.int (0 : Int32)), .val (.ref b205), .val (.ref b209), .val (.ref b212), .val (.ref mu), .val (.int (1 : Int32)), .val (.ref b212), .val (.ref b212), .val (.ref a_WRITE)] [])) (fun _ q => XS.icmpNo X.here X.hx rfl (hb hby at_214) rfl (teq (show (1 : Int32) = (1 : Int32) from (by decide))).2 q) ?_
          refine Goes.by (g' := (mkF m 219 #[.val (.int p0), .val (.int (1 : Int32)), .val (.int (0 : Int32)), .val (.int (1 : Int32)), .val (.int (0 : Int32)), .val (.ref b205), .val (.ref b209), .val (.ref b212), .val (.ref mu), .val (.int (1 : Int32)), .val (.ref b212), .val (.ref b212), .val (.ref a_WRITE)] [(.ref b205)])) (fun _ q => XS.aload X.here X.hx rfl (hb hby at_217) rfl rfl q) ?_
          have X_o := X
          refine X.callV E_b205 (hw _ (List.mem_of_getElem? (i := 131) rfl)) (hw _ (List.mem_of_getElem? (i := 132) rfl)) (hw _ (List.mem_of_getElem? (i := 134) rfl)) (hw _ (List.mem_of_getElem? (i := 103) rfl)) rfl (hw _ (List.mem_of_getElem? (i := 133) rfl)) (hw _ (List.mem_of_getElem? (i := 2) rfl)) (hw _ (List.mem_of_getElem? (i := 135) rfl)) (by decide) pd_2323304547 (argsL := []) rfl (rm_getDurability l Z a0 hw n0 h217 X.n0le b205 a_WRITE  F_b205_durability) (by rw [hml]; rfl) rfl (by decide) (leB rfl) (hb hby at_219) (by decide) (by decide) (fun T h220 v X hQ => ?_)
          obtain ⟨rfl, hh⟩ := hQ
          rw [hh] at X
          clear hh
          show Goes _ _ _ _ _ _ _ _ T (mkF m 222 #[.val (.int p0), .val (.int (1 : Int32)), .val (.int (0 : Int32)), .val (.int (1 : Int32)), .val (.int (0 : Int32)), .val (.ref b205), .val (.ref b209), .val (.ref b212), .val (.ref mu), .val (.int (1 : Int32)), .val (.ref b212), .val (.ref b212), .val (.ref a_WRITE)] [(.ref a_WRITE)])
          refine Goes.by (g' := (mkF m 224 #[.val (.int p0), .val (.int (1 : Int32)), .val (.int (0 : Int32)), .val (.int (1 : Int32)), .val (.int (0 : Int32)), .val (.ref b205), .val (.ref b209), .val (.ref b212), .val (.ref mu), .val (.int (1 : Int32)), .val (.ref b212), .val (.ref b212), .val (.ref a_WRITE)] [(.ref a_WRITE), (.ref a_WRITE)])) (fun _ q => XS.aload X.here X.hx rfl (hb hby at_222) rfl rfl q) ?_
          refine X.acmp rfl rfl (cd := .ne) (x := (.ref a_WRITE)) (y := (.ref a_WRITE)) (same := true) (pc' := 227) (hb hby at_224) (decide_eq_true rfl) (by decide) (by decide) ?_
          show Goes _ _ _ _ _ _ _ _ T (mkF m 227 #[.val (.int p0), .val (.int (1 : Int32)), .val (.int (0 : Int32)), .val (.int (1 : Int32)), .val (.int (0 : Int32)), .val (.ref b205), .val (.ref b209), .val (.ref b212), .val (.ref mu), .val (.int (1 : Int32)), .val (.ref b212), .val (.ref b212), .val (.ref a_WRITE)] [])
          refine Goes.by (g' := (mkF m 228 #[.val (.int p0), .val (.int (1 : Int32)), .val (.int (0 : Int32)), .val (.int (1 : Int32)), .val (.int (0 : Int32)), .val (.ref b205), .val (.ref b209), .val (.ref b212), .val (.ref mu), .val (.int (1 : Int32)), .val (.ref b212), .val (.ref b212), .val (.ref a_WRITE)] [(.int (1 : Int32))])) (fun _ q => XS.iconst X.here X.hx rfl (hb hby at_227) q) ?_
          refine Goes.by (g' := (mkF m 232 #[.val (.int p0), .val (.int (1 : Int32)), .val (.int (0 : Int32)), .val (.int (1 : Int32)), .val (.int (0 : Int32)), .val (.ref b205), .val (.ref b209), .val (.ref b212), .val (.ref mu), .val (.int (1 : Int32)), .val (.ref b212), .val (.ref b212), .val (.ref a_WRITE)] [(.int (1 : Int32))])) (fun _ q => XS.goto X.here X.hx rfl (pc0 := 228) (pc' := 232) rfl (hb hby at_228) (by decide) (by decide) q) ?_
          exact X.retZ hret (hb hby at_232) (by decide) (by decide) rfl
        · skip
          refine Goes.by (g' := (mkF m 43 #[.val (.int p0), .val (.int (1 : Int32)), .val (.int (0 : Int32)), .val (.int (1 : Int32)), .unset, .unset, .unset, .unset, .unset, .unset, .unset, .unset, .unset] [])) (fun _ q => XS.ifNo X.here X.hx rfl (hb hby at_40) rfl ((if0 _ _).trans (feq hB204).1) q) ?_
          refine Goes.by (g' := (mkF m 44 #[.val (.int p0), .val (.int (1 : Int32)), .val (.int (0 : Int32)), .val (.int (1 : Int32)), .unset, .unset, .unset, .unset, .unset, .unset, .unset, .unset, .unset] [(.int (1 : Int32))])) (fun _ q => XS.iconst X.here X.hx rfl (hb hby at_43) q) ?_
          refine Goes.by (g' := (mkF m 48 #[.val (.int p0), .val (.int (1 : Int32)), .val (.int (0 : Int32)), .val (.int (1 : Int32)), .unset, .unset, .unset, .unset, .unset, .unset, .unset, .unset, .unset] [(.int (1 : Int32))])) (fun _ q => XS.goto X.here X.hx rfl (pc0 := 44) (pc' := 48) rfl (hb hby at_44) (by decide) (by decide) q) ?_
          refine Goes.by (g' := (mkF m 50 #[.val (.int p0), .val (.int (1 : Int32)), .val (.int (0 : Int32)), .val (.int (1 : Int32)), .val (.int (1 : Int32)), .unset, .unset, .unset, .unset, .unset, .unset, .unset, .unset] [])) (fun _ q => XS.istore X.here X.hx rfl (hb hby at_48) rfl (l' := #[.val (.int p0), .val (.int (1 : Int32)), .val (.int (0 : Int32)), .val (.int (1 : Int32)), .val (.int (1 : Int32)), .unset, .unset, .unset, .unset, .unset, .unset, .unset, .unset]) rfl q) ?_
          refine X.newO (hw _ (List.mem_of_getElem? (i := 0) rfl)) (hw _ (List.mem_of_getElem? (i := 1) rfl)) (hw _ (List.mem_of_getElem? (i := 2) rfl)) (hb hby at_50) (by decide) (by decide) (fun T h222 b221 X g_b221 ga_b221 E E_b221 D_b221 => ?_)
          have O_ := O_.ext E
          have F_b221_mutations : Fld Z h222 b221 "com/example/hafiza/hafiza/StoreConfig" "mutations" "Lcom/example/hafiza/hafiza/Mutations;" .null := D_b221 (Or.inl (hw _ (List.mem_of_getElem? (i := 92) rfl))) (ty := (.object "com/example/hafiza/hafiza/Mutations")) (by decide)
          have F_b221_durability : Fld Z h222 b221 "com/example/hafiza/hafiza/StoreConfig" "durability" "Lcom/example/hafiza/hafiza/Durability;" .null := D_b221 (Or.inl (hw _ (List.mem_of_getElem? (i := 97) rfl))) (ty := (.object "com/example/hafiza/hafiza/Durability")) (by decide)
          have F_b221_allowCreate : Fld Z h222 b221 "com/example/hafiza/hafiza/StoreConfig" "allowCreate" "Z" (.int (0 : Int32)) := D_b221 (Or.inl (hw _ (List.mem_of_getElem? (i := 130) rfl))) (ty := .boolean) (by decide)
          show Goes _ _ _ _ _ _ _ _ T (mkF m 53 #[.val (.int p0), .val (.int (1 : Int32)), .val (.int (0 : Int32)), .val (.int (1 : Int32)), .val (.int (1 : Int32)), .unset, .unset, .unset, .unset, .unset, .unset, .unset, .unset] [(.ref b221)])
          refine Goes.by (g' := (mkF m 54 #[.val (.int p0), .val (.int (1 : Int32)), .val (.int (0 : Int32)), .val (.int (1 : Int32)), .val (.int (1 : Int32)), .unset, .unset, .unset, .unset, .unset, .unset, .unset, .unset] [(.ref b221), (.ref b221)])) (fun _ q => XS.dup X.here X.hx rfl (hb hby at_53) rfl rfl q) ?_
          have X_o := X
          refine X.callN rfl (hw _ (List.mem_of_getElem? (i := 3) rfl)) (hw _ (List.mem_of_getElem? (i := 4) rfl)) (hw _ (List.mem_of_getElem? (i := 2) rfl)) (hw _ (List.mem_of_getElem? (i := 5) rfl)) (by decide) pd_193421996 (argsL := []) rfl (rmSC l Z a0 hw n0 h222 X.n0le b221 ga_b221 E_b221 F_b221_mutations F_b221_durability F_b221_allowCreate a_WRITE S_WRITE O_) (by rw [hml]; rfl) rfl (by decide) (leB rfl) (hb hby at_54) (by decide) (by decide) (fun T h223 v X hQ => ?_)
          obtain ⟨rfl, K, mu, gz, E_mu, F_b221_mutations, F_b221_durability, F_b221_allowCreate⟩ := hQ
          have ga_mu : n0 ≤ mu := Nat.le_trans X_o.n0le gz
          have ne_b221_mu : b221 ≠ mu := Nat.ne_of_lt (Nat.lt_of_lt_of_le E_b221.lt gz)
          have O_ := O_.keep K (allS ga_b221 all0)
          have E_b221 := E_b221.keep K
          show Goes _ _ _ _ _ _ _ _ T (mkF m 57 #[.val (.int p0), .val (.int (1 : Int32)), .val (.int (0 : Int32)), .val (.int (1 : Int32)), .val (.int (1 : Int32)), .unset, .unset, .unset, .unset, .unset, .unset, .unset, .unset] [(.ref b221)])
          refine Goes.by (g' := (mkF m 59 #[.val (.int p0), .val (.int (1 : Int32)), .val (.int (0 : Int32)), .val (.int (1 : Int32)), .val (.int (1 : Int32)), .val (.ref b221), .unset, .unset, .unset, .unset, .unset, .unset, .unset] [])) (fun _ q => XS.astore X.here X.hx rfl (hb hby at_57) rfl rfl (l' := #[.val (.int p0), .val (.int (1 : Int32)), .val (.int (0 : Int32)), .val (.int (1 : Int32)), .val (.int (1 : Int32)), .val (.ref b221), .unset, .unset, .unset, .unset, .unset, .unset, .unset]) rfl q) ?_
          refine Goes.by (g' := (mkF m 60 #[.val (.int p0), .val (.int (1 : Int32)), .val (.int (0 : Int32)), .val (.int (1 : Int32)), .val (.int (1 : Int32)), .val (.ref b221), .unset, .unset, .unset, .unset, .unset, .unset, .unset] [(.int (1 : Int32))])) (fun _ q => XS.iloadN X.here X.hx rfl (hb hby at_59) rfl q) ?_
          refine Goes.by (g' := (mkF m 63 #[.val (.int p0), .val (.int (1 : Int32)), .val (.int (0 : Int32)), .val (.int (1 : Int32)), .val (.int (1 : Int32)), .val (.ref b221), .unset, .unset, .unset, .unset, .unset, .unset, .unset] [])) (fun _ q => XS.ifNo X.here X.hx rfl (hb hby at_60) rfl ((if0 _ _).trans (feq (show ¬ (1 : Int32) = (0 : Int32) from (by decide))).1) q) ?_
          refine Goes.by (g' := (mkF m 65 #[.val (.int p0), .val (.int (1 : Int32)), .val (.int (0 : Int32)), .val (.int (1 : Int32)), .val (.int (1 : Int32)), .val (.ref b221), .unset, .unset, .unset, .unset, .unset, .unset, .unset] [(.ref b221)])) (fun _ q => XS.aload X.here X.hx rfl (hb hby at_63) rfl rfl q) ?_
          refine Goes.by (g' := (mkF m 66 #[.val (.int p0), .val (.int (1 : Int32)), .val (.int (0 : Int32)), .val (.int (1 : Int32)), .val (.int (1 : Int32)), .val (.ref b221), .unset, .unset, .unset, .unset, .unset, .unset, .unset] [(.int (1 : Int32)), (.ref b221)])) (fun _ q => XS.iconst X.here X.hx rfl (hb hby at_65) q) ?_
          have X_o := X
          refine X.callV E_b221 (hw _ (List.mem_of_getElem? (i := 136) rfl)) (hw _ (List.mem_of_getElem? (i := 137) rfl)) (hw _ (List.mem_of_getElem? (i := 139) rfl)) (hw _ (List.mem_of_getElem? (i := 103) rfl)) rfl (hw _ (List.mem_of_getElem? (i := 138) rfl)) (hw _ (List.mem_of_getElem? (i := 2) rfl)) (hw _ (List.mem_of_getElem? (i := 140) rfl)) (by decide) pd_2088010534 (argsL := [(.int (1 : Int32))]) rfl (rm_setAllowCreate l Z a0 hw n0 h223 X.n0le b221  (.int (0 : Int32)) ga_b221 E_b221  F_b221_allowCreate (.ref mu) F_b221_mutations (.ref a_WRITE) F_b221_durability) (by rw [hml]; rfl) rfl (by decide) (leB rfl) (hb hby at_66) (by decide) (by decide) (fun T h224 v X hQ => ?_)
          obtain ⟨rfl, K, F_b221_allowCreate, F_b221_mutations, F_b221_durability⟩ := hQ
          have O_ := O_.keep K (allS ga_b221 all0)
          have E_b221 := E_b221.keep K
          have E_mu := E_mu.keep K
          show Goes _ _ _ _ _ _ _ _ T (mkF m 69 #[.val (.int p0), .val (.int (1 : Int32)), .val (.int (0 : Int32)), .val (.int (1 : Int32)), .val (.int (1 : Int32)), .val (.ref b221), .unset, .unset, .unset, .unset, .unset, .unset, .unset] [])
          refine Goes.by (g' := (mkF m 70 #[.val (.int p0), .val (.int (1 : Int32)), .val (.int (0 : Int32)), .val (.int (1 : Int32)), .val (.int (1 : Int32)), .val (.ref b221), .unset, .unset, .unset, .unset, .unset, .unset, .unset] [(.int (0 : Int32))])) (fun _ q => XS.iloadN X.here X.hx rfl (hb hby at_69) rfl q) ?_
          refine Goes.by (g' := (mkF m 81 #[.val (.int p0), .val (.int (1 : Int32)), .val (.int (0 : Int32)), .val (.int (1 : Int32)), .val (.int (1 : Int32)), .val (.ref b221), .unset, .unset, .unset, .unset, .unset, .unset, .unset] [])) (fun _ q => XS.ifYes X.here X.hx rfl (pc0 := 70) (pc' := 81) rfl (hb hby at_70) rfl ((if0 _ _).trans (teq (show (0 : Int32) = (0 : Int32) from (by decide))).1) (by decide) (by decide) q) ?_
          refine X.newO (hw _ (List.mem_of_getElem? (i := 98) rfl)) (hw _ (List.mem_of_getElem? (i := 10) rfl)) (hw _ (List.mem_of_getElem? (i := 11) rfl)) (hb hby at_81) (by decide) (by decide) (fun T h226 b225 X g_b225 ga_b225 E E_b225 D_b225 => ?_)
          have ne_b221_b225 : b221 ≠ b225 := by rw [g_b225]; exact Nat.ne_of_lt E_b221.lt
          have ne_mu_b225 : mu ≠ b225 := by rw [g_b225]; exact Nat.ne_of_lt E_mu.lt
          have O_ := O_.ext E
          have E_b221 := E_b221.ext E
          have E_mu := E_mu.ext E
          have F_b221_allowCreate := F_b221_allowCreate.ext E
          have F_b221_mutations := F_b221_mutations.ext E
          have F_b221_durability := F_b221_durability.ext E
          have F_b225_renamers : Fld Z h226 b225 "com/example/hafiza/hafiza/Mutations" "renamers" "Ljava/util/Set;" .null := D_b225 (Or.inr (hw _ (List.mem_of_getElem? (i := 86) rfl))) (ty := (.object "java/util/Set")) (by decide)
          have F_b225_deleters : Fld Z h226 b225 "com/example/hafiza/hafiza/Mutations" "deleters" "Ljava/util/Set;" .null := D_b225 (Or.inr (hw _ (List.mem_of_getElem? (i := 88) rfl))) (ty := (.object "java/util/Set")) (by decide)
          have F_b225_converters : Fld Z h226 b225 "com/example/hafiza/hafiza/Mutations" "converters" "Ljava/util/Set;" .null := D_b225 (Or.inr (hw _ (List.mem_of_getElem? (i := 90) rfl))) (ty := (.object "java/util/Set")) (by decide)
          show Goes _ _ _ _ _ _ _ _ T (mkF m 84 #[.val (.int p0), .val (.int (1 : Int32)), .val (.int (0 : Int32)), .val (.int (1 : Int32)), .val (.int (1 : Int32)), .val (.ref b221), .unset, .unset, .unset, .unset, .unset, .unset, .unset] [(.ref b225)])
          refine Goes.by (g' := (mkF m 85 #[.val (.int p0), .val (.int (1 : Int32)), .val (.int (0 : Int32)), .val (.int (1 : Int32)), .val (.int (1 : Int32)), .val (.ref b221), .unset, .unset, .unset, .unset, .unset, .unset, .unset] [(.ref b225), (.ref b225)])) (fun _ q => XS.dup X.here X.hx rfl (hb hby at_84) rfl rfl q) ?_
          have X_o := X
          refine X.callN rfl (hw _ (List.mem_of_getElem? (i := 99) rfl)) (hw _ (List.mem_of_getElem? (i := 13) rfl)) (hw _ (List.mem_of_getElem? (i := 11) rfl)) (hw _ (List.mem_of_getElem? (i := 14) rfl)) (by decide) pd_193421996 (argsL := []) rfl (rmMU l Z a0 hw n0 h226 X.n0le b225 ga_b225 E_b225 F_b225_renamers F_b225_deleters F_b225_converters) (by rw [hml]; rfl) rfl (by decide) (leB rfl) (hb hby at_85) (by decide) (by decide) (fun T h227 v X hQ => ?_)
          obtain ⟨rfl, K⟩ := hQ
          have O_ := O_.keep K (allS ga_b225 all0)
          have E_b221 := E_b221.keep K
          have E_mu := E_mu.keep K
          have F_b221_allowCreate := F_b221_allowCreate.keep K (ninS ne_b221_b225 nin0)
          have F_b221_mutations := F_b221_mutations.keep K (ninS ne_b221_b225 nin0)
          have F_b221_durability := F_b221_durability.keep K (ninS ne_b221_b225 nin0)
          have E_b225 := E_b225.keep K
          show Goes _ _ _ _ _ _ _ _ T (mkF m 88 #[.val (.int p0), .val (.int (1 : Int32)), .val (.int (0 : Int32)), .val (.int (1 : Int32)), .val (.int (1 : Int32)), .val (.ref b221), .unset, .unset, .unset, .unset, .unset, .unset, .unset] [(.ref b225)])
          refine Goes.by (g' := (mkF m 90 #[.val (.int p0), .val (.int (1 : Int32)), .val (.int (0 : Int32)), .val (.int (1 : Int32)), .val (.int (1 : Int32)), .val (.ref b221), .val (.ref b225), .unset, .unset, .unset, .unset, .unset, .unset] [])) (fun _ q => XS.astore X.here X.hx rfl (hb hby at_88) rfl rfl (l' := #[.val (.int p0), .val (.int (1 : Int32)), .val (.int (0 : Int32)), .val (.int (1 : Int32)), .val (.int (1 : Int32)), .val (.ref b221), .val (.ref b225), .unset, .unset, .unset, .unset, .unset, .unset]) rfl q) ?_
          refine X.newO (hw _ (List.mem_of_getElem? (i := 98) rfl)) (hw _ (List.mem_of_getElem? (i := 10) rfl)) (hw _ (List.mem_of_getElem? (i := 11) rfl)) (hb hby at_90) (by decide) (by decide) (fun T h229 b228 X g_b228 ga_b228 E E_b228 D_b228 => ?_)
          have ne_b221_b228 : b221 ≠ b228 := by rw [g_b228]; exact Nat.ne_of_lt E_b221.lt
          have ne_mu_b228 : mu ≠ b228 := by rw [g_b228]; exact Nat.ne_of_lt E_mu.lt
          have ne_b225_b228 : b225 ≠ b228 := by rw [g_b228]; exact Nat.ne_of_lt E_b225.lt
          have O_ := O_.ext E
          have E_b221 := E_b221.ext E
          have E_mu := E_mu.ext E
          have F_b221_allowCreate := F_b221_allowCreate.ext E
          have F_b221_mutations := F_b221_mutations.ext E
          have F_b221_durability := F_b221_durability.ext E
          have E_b225 := E_b225.ext E
          have F_b228_renamers : Fld Z h229 b228 "com/example/hafiza/hafiza/Mutations" "renamers" "Ljava/util/Set;" .null := D_b228 (Or.inr (hw _ (List.mem_of_getElem? (i := 86) rfl))) (ty := (.object "java/util/Set")) (by decide)
          have F_b228_deleters : Fld Z h229 b228 "com/example/hafiza/hafiza/Mutations" "deleters" "Ljava/util/Set;" .null := D_b228 (Or.inr (hw _ (List.mem_of_getElem? (i := 88) rfl))) (ty := (.object "java/util/Set")) (by decide)
          have F_b228_converters : Fld Z h229 b228 "com/example/hafiza/hafiza/Mutations" "converters" "Ljava/util/Set;" .null := D_b228 (Or.inr (hw _ (List.mem_of_getElem? (i := 90) rfl))) (ty := (.object "java/util/Set")) (by decide)
          show Goes _ _ _ _ _ _ _ _ T (mkF m 93 #[.val (.int p0), .val (.int (1 : Int32)), .val (.int (0 : Int32)), .val (.int (1 : Int32)), .val (.int (1 : Int32)), .val (.ref b221), .val (.ref b225), .unset, .unset, .unset, .unset, .unset, .unset] [(.ref b228)])
          refine Goes.by (g' := (mkF m 94 #[.val (.int p0), .val (.int (1 : Int32)), .val (.int (0 : Int32)), .val (.int (1 : Int32)), .val (.int (1 : Int32)), .val (.ref b221), .val (.ref b225), .unset, .unset, .unset, .unset, .unset, .unset] [(.ref b228), (.ref b228)])) (fun _ q => XS.dup X.here X.hx rfl (hb hby at_93) rfl rfl q) ?_
          have X_o := X
          refine X.callN rfl (hw _ (List.mem_of_getElem? (i := 99) rfl)) (hw _ (List.mem_of_getElem? (i := 13) rfl)) (hw _ (List.mem_of_getElem? (i := 11) rfl)) (hw _ (List.mem_of_getElem? (i := 14) rfl)) (by decide) pd_193421996 (argsL := []) rfl (rmMU l Z a0 hw n0 h229 X.n0le b228 ga_b228 E_b228 F_b228_renamers F_b228_deleters F_b228_converters) (by rw [hml]; rfl) rfl (by decide) (leB rfl) (hb hby at_94) (by decide) (by decide) (fun T h230 v X hQ => ?_)
          obtain ⟨rfl, K⟩ := hQ
          have O_ := O_.keep K (allS ga_b228 all0)
          have E_b221 := E_b221.keep K
          have E_mu := E_mu.keep K
          have F_b221_allowCreate := F_b221_allowCreate.keep K (ninS ne_b221_b228 nin0)
          have F_b221_mutations := F_b221_mutations.keep K (ninS ne_b221_b228 nin0)
          have F_b221_durability := F_b221_durability.keep K (ninS ne_b221_b228 nin0)
          have E_b225 := E_b225.keep K
          have E_b228 := E_b228.keep K
          show Goes _ _ _ _ _ _ _ _ T (mkF m 97 #[.val (.int p0), .val (.int (1 : Int32)), .val (.int (0 : Int32)), .val (.int (1 : Int32)), .val (.int (1 : Int32)), .val (.ref b221), .val (.ref b225), .unset, .unset, .unset, .unset, .unset, .unset] [(.ref b228)])
          refine Goes.by (g' := (mkF m 99 #[.val (.int p0), .val (.int (1 : Int32)), .val (.int (0 : Int32)), .val (.int (1 : Int32)), .val (.int (1 : Int32)), .val (.ref b221), .val (.ref b225), .val (.ref b228), .unset, .unset, .unset, .unset, .unset] [])) (fun _ q => XS.astore X.here X.hx rfl (hb hby at_97) rfl rfl (l' := #[.val (.int p0), .val (.int (1 : Int32)), .val (.int (0 : Int32)), .val (.int (1 : Int32)), .val (.int (1 : Int32)), .val (.ref b221), .val (.ref b225), .val (.ref b228), .unset, .unset, .unset, .unset, .unset]) rfl q) ?_
          refine Goes.by (g' := (mkF m 101 #[.val (.int p0), .val (.int (1 : Int32)), .val (.int (0 : Int32)), .val (.int (1 : Int32)), .val (.int (1 : Int32)), .val (.ref b221), .val (.ref b225), .val (.ref b228), .unset, .unset, .unset, .unset, .unset] [(.ref b221)])) (fun _ q => XS.aload X.here X.hx rfl (hb hby at_99) rfl rfl q) ?_
          have X_o := X
          refine X.callV E_b221 (hw _ (List.mem_of_getElem? (i := 100) rfl)) (hw _ (List.mem_of_getElem? (i := 101) rfl)) (hw _ (List.mem_of_getElem? (i := 103) rfl)) (hw _ (List.mem_of_getElem? (i := 103) rfl)) rfl (hw _ (List.mem_of_getElem? (i := 102) rfl)) (hw _ (List.mem_of_getElem? (i := 2) rfl)) (hw _ (List.mem_of_getElem? (i := 104) rfl)) (by decide) pd_2544813166 (argsL := []) rfl (rm_getMutations l Z a0 hw n0 h230 X.n0le b221 mu  F_b221_mutations) (by rw [hml]; rfl) rfl (by decide) (leB rfl) (hb hby at_101) (by decide) (by decide) (fun T h231 v X hQ => ?_)
          obtain ⟨rfl, hh⟩ := hQ
          rw [hh] at X
          clear hh
          show Goes _ _ _ _ _ _ _ _ T (mkF m 104 #[.val (.int p0), .val (.int (1 : Int32)), .val (.int (0 : Int32)), .val (.int (1 : Int32)), .val (.int (1 : Int32)), .val (.ref b221), .val (.ref b225), .val (.ref b228), .unset, .unset, .unset, .unset, .unset] [(.ref mu)])
          refine Goes.by (g' := (mkF m 106 #[.val (.int p0), .val (.int (1 : Int32)), .val (.int (0 : Int32)), .val (.int (1 : Int32)), .val (.int (1 : Int32)), .val (.ref b221), .val (.ref b225), .val (.ref b228), .val (.ref mu), .unset, .unset, .unset, .unset] [])) (fun _ q => XS.astore X.here X.hx rfl (hb hby at_104) rfl rfl (l' := #[.val (.int p0), .val (.int (1 : Int32)), .val (.int (0 : Int32)), .val (.int (1 : Int32)), .val (.int (1 : Int32)), .val (.ref b221), .val (.ref b225), .val (.ref b228), .val (.ref mu), .unset, .unset, .unset, .unset]) rfl q) ?_
          refine Goes.by (g' := (mkF m 108 #[.val (.int p0), .val (.int (1 : Int32)), .val (.int (0 : Int32)), .val (.int (1 : Int32)), .val (.int (1 : Int32)), .val (.ref b221), .val (.ref b225), .val (.ref b228), .val (.ref mu), .unset, .unset, .unset, .unset] [(.ref mu)])) (fun _ q => XS.aload X.here X.hx rfl (hb hby at_106) rfl rfl q) ?_
          refine Goes.by (g' := (mkF m 111 #[.val (.int p0), .val (.int (1 : Int32)), .val (.int (0 : Int32)), .val (.int (1 : Int32)), .val (.int (1 : Int32)), .val (.ref b221), .val (.ref b225), .val (.ref b228), .val (.ref mu), .unset, .unset, .unset, .unset] [])) (fun _ q => XS.ifnullNo X.here X.hx rfl (hb hby at_108) rfl q) ?_
          refine Goes.by (g' := (mkF m 113 #[.val (.int p0), .val (.int (1 : Int32)), .val (.int (0 : Int32)), .val (.int (1 : Int32)), .val (.int (1 : Int32)), .val (.ref b221), .val (.ref b225), .val (.ref b228), .val (.ref mu), .unset, .unset, .unset, .unset] [(.ref mu)])) (fun _ q => XS.aload X.here X.hx rfl (hb hby at_111) rfl rfl q) ?_
          refine Goes.by (g' := (mkF m 115 #[.val (.int p0), .val (.int (1 : Int32)), .val (.int (0 : Int32)), .val (.int (1 : Int32)), .val (.int (1 : Int32)), .val (.ref b221), .val (.ref b225), .val (.ref b228), .val (.ref mu), .unset, .unset, .unset, .unset] [(.ref b225), (.ref mu)])) (fun _ q => XS.aload X.here X.hx rfl (hb hby at_113) rfl rfl q) ?_
          refine X.acmp rfl rfl (cd := .eq) (x := (.ref mu)) (y := (.ref b225)) (same := false) (pc' := 118) (hb hby at_115) (decide_eq_false fun q => ne_mu_b225 (Value.ref.inj q)) (by decide) (by decide) ?_
          show Goes _ _ _ _ _ _ _ _ T (mkF m 118 #[.val (.int p0), .val (.int (1 : Int32)), .val (.int (0 : Int32)), .val (.int (1 : Int32)), .val (.int (1 : Int32)), .val (.ref b221), .val (.ref b225), .val (.ref b228), .val (.ref mu), .unset, .unset, .unset, .unset] [])
          refine Goes.by (g' := (mkF m 120 #[.val (.int p0), .val (.int (1 : Int32)), .val (.int (0 : Int32)), .val (.int (1 : Int32)), .val (.int (1 : Int32)), .val (.ref b221), .val (.ref b225), .val (.ref b228), .val (.ref mu), .unset, .unset, .unset, .unset] [(.ref mu)])) (fun _ q => XS.aload X.here X.hx rfl (hb hby at_118) rfl rfl q) ?_
          refine Goes.by (g' := (mkF m 122 #[.val (.int p0), .val (.int (1 : Int32)), .val (.int (0 : Int32)), .val (.int (1 : Int32)), .val (.int (1 : Int32)), .val (.ref b221), .val (.ref b225), .val (.ref b228), .val (.ref mu), .unset, .unset, .unset, .unset] [(.ref b228), (.ref mu)])) (fun _ q => XS.aload X.here X.hx rfl (hb hby at_120) rfl rfl q) ?_
          refine X.acmp rfl rfl (cd := .eq) (x := (.ref mu)) (y := (.ref b228)) (same := false) (pc' := 125) (hb hby at_122) (decide_eq_false fun q => ne_mu_b228 (Value.ref.inj q)) (by decide) (by decide) ?_
          show Goes _ _ _ _ _ _ _ _ T (mkF m 125 #[.val (.int p0), .val (.int (1 : Int32)), .val (.int (0 : Int32)), .val (.int (1 : Int32)), .val (.int (1 : Int32)), .val (.ref b221), .val (.ref b225), .val (.ref b228), .val (.ref mu), .unset, .unset, .unset, .unset] [])
          refine Goes.by (g' := (mkF m 126 #[.val (.int p0), .val (.int (1 : Int32)), .val (.int (0 : Int32)), .val (.int (1 : Int32)), .val (.int (1 : Int32)), .val (.ref b221), .val (.ref b225), .val (.ref b228), .val (.ref mu), .unset, .unset, .unset, .unset] [(.int (1 : Int32))])) (fun _ q => XS.iconst X.here X.hx rfl (hb hby at_125) q) ?_
          refine Goes.by (g' := (mkF m 130 #[.val (.int p0), .val (.int (1 : Int32)), .val (.int (0 : Int32)), .val (.int (1 : Int32)), .val (.int (1 : Int32)), .val (.ref b221), .val (.ref b225), .val (.ref b228), .val (.ref mu), .unset, .unset, .unset, .unset] [(.int (1 : Int32))])) (fun _ q => XS.goto X.here X.hx rfl (pc0 := 126) (pc' := 130) rfl (hb hby at_126) (by decide) (by decide) q) ?_
          refine Goes.by (g' := (mkF m 132 #[.val (.int p0), .val (.int (1 : Int32)), .val (.int (0 : Int32)), .val (.int (1 : Int32)), .val (.int (1 : Int32)), .val (.ref b221), .val (.ref b225), .val (.ref b228), .val (.ref mu), .val (.int (1 : Int32)), .unset, .unset, .unset] [])) (fun _ q => XS.istore X.here X.hx rfl (hb hby at_130) rfl (l' := #[.val (.int p0), .val (.int (1 : Int32)), .val (.int (0 : Int32)), .val (.int (1 : Int32)), .val (.int (1 : Int32)), .val (.ref b221), .val (.ref b225), .val (.ref b228), .val (.ref mu), .val (.int (1 : Int32)), .unset, .unset, .unset]) rfl q) ?_
          refine Goes.by (g' := (mkF m 133 #[.val (.int p0), .val (.int (1 : Int32)), .val (.int (0 : Int32)), .val (.int (1 : Int32)), .val (.int (1 : Int32)), .val (.ref b221), .val (.ref b225), .val (.ref b228), .val (.ref mu), .val (.int (1 : Int32)), .unset, .unset, .unset] [(.int (1 : Int32))])) (fun _ q => XS.iloadN X.here X.hx rfl (hb hby at_132) rfl q) ?_
          refine Goes.by (g' := (mkF m 136 #[.val (.int p0), .val (.int (1 : Int32)), .val (.int (0 : Int32)), .val (.int (1 : Int32)), .val (.int (1 : Int32)), .val (.ref b221), .val (.ref b225), .val (.ref b228), .val (.ref mu), .val (.int (1 : Int32)), .unset, .unset, .unset] [])) (fun _ q => XS.ifNo X.here X.hx rfl (hb hby at_133) rfl ((if0 _ _).trans (feq (show ¬ (1 : Int32) = (0 : Int32) from (by decide))).1) q) ?_
          refine Goes.by (g' := (mkF m 138 #[.val (.int p0), .val (.int (1 : Int32)), .val (.int (0 : Int32)), .val (.int (1 : Int32)), .val (.int (1 : Int32)), .val (.ref b221), .val (.ref b225), .val (.ref b228), .val (.ref mu), .val (.int (1 : Int32)), .unset, .unset, .unset] [(.ref b221)])) (fun _ q => XS.aload X.here X.hx rfl (hb hby at_136) rfl rfl q) ?_
          refine Goes.by (g' := (mkF m 140 #[.val (.int p0), .val (.int (1 : Int32)), .val (.int (0 : Int32)), .val (.int (1 : Int32)), .val (.int (1 : Int32)), .val (.ref b221), .val (.ref b225), .val (.ref b228), .val (.ref mu), .val (.int (1 : Int32)), .unset, .unset, .unset] [(.int (1 : Int32)), (.ref b221)])) (fun _ q => XS.iload X.here X.hx rfl (hb hby at_138) rfl q) ?_
          refine Goes.by (g' := (mkF m 143 #[.val (.int p0), .val (.int (1 : Int32)), .val (.int (0 : Int32)), .val (.int (1 : Int32)), .val (.int (1 : Int32)), .val (.ref b221), .val (.ref b225), .val (.ref b228), .val (.ref mu), .val (.int (1 : Int32)), .unset, .unset, .unset] [(.ref b221)])) (fun _ q => XS.ifNo X.here X.hx rfl (hb hby at_140) rfl ((if0 _ _).trans (feq (show ¬ (1 : Int32) = (0 : Int32) from (by decide))).1) q) ?_
          refine Goes.by (g' := (mkF m 145 #[.val (.int p0), .val (.int (1 : Int32)), .val (.int (0 : Int32)), .val (.int (1 : Int32)), .val (.int (1 : Int32)), .val (.ref b221), .val (.ref b225), .val (.ref b228), .val (.ref mu), .val (.int (1 : Int32)), .unset, .unset, .unset] [(.ref b228), (.ref b221)])) (fun _ q => XS.aload X.here X.hx rfl (hb hby at_143) rfl rfl q) ?_
          refine Goes.by (g' := (mkF m 150 #[.val (.int p0), .val (.int (1 : Int32)), .val (.int (0 : Int32)), .val (.int (1 : Int32)), .val (.int (1 : Int32)), .val (.ref b221), .val (.ref b225), .val (.ref b228), .val (.ref mu), .val (.int (1 : Int32)), .unset, .unset, .unset] [(.ref b228), (.ref b221)])) (fun _ q => XS.goto X.here X.hx rfl (pc0 := 145) (pc' := 150) rfl (hb hby at_145) (by decide) (by decide) q) ?_
          have X_o := X
          refine X.callV E_b221 (hw _ (List.mem_of_getElem? (i := 105) rfl)) (hw _ (List.mem_of_getElem? (i := 106) rfl)) (hw _ (List.mem_of_getElem? (i := 108) rfl)) (hw _ (List.mem_of_getElem? (i := 103) rfl)) rfl (hw _ (List.mem_of_getElem? (i := 107) rfl)) (hw _ (List.mem_of_getElem? (i := 2) rfl)) (hw _ (List.mem_of_getElem? (i := 109) rfl)) (by decide) pd_2932898788 (argsL := [(.ref b228)]) rfl (rm_setMutations l Z a0 hw n0 h230 X.n0le b221 b228 (.ref mu) ga_b221 E_b221 E_b228 F_b221_mutations (.ref a_WRITE) F_b221_durability (.int (1 : Int32)) F_b221_allowCreate) (by rw [hml]; rfl) rfl (by decide) (leB rfl) (hb hby at_150) (by decide) (by decide) (fun T h232 v X hQ => ?_)
          obtain ⟨rfl, K, F_b221_mutations, F_b221_durability, F_b221_allowCreate⟩ := hQ
          have O_ := O_.keep K (allS ga_b221 all0)
          have E_b221 := E_b221.keep K
          have E_mu := E_mu.keep K
          have E_b225 := E_b225.keep K
          have E_b228 := E_b228.keep K
          show Goes _ _ _ _ _ _ _ _ T (mkF m 153 #[.val (.int p0), .val (.int (1 : Int32)), .val (.int (0 : Int32)), .val (.int (1 : Int32)), .val (.int (1 : Int32)), .val (.ref b221), .val (.ref b225), .val (.ref b228), .val (.ref mu), .val (.int (1 : Int32)), .unset, .unset, .unset] [])
          refine Goes.by (g' := (mkF m 155 #[.val (.int p0), .val (.int (1 : Int32)), .val (.int (0 : Int32)), .val (.int (1 : Int32)), .val (.int (1 : Int32)), .val (.ref b221), .val (.ref b225), .val (.ref b228), .val (.ref mu), .val (.int (1 : Int32)), .unset, .unset, .unset] [(.int (1 : Int32))])) (fun _ q => XS.iload X.here X.hx rfl (hb hby at_153) rfl q) ?_
          refine Goes.by (g' := (mkF m 158 #[.val (.int p0), .val (.int (1 : Int32)), .val (.int (0 : Int32)), .val (.int (1 : Int32)), .val (.int (1 : Int32)), .val (.ref b221), .val (.ref b225), .val (.ref b228), .val (.ref mu), .val (.int (1 : Int32)), .unset, .unset, .unset] [])) (fun _ q => XS.ifNo X.here X.hx rfl (hb hby at_155) rfl ((if0 _ _).trans (feq (show ¬ (1 : Int32) = (0 : Int32) from (by decide))).1) q) ?_
          refine Goes.by (g' := (mkF m 160 #[.val (.int p0), .val (.int (1 : Int32)), .val (.int (0 : Int32)), .val (.int (1 : Int32)), .val (.int (1 : Int32)), .val (.ref b221), .val (.ref b225), .val (.ref b228), .val (.ref mu), .val (.int (1 : Int32)), .unset, .unset, .unset] [(.ref b225)])) (fun _ q => XS.aload X.here X.hx rfl (hb hby at_158) rfl rfl q) ?_
          refine Goes.by (g' := (mkF m 165 #[.val (.int p0), .val (.int (1 : Int32)), .val (.int (0 : Int32)), .val (.int (1 : Int32)), .val (.int (1 : Int32)), .val (.ref b221), .val (.ref b225), .val (.ref b228), .val (.ref mu), .val (.int (1 : Int32)), .unset, .unset, .unset] [(.ref b225)])) (fun _ q => XS.goto X.here X.hx rfl (pc0 := 160) (pc' := 165) rfl (hb hby at_160) (by decide) (by decide) q) ?_
          refine Goes.by (g' := (mkF m 167 #[.val (.int p0), .val (.int (1 : Int32)), .val (.int (0 : Int32)), .val (.int (1 : Int32)), .val (.int (1 : Int32)), .val (.ref b221), .val (.ref b225), .val (.ref b228), .val (.ref mu), .val (.int (1 : Int32)), .val (.ref b225), .unset, .unset] [])) (fun _ q => XS.astore X.here X.hx rfl (hb hby at_165) rfl rfl (l' := #[.val (.int p0), .val (.int (1 : Int32)), .val (.int (0 : Int32)), .val (.int (1 : Int32)), .val (.int (1 : Int32)), .val (.ref b221), .val (.ref b225), .val (.ref b228), .val (.ref mu), .val (.int (1 : Int32)), .val (.ref b225), .unset, .unset]) rfl q) ?_
          refine Goes.by (g' := (mkF m 169 #[.val (.int p0), .val (.int (1 : Int32)), .val (.int (0 : Int32)), .val (.int (1 : Int32)), .val (.int (1 : Int32)), .val (.ref b221), .val (.ref b225), .val (.ref b228), .val (.ref mu), .val (.int (1 : Int32)), .val (.ref b225), .unset, .unset] [(.ref b221)])) (fun _ q => XS.aload X.here X.hx rfl (hb hby at_167) rfl rfl q) ?_
          refine Goes.by (g' := (mkF m 171 #[.val (.int p0), .val (.int (1 : Int32)), .val (.int (0 : Int32)), .val (.int (1 : Int32)), .val (.int (1 : Int32)), .val (.ref b221), .val (.ref b225), .val (.ref b228), .val (.ref mu), .val (.int (1 : Int32)), .val (.ref b225), .unset, .unset] [(.ref b225), (.ref b221)])) (fun _ q => XS.aload X.here X.hx rfl (hb hby at_169) rfl rfl q) ?_
          have X_o := X
          refine X.callV E_b221 (hw _ (List.mem_of_getElem? (i := 105) rfl)) (hw _ (List.mem_of_getElem? (i := 106) rfl)) (hw _ (List.mem_of_getElem? (i := 108) rfl)) (hw _ (List.mem_of_getElem? (i := 103) rfl)) rfl (hw _ (List.mem_of_getElem? (i := 107) rfl)) (hw _ (List.mem_of_getElem? (i := 2) rfl)) (hw _ (List.mem_of_getElem? (i := 109) rfl)) (by decide) pd_2932898788 (argsL := [(.ref b225)]) rfl (rm_setMutations l Z a0 hw n0 h232 X.n0le b221 b225 (.ref b228) ga_b221 E_b221 E_b225 F_b221_mutations (.ref a_WRITE) F_b221_durability (.int (1 : Int32)) F_b221_allowCreate) (by rw [hml]; rfl) rfl (by decide) (leB rfl) (hb hby at_171) (by decide) (by decide) (fun T h233 v X hQ => ?_)
          obtain ⟨rfl, K, F_b221_mutations, F_b221_durability, F_b221_allowCreate⟩ := hQ
          have O_ := O_.keep K (allS ga_b221 all0)
          have E_b221 := E_b221.keep K
          have E_mu := E_mu.keep K
          have E_b225 := E_b225.keep K
          have E_b228 := E_b228.keep K
          show Goes _ _ _ _ _ _ _ _ T (mkF m 174 #[.val (.int p0), .val (.int (1 : Int32)), .val (.int (0 : Int32)), .val (.int (1 : Int32)), .val (.int (1 : Int32)), .val (.ref b221), .val (.ref b225), .val (.ref b228), .val (.ref mu), .val (.int (1 : Int32)), .val (.ref b225), .unset, .unset] [])
          refine Goes.by (g' := (mkF m 176 #[.val (.int p0), .val (.int (1 : Int32)), .val (.int (0 : Int32)), .val (.int (1 : Int32)), .val (.int (1 : Int32)), .val (.ref b221), .val (.ref b225), .val (.ref b228), .val (.ref mu), .val (.int (1 : Int32)), .val (.ref b225), .unset, .unset] [(.ref b221)])) (fun _ q => XS.aload X.here X.hx rfl (hb hby at_174) rfl rfl q) ?_
          have X_o := X
          refine X.callV E_b221 (hw _ (List.mem_of_getElem? (i := 100) rfl)) (hw _ (List.mem_of_getElem? (i := 101) rfl)) (hw _ (List.mem_of_getElem? (i := 103) rfl)) (hw _ (List.mem_of_getElem? (i := 103) rfl)) rfl (hw _ (List.mem_of_getElem? (i := 102) rfl)) (hw _ (List.mem_of_getElem? (i := 2) rfl)) (hw _ (List.mem_of_getElem? (i := 104) rfl)) (by decide) pd_2544813166 (argsL := []) rfl (rm_getMutations l Z a0 hw n0 h233 X.n0le b221 b225  F_b221_mutations) (by rw [hml]; rfl) rfl (by decide) (leB rfl) (hb hby at_176) (by decide) (by decide) (fun T h234 v X hQ => ?_)
          obtain ⟨rfl, hh⟩ := hQ
          rw [hh] at X
          clear hh
          show Goes _ _ _ _ _ _ _ _ T (mkF m 179 #[.val (.int p0), .val (.int (1 : Int32)), .val (.int (0 : Int32)), .val (.int (1 : Int32)), .val (.int (1 : Int32)), .val (.ref b221), .val (.ref b225), .val (.ref b228), .val (.ref mu), .val (.int (1 : Int32)), .val (.ref b225), .unset, .unset] [(.ref b225)])
          refine Goes.by (g' := (mkF m 181 #[.val (.int p0), .val (.int (1 : Int32)), .val (.int (0 : Int32)), .val (.int (1 : Int32)), .val (.int (1 : Int32)), .val (.ref b221), .val (.ref b225), .val (.ref b228), .val (.ref mu), .val (.int (1 : Int32)), .val (.ref b225), .val (.ref b225), .unset] [])) (fun _ q => XS.astore X.here X.hx rfl (hb hby at_179) rfl rfl (l' := #[.val (.int p0), .val (.int (1 : Int32)), .val (.int (0 : Int32)), .val (.int (1 : Int32)), .val (.int (1 : Int32)), .val (.ref b221), .val (.ref b225), .val (.ref b228), .val (.ref mu), .val (.int (1 : Int32)), .val (.ref b225), .val (.ref b225), .unset]) rfl q) ?_
          refine Goes.by (g' := (mkF m 182 #[.val (.int p0), .val (.int (1 : Int32)), .val (.int (0 : Int32)), .val (.int (1 : Int32)), .val (.int (1 : Int32)), .val (.ref b221), .val (.ref b225), .val (.ref b228), .val (.ref mu), .val (.int (1 : Int32)), .val (.ref b225), .val (.ref b225), .unset] [(.int (0 : Int32))])) (fun _ q => XS.iloadN X.here X.hx rfl (hb hby at_181) rfl q) ?_
          refine Goes.by (g' := (mkF m 191 #[.val (.int p0), .val (.int (1 : Int32)), .val (.int (0 : Int32)), .val (.int (1 : Int32)), .val (.int (1 : Int32)), .val (.ref b221), .val (.ref b225), .val (.ref b228), .val (.ref mu), .val (.int (1 : Int32)), .val (.ref b225), .val (.ref b225), .unset] [])) (fun _ q => XS.ifYes X.here X.hx rfl (pc0 := 182) (pc' := 191) rfl (hb hby at_182) rfl ((if0 _ _).trans (teq (show (0 : Int32) = (0 : Int32) from (by decide))).1) (by decide) (by decide) q) ?_
          refine X.getS (Or.inl (hw _ (List.mem_of_getElem? (i := 123) rfl))) (host := "") Via.refl (S_WRITE.ext O_.2) (hb hby at_191) (fun T X => ?_)
          show Goes _ _ _ _ _ _ _ _ T (mkF m 194 #[.val (.int p0), .val (.int (1 : Int32)), .val (.int (0 : Int32)), .val (.int (1 : Int32)), .val (.int (1 : Int32)), .val (.ref b221), .val (.ref b225), .val (.ref b228), .val (.ref mu), .val (.int (1 : Int32)), .val (.ref b225), .val (.ref b225), .unset] [(.ref a_WRITE)])
          refine Goes.by (g' := (mkF m 196 #[.val (.int p0), .val (.int (1 : Int32)), .val (.int (0 : Int32)), .val (.int (1 : Int32)), .val (.int (1 : Int32)), .val (.ref b221), .val (.ref b225), .val (.ref b228), .val (.ref mu), .val (.int (1 : Int32)), .val (.ref b225), .val (.ref b225), .val (.ref a_WRITE)] [])) (fun _ q => XS.astore X.here X.hx rfl (hb hby at_194) rfl rfl (l' := #[.val (.int p0), .val (.int (1 : Int32)), .val (.int (0 : Int32)), .val (.int (1 : Int32)), .val (.int (1 : Int32)), .val (.ref b221), .val (.ref b225), .val (.ref b228), .val (.ref mu), .val (.int (1 : Int32)), .val (.ref b225), .val (.ref b225), .val (.ref a_WRITE)]) rfl q) ?_
          refine Goes.by (g' := (mkF m 198 #[.val (.int p0), .val (.int (1 : Int32)), .val (.int (0 : Int32)), .val (.int (1 : Int32)), .val (.int (1 : Int32)), .val (.ref b221), .val (.ref b225), .val (.ref b228), .val (.ref mu), .val (.int (1 : Int32)), .val (.ref b225), .val (.ref b225), .val (.ref a_WRITE)] [(.int (1 : Int32))])) (fun _ q => XS.iload X.here X.hx rfl (hb hby at_196) rfl q) ?_
          refine Goes.by (g' := (mkF m 201 #[.val (.int p0), .val (.int (1 : Int32)), .val (.int (0 : Int32)), .val (.int (1 : Int32)), .val (.int (1 : Int32)), .val (.ref b221), .val (.ref b225), .val (.ref b228), .val (.ref mu), .val (.int (1 : Int32)), .val (.ref b225), .val (.ref b225), .val (.ref a_WRITE)] [])) (fun _ q => XS.ifNo X.here X.hx rfl (hb hby at_198) rfl ((if0 _ _).trans (feq (show ¬ (1 : Int32) = (0 : Int32) from (by decide))).1) q) ?_
          refine Goes.by (g' := (mkF m 203 #[.val (.int p0), .val (.int (1 : Int32)), .val (.int (0 : Int32)), .val (.int (1 : Int32)), .val (.int (1 : Int32)), .val (.ref b221), .val (.ref b225), .val (.ref b228), .val (.ref mu), .val (.int (1 : Int32)), .val (.ref b225), .val (.ref b225), .val (.ref a_WRITE)] [(.ref b225)])) (fun _ q => XS.aload X.here X.hx rfl (hb hby at_201) rfl rfl q) ?_
          refine Goes.by (g' := (mkF m 205 #[.val (.int p0), .val (.int (1 : Int32)), .val (.int (0 : Int32)), .val (.int (1 : Int32)), .val (.int (1 : Int32)), .val (.ref b221), .val (.ref b225), .val (.ref b228), .val (.ref mu), .val (.int (1 : Int32)), .val (.ref b225), .val (.ref b225), .val (.ref a_WRITE)] [(.ref b225), (.ref b225)])) (fun _ q => XS.aload X.here X.hx rfl (hb hby at_203) rfl rfl q) ?_
          refine X.acmp rfl rfl (cd := .ne) (x := (.ref b225)) (y := (.ref b225)) (same := true) (pc' := 208) (hb hby at_205) (decide_eq_true rfl) (by decide) (by decide) ?_
          show Goes _ _ _ _ _ _ _ _ T (mkF m 208 #[.val (.int p0), .val (.int (1 : Int32)), .val (.int (0 : Int32)), .val (.int (1 : Int32)), .val (.int (1 : Int32)), .val (.ref b221), .val (.ref b225), .val (.ref b228), .val (.ref mu), .val (.int (1 : Int32)), .val (.ref b225), .val (.ref b225), .val (.ref a_WRITE)] [])
          refine Goes.by (g' := (mkF m 210 #[.val (.int p0), .val (.int (1 : Int32)), .val (.int (0 : Int32)), .val (.int (1 : Int32)), .val (.int (1 : Int32)), .val (.ref b221), .val (.ref b225), .val (.ref b228), .val (.ref mu), .val (.int (1 : Int32)), .val (.ref b225), .val (.ref b225), .val (.ref a_WRITE)] [(.ref b221)])) (fun _ q => XS.aload X.here X.hx rfl (hb hby at_208) rfl rfl q) ?_
          have X_o := X
          refine X.callV E_b221 (hw _ (List.mem_of_getElem? (i := 124) rfl)) (hw _ (List.mem_of_getElem? (i := 125) rfl)) (hw _ (List.mem_of_getElem? (i := 127) rfl)) (hw _ (List.mem_of_getElem? (i := 103) rfl)) rfl (hw _ (List.mem_of_getElem? (i := 126) rfl)) (hw _ (List.mem_of_getElem? (i := 2) rfl)) (hw _ (List.mem_of_getElem? (i := 128) rfl)) (by decide) pd_193422000 (argsL := []) rfl (rm_getAllowCreate l Z a0 hw n0 h233 X.n0le b221 (1 : Int32) (by decide) F_b221_allowCreate) (by rw [hml]; rfl) rfl (by decide) (leB rfl) (hb hby at_210) (by decide) (by decide) (fun T h235 v X hQ => ?_)
          obtain ⟨rfl, hh⟩ := hQ
          rw [hh] at X
          clear hh
          show Goes _ _ _ _ _ _ _ _ T (mkF m 213 #[.val (.int p0), .val (.int (1 : Int32)), .val (.int (0 : Int32)), .val (.int (1 : Int32)), .val (.int (1 : Int32)), .val (.ref b221), .val (.ref b225), .val (.ref b228), .val (.ref mu), .val (.int (1 : Int32)), .val (.ref b225), .val (.ref b225), .val (.ref a_WRITE)] [(.int (1 : Int32))])
          refine Goes.by (g' := (mkF m 214 #[.val (.int p0), .val (.int (1 : Int32)), .val (.int (0 : Int32)), .val (.int (1 : Int32)), .val (.int (1 : Int32)), .val (.ref b221), .val (.ref b225), .val (.ref b228), .val (.ref mu), .val (.int (1 : Int32)), .val (.ref b225), .val (.ref b225), .val (.ref a_WRITE)] [(.int (1 : Int32)), (.int (1 : Int32))])) (fun _ q => XS.iloadN X.here X.hx rfl (hb hby at_213) rfl q) ?_
          refine Goes.by (g' := (mkF m 217 #[.val (.int p0), .val (.int (1 : Int32)), .val (.int (0 : Int32)), .val (.int (1 : Int32)), .val (.int (1 : Int32)), .val (.ref b221), .val (.ref b225), .val (.ref b228), .val (.ref mu), .val (.int (1 : Int32)), .val (.ref b225), .val (.ref b225), .val (.ref a_WRITE)] [])) (fun _ q => XS.icmpNo X.here X.hx rfl (hb hby at_214) rfl (teq (show (1 : Int32) = (1 : Int32) from (by decide))).2 q) ?_
          refine Goes.by (g' := (mkF m 219 #[.val (.int p0), .val (.int (1 : Int32)), .val (.int (0 : Int32)), .val (.int (1 : Int32)), .val (.int (1 : Int32)), .val (.ref b221), .val (.ref b225), .val (.ref b228), .val (.ref mu), .val (.int (1 : Int32)), .val (.ref b225), .val (.ref b225), .val (.ref a_WRITE)] [(.ref b221)])) (fun _ q => XS.aload X.here X.hx rfl (hb hby at_217) rfl rfl q) ?_
          have X_o := X
          refine X.callV E_b221 (hw _ (List.mem_of_getElem? (i := 131) rfl)) (hw _ (List.mem_of_getElem? (i := 132) rfl)) (hw _ (List.mem_of_getElem? (i := 134) rfl)) (hw _ (List.mem_of_getElem? (i := 103) rfl)) rfl (hw _ (List.mem_of_getElem? (i := 133) rfl)) (hw _ (List.mem_of_getElem? (i := 2) rfl)) (hw _ (List.mem_of_getElem? (i := 135) rfl)) (by decide) pd_2323304547 (argsL := []) rfl (rm_getDurability l Z a0 hw n0 h233 X.n0le b221 a_WRITE  F_b221_durability) (by rw [hml]; rfl) rfl (by decide) (leB rfl) (hb hby at_219) (by decide) (by decide) (fun T h236 v X hQ => ?_)
          obtain ⟨rfl, hh⟩ := hQ
          rw [hh] at X
          clear hh
          show Goes _ _ _ _ _ _ _ _ T (mkF m 222 #[.val (.int p0), .val (.int (1 : Int32)), .val (.int (0 : Int32)), .val (.int (1 : Int32)), .val (.int (1 : Int32)), .val (.ref b221), .val (.ref b225), .val (.ref b228), .val (.ref mu), .val (.int (1 : Int32)), .val (.ref b225), .val (.ref b225), .val (.ref a_WRITE)] [(.ref a_WRITE)])
          refine Goes.by (g' := (mkF m 224 #[.val (.int p0), .val (.int (1 : Int32)), .val (.int (0 : Int32)), .val (.int (1 : Int32)), .val (.int (1 : Int32)), .val (.ref b221), .val (.ref b225), .val (.ref b228), .val (.ref mu), .val (.int (1 : Int32)), .val (.ref b225), .val (.ref b225), .val (.ref a_WRITE)] [(.ref a_WRITE), (.ref a_WRITE)])) (fun _ q => XS.aload X.here X.hx rfl (hb hby at_222) rfl rfl q) ?_
          refine X.acmp rfl rfl (cd := .ne) (x := (.ref a_WRITE)) (y := (.ref a_WRITE)) (same := true) (pc' := 227) (hb hby at_224) (decide_eq_true rfl) (by decide) (by decide) ?_
          show Goes _ _ _ _ _ _ _ _ T (mkF m 227 #[.val (.int p0), .val (.int (1 : Int32)), .val (.int (0 : Int32)), .val (.int (1 : Int32)), .val (.int (1 : Int32)), .val (.ref b221), .val (.ref b225), .val (.ref b228), .val (.ref mu), .val (.int (1 : Int32)), .val (.ref b225), .val (.ref b225), .val (.ref a_WRITE)] [])
          refine Goes.by (g' := (mkF m 228 #[.val (.int p0), .val (.int (1 : Int32)), .val (.int (0 : Int32)), .val (.int (1 : Int32)), .val (.int (1 : Int32)), .val (.ref b221), .val (.ref b225), .val (.ref b228), .val (.ref mu), .val (.int (1 : Int32)), .val (.ref b225), .val (.ref b225), .val (.ref a_WRITE)] [(.int (1 : Int32))])) (fun _ q => XS.iconst X.here X.hx rfl (hb hby at_227) q) ?_
          refine Goes.by (g' := (mkF m 232 #[.val (.int p0), .val (.int (1 : Int32)), .val (.int (0 : Int32)), .val (.int (1 : Int32)), .val (.int (1 : Int32)), .val (.ref b221), .val (.ref b225), .val (.ref b228), .val (.ref mu), .val (.int (1 : Int32)), .val (.ref b225), .val (.ref b225), .val (.ref a_WRITE)] [(.int (1 : Int32))])) (fun _ q => XS.goto X.here X.hx rfl (pc0 := 228) (pc' := 232) rfl (hb hby at_228) (by decide) (by decide) q) ?_
          exact X.retZ hret (hb hby at_232) (by decide) (by decide) rfl
    · skip
      refine Goes.by (g' := (mkF m 18 #[.val (.int p0), .val (.int (1 : Int32)), .unset, .unset, .unset, .unset, .unset, .unset, .unset, .unset, .unset, .unset, .unset] [])) (fun _ q => XS.ifNo X.here X.hx rfl (hb hby at_15) rfl ((if0 _ _).trans (feq hB171).1) q) ?_
      refine Goes.by (g' := (mkF m 19 #[.val (.int p0), .val (.int (1 : Int32)), .unset, .unset, .unset, .unset, .unset, .unset, .unset, .unset, .unset, .unset, .unset] [(.int (1 : Int32))])) (fun _ q => XS.iconst X.here X.hx rfl (hb hby at_18) q) ?_
      refine Goes.by (g' := (mkF m 23 #[.val (.int p0), .val (.int (1 : Int32)), .unset, .unset, .unset, .unset, .unset, .unset, .unset, .unset, .unset, .unset, .unset] [(.int (1 : Int32))])) (fun _ q => XS.goto X.here X.hx rfl (pc0 := 19) (pc' := 23) rfl (hb hby at_19) (by decide) (by decide) q) ?_
      refine Goes.by (g' := (mkF m 24 #[.val (.int p0), .val (.int (1 : Int32)), .val (.int (1 : Int32)), .unset, .unset, .unset, .unset, .unset, .unset, .unset, .unset, .unset, .unset] [])) (fun _ q => XS.istoreN X.here X.hx rfl (hb hby at_23) rfl (l' := #[.val (.int p0), .val (.int (1 : Int32)), .val (.int (1 : Int32)), .unset, .unset, .unset, .unset, .unset, .unset, .unset, .unset, .unset, .unset]) rfl q) ?_
      refine Goes.by (g' := (mkF m 25 #[.val (.int p0), .val (.int (1 : Int32)), .val (.int (1 : Int32)), .unset, .unset, .unset, .unset, .unset, .unset, .unset, .unset, .unset, .unset] [(.int p0)])) (fun _ q => XS.iloadN X.here X.hx rfl (hb hby at_24) rfl q) ?_
      refine Goes.by (g' := (mkF m 26 #[.val (.int p0), .val (.int (1 : Int32)), .val (.int (1 : Int32)), .unset, .unset, .unset, .unset, .unset, .unset, .unset, .unset, .unset, .unset] [(.int (4 : Int32)), (.int p0)])) (fun _ q => XS.iconst X.here X.hx rfl (hb hby at_25) q) ?_
      refine Goes.by (g' := (mkF m 27 #[.val (.int p0), .val (.int (1 : Int32)), .val (.int (1 : Int32)), .unset, .unset, .unset, .unset, .unset, .unset, .unset, .unset, .unset, .unset] [(.int (p0 &&& (4 : Int32)))])) (fun _ q => XS.iand X.here X.hx rfl (hb hby at_26) rfl q) ?_
      by_cases hB237 : (p0 &&& (4 : Int32)) = (0 : Int32)
      · skip
        refine Goes.by (g' := (mkF m 34 #[.val (.int p0), .val (.int (1 : Int32)), .val (.int (1 : Int32)), .unset, .unset, .unset, .unset, .unset, .unset, .unset, .unset, .unset, .unset] [])) (fun _ q => XS.ifYes X.here X.hx rfl (pc0 := 27) (pc' := 34) rfl (hb hby at_27) rfl ((if0 _ _).trans (teq hB237).1) (by decide) (by decide) q) ?_
        refine Goes.by (g' := (mkF m 35 #[.val (.int p0), .val (.int (1 : Int32)), .val (.int (1 : Int32)), .unset, .unset, .unset, .unset, .unset, .unset, .unset, .unset, .unset, .unset] [(.int (0 : Int32))])) (fun _ q => XS.iconst X.here X.hx rfl (hb hby at_34) q) ?_
        refine Goes.by (g' := (mkF m 36 #[.val (.int p0), .val (.int (1 : Int32)), .val (.int (1 : Int32)), .val (.int (0 : Int32)), .unset, .unset, .unset, .unset, .unset, .unset, .unset, .unset, .unset] [])) (fun _ q => XS.istoreN X.here X.hx rfl (hb hby at_35) rfl (l' := #[.val (.int p0), .val (.int (1 : Int32)), .val (.int (1 : Int32)), .val (.int (0 : Int32)), .unset, .unset, .unset, .unset, .unset, .unset, .unset, .unset, .unset]) rfl q) ?_
        refine Goes.by (g' := (mkF m 37 #[.val (.int p0), .val (.int (1 : Int32)), .val (.int (1 : Int32)), .val (.int (0 : Int32)), .unset, .unset, .unset, .unset, .unset, .unset, .unset, .unset, .unset] [(.int p0)])) (fun _ q => XS.iloadN X.here X.hx rfl (hb hby at_36) rfl q) ?_
        refine Goes.by (g' := (mkF m 39 #[.val (.int p0), .val (.int (1 : Int32)), .val (.int (1 : Int32)), .val (.int (0 : Int32)), .unset, .unset, .unset, .unset, .unset, .unset, .unset, .unset, .unset] [(.int (8 : Int32)), (.int p0)])) (fun _ q => XS.bipush X.here X.hx rfl (hb hby at_37) q) ?_
        refine Goes.by (g' := (mkF m 40 #[.val (.int p0), .val (.int (1 : Int32)), .val (.int (1 : Int32)), .val (.int (0 : Int32)), .unset, .unset, .unset, .unset, .unset, .unset, .unset, .unset, .unset] [(.int (p0 &&& (8 : Int32)))])) (fun _ q => XS.iand X.here X.hx rfl (hb hby at_39) rfl q) ?_
        by_cases hB238 : (p0 &&& (8 : Int32)) = (0 : Int32)
        · skip
          refine Goes.by (g' := (mkF m 47 #[.val (.int p0), .val (.int (1 : Int32)), .val (.int (1 : Int32)), .val (.int (0 : Int32)), .unset, .unset, .unset, .unset, .unset, .unset, .unset, .unset, .unset] [])) (fun _ q => XS.ifYes X.here X.hx rfl (pc0 := 40) (pc' := 47) rfl (hb hby at_40) rfl ((if0 _ _).trans (teq hB238).1) (by decide) (by decide) q) ?_
          refine Goes.by (g' := (mkF m 48 #[.val (.int p0), .val (.int (1 : Int32)), .val (.int (1 : Int32)), .val (.int (0 : Int32)), .unset, .unset, .unset, .unset, .unset, .unset, .unset, .unset, .unset] [(.int (0 : Int32))])) (fun _ q => XS.iconst X.here X.hx rfl (hb hby at_47) q) ?_
          refine Goes.by (g' := (mkF m 50 #[.val (.int p0), .val (.int (1 : Int32)), .val (.int (1 : Int32)), .val (.int (0 : Int32)), .val (.int (0 : Int32)), .unset, .unset, .unset, .unset, .unset, .unset, .unset, .unset] [])) (fun _ q => XS.istore X.here X.hx rfl (hb hby at_48) rfl (l' := #[.val (.int p0), .val (.int (1 : Int32)), .val (.int (1 : Int32)), .val (.int (0 : Int32)), .val (.int (0 : Int32)), .unset, .unset, .unset, .unset, .unset, .unset, .unset, .unset]) rfl q) ?_
          refine X.newO (hw _ (List.mem_of_getElem? (i := 0) rfl)) (hw _ (List.mem_of_getElem? (i := 1) rfl)) (hw _ (List.mem_of_getElem? (i := 2) rfl)) (hb hby at_50) (by decide) (by decide) (fun T h240 b239 X g_b239 ga_b239 E E_b239 D_b239 => ?_)
          have O_ := O_.ext E
          have F_b239_mutations : Fld Z h240 b239 "com/example/hafiza/hafiza/StoreConfig" "mutations" "Lcom/example/hafiza/hafiza/Mutations;" .null := D_b239 (Or.inl (hw _ (List.mem_of_getElem? (i := 92) rfl))) (ty := (.object "com/example/hafiza/hafiza/Mutations")) (by decide)
          have F_b239_durability : Fld Z h240 b239 "com/example/hafiza/hafiza/StoreConfig" "durability" "Lcom/example/hafiza/hafiza/Durability;" .null := D_b239 (Or.inl (hw _ (List.mem_of_getElem? (i := 97) rfl))) (ty := (.object "com/example/hafiza/hafiza/Durability")) (by decide)
          have F_b239_allowCreate : Fld Z h240 b239 "com/example/hafiza/hafiza/StoreConfig" "allowCreate" "Z" (.int (0 : Int32)) := D_b239 (Or.inl (hw _ (List.mem_of_getElem? (i := 130) rfl))) (ty := .boolean) (by decide)
          show Goes _ _ _ _ _ _ _ _ T (mkF m 53 #[.val (.int p0), .val (.int (1 : Int32)), .val (.int (1 : Int32)), .val (.int (0 : Int32)), .val (.int (0 : Int32)), .unset, .unset, .unset, .unset, .unset, .unset, .unset, .unset] [(.ref b239)])
          refine Goes.by (g' := (mkF m 54 #[.val (.int p0), .val (.int (1 : Int32)), .val (.int (1 : Int32)), .val (.int (0 : Int32)), .val (.int (0 : Int32)), .unset, .unset, .unset, .unset, .unset, .unset, .unset, .unset] [(.ref b239), (.ref b239)])) (fun _ q => XS.dup X.here X.hx rfl (hb hby at_53) rfl rfl q) ?_
          have X_o := X
          refine X.callN rfl (hw _ (List.mem_of_getElem? (i := 3) rfl)) (hw _ (List.mem_of_getElem? (i := 4) rfl)) (hw _ (List.mem_of_getElem? (i := 2) rfl)) (hw _ (List.mem_of_getElem? (i := 5) rfl)) (by decide) pd_193421996 (argsL := []) rfl (rmSC l Z a0 hw n0 h240 X.n0le b239 ga_b239 E_b239 F_b239_mutations F_b239_durability F_b239_allowCreate a_WRITE S_WRITE O_) (by rw [hml]; rfl) rfl (by decide) (leB rfl) (hb hby at_54) (by decide) (by decide) (fun T h241 v X hQ => ?_)
          obtain ⟨rfl, K, mu, gz, E_mu, F_b239_mutations, F_b239_durability, F_b239_allowCreate⟩ := hQ
          have ga_mu : n0 ≤ mu := Nat.le_trans X_o.n0le gz
          have ne_b239_mu : b239 ≠ mu := Nat.ne_of_lt (Nat.lt_of_lt_of_le E_b239.lt gz)
          have O_ := O_.keep K (allS ga_b239 all0)
          have E_b239 := E_b239.keep K
          show Goes _ _ _ _ _ _ _ _ T (mkF m 57 #[.val (.int p0), .val (.int (1 : Int32)), .val (.int (1 : Int32)), .val (.int (0 : Int32)), .val (.int (0 : Int32)), .unset, .unset, .unset, .unset, .unset, .unset, .unset, .unset] [(.ref b239)])
          refine Goes.by (g' := (mkF m 59 #[.val (.int p0), .val (.int (1 : Int32)), .val (.int (1 : Int32)), .val (.int (0 : Int32)), .val (.int (0 : Int32)), .val (.ref b239), .unset, .unset, .unset, .unset, .unset, .unset, .unset] [])) (fun _ q => XS.astore X.here X.hx rfl (hb hby at_57) rfl rfl (l' := #[.val (.int p0), .val (.int (1 : Int32)), .val (.int (1 : Int32)), .val (.int (0 : Int32)), .val (.int (0 : Int32)), .val (.ref b239), .unset, .unset, .unset, .unset, .unset, .unset, .unset]) rfl q) ?_
          refine Goes.by (g' := (mkF m 60 #[.val (.int p0), .val (.int (1 : Int32)), .val (.int (1 : Int32)), .val (.int (0 : Int32)), .val (.int (0 : Int32)), .val (.ref b239), .unset, .unset, .unset, .unset, .unset, .unset, .unset] [(.int (1 : Int32))])) (fun _ q => XS.iloadN X.here X.hx rfl (hb hby at_59) rfl q) ?_
          refine Goes.by (g' := (mkF m 63 #[.val (.int p0), .val (.int (1 : Int32)), .val (.int (1 : Int32)), .val (.int (0 : Int32)), .val (.int (0 : Int32)), .val (.ref b239), .unset, .unset, .unset, .unset, .unset, .unset, .unset] [])) (fun _ q => XS.ifNo X.here X.hx rfl (hb hby at_60) rfl ((if0 _ _).trans (feq (show ¬ (1 : Int32) = (0 : Int32) from (by decide))).1) q) ?_
          refine Goes.by (g' := (mkF m 65 #[.val (.int p0), .val (.int (1 : Int32)), .val (.int (1 : Int32)), .val (.int (0 : Int32)), .val (.int (0 : Int32)), .val (.ref b239), .unset, .unset, .unset, .unset, .unset, .unset, .unset] [(.ref b239)])) (fun _ q => XS.aload X.here X.hx rfl (hb hby at_63) rfl rfl q) ?_
          refine Goes.by (g' := (mkF m 66 #[.val (.int p0), .val (.int (1 : Int32)), .val (.int (1 : Int32)), .val (.int (0 : Int32)), .val (.int (0 : Int32)), .val (.ref b239), .unset, .unset, .unset, .unset, .unset, .unset, .unset] [(.int (1 : Int32)), (.ref b239)])) (fun _ q => XS.iconst X.here X.hx rfl (hb hby at_65) q) ?_
          have X_o := X
          refine X.callV E_b239 (hw _ (List.mem_of_getElem? (i := 136) rfl)) (hw _ (List.mem_of_getElem? (i := 137) rfl)) (hw _ (List.mem_of_getElem? (i := 139) rfl)) (hw _ (List.mem_of_getElem? (i := 103) rfl)) rfl (hw _ (List.mem_of_getElem? (i := 138) rfl)) (hw _ (List.mem_of_getElem? (i := 2) rfl)) (hw _ (List.mem_of_getElem? (i := 140) rfl)) (by decide) pd_2088010534 (argsL := [(.int (1 : Int32))]) rfl (rm_setAllowCreate l Z a0 hw n0 h241 X.n0le b239  (.int (0 : Int32)) ga_b239 E_b239  F_b239_allowCreate (.ref mu) F_b239_mutations (.ref a_WRITE) F_b239_durability) (by rw [hml]; rfl) rfl (by decide) (leB rfl) (hb hby at_66) (by decide) (by decide) (fun T h242 v X hQ => ?_)
          obtain ⟨rfl, K, F_b239_allowCreate, F_b239_mutations, F_b239_durability⟩ := hQ
          have O_ := O_.keep K (allS ga_b239 all0)
          have E_b239 := E_b239.keep K
          have E_mu := E_mu.keep K
          show Goes _ _ _ _ _ _ _ _ T (mkF m 69 #[.val (.int p0), .val (.int (1 : Int32)), .val (.int (1 : Int32)), .val (.int (0 : Int32)), .val (.int (0 : Int32)), .val (.ref b239), .unset, .unset, .unset, .unset, .unset, .unset, .unset] [])
          refine Goes.by (g' := (mkF m 70 #[.val (.int p0), .val (.int (1 : Int32)), .val (.int (1 : Int32)), .val (.int (0 : Int32)), .val (.int (0 : Int32)), .val (.ref b239), .unset, .unset, .unset, .unset, .unset, .unset, .unset] [(.int (1 : Int32))])) (fun _ q => XS.iloadN X.here X.hx rfl (hb hby at_69) rfl q) ?_
          refine Goes.by (g' := (mkF m 73 #[.val (.int p0), .val (.int (1 : Int32)), .val (.int (1 : Int32)), .val (.int (0 : Int32)), .val (.int (0 : Int32)), .val (.ref b239), .unset, .unset, .unset, .unset, .unset, .unset, .unset] [])) (fun _ q => XS.ifNo X.here X.hx rfl (hb hby at_70) rfl ((if0 _ _).trans (feq (show ¬ (1 : Int32) = (0 : Int32) from (by decide))).1) q) ?_
          refine Goes.by (g' := (mkF m 75 #[.val (.int p0), .val (.int (1 : Int32)), .val (.int (1 : Int32)), .val (.int (0 : Int32)), .val (.int (0 : Int32)), .val (.ref b239), .unset, .unset, .unset, .unset, .unset, .unset, .unset] [(.ref b239)])) (fun _ q => XS.aload X.here X.hx rfl (hb hby at_73) rfl rfl q) ?_
          refine X.getS (Or.inl (hw _ (List.mem_of_getElem? (i := 141) rfl))) (host := "") Via.refl (S_FORCE.ext O_.2) (hb hby at_75) (fun T X => ?_)
          show Goes _ _ _ _ _ _ _ _ T (mkF m 78 #[.val (.int p0), .val (.int (1 : Int32)), .val (.int (1 : Int32)), .val (.int (0 : Int32)), .val (.int (0 : Int32)), .val (.ref b239), .unset, .unset, .unset, .unset, .unset, .unset, .unset] [(.ref a_FORCE), (.ref b239)])
          have X_o := X
          refine X.callV E_b239 (hw _ (List.mem_of_getElem? (i := 143) rfl)) (hw _ (List.mem_of_getElem? (i := 144) rfl)) (hw _ (List.mem_of_getElem? (i := 146) rfl)) (hw _ (List.mem_of_getElem? (i := 103) rfl)) rfl (hw _ (List.mem_of_getElem? (i := 145) rfl)) (hw _ (List.mem_of_getElem? (i := 2) rfl)) (hw _ (List.mem_of_getElem? (i := 147) rfl)) (by decide) pd_2427134969 (argsL := [(.ref a_FORCE)]) rfl (rm_setDurability l Z a0 hw n0 h242 X.n0le b239 a_FORCE (.ref a_WRITE) ga_b239 E_b239 (E_FORCE.ext O_.2) F_b239_durability (.ref mu) F_b239_mutations (.int (1 : Int32)) F_b239_allowCreate) (by rw [hml]; rfl) rfl (by decide) (leB rfl) (hb hby at_78) (by decide) (by decide) (fun T h243 v X hQ => ?_)
          obtain ⟨rfl, K, F_b239_durability, F_b239_mutations, F_b239_allowCreate⟩ := hQ
          have O_ := O_.keep K (allS ga_b239 all0)
          have E_b239 := E_b239.keep K
          have E_mu := E_mu.keep K
          show Goes _ _ _ _ _ _ _ _ T (mkF m 81 #[.val (.int p0), .val (.int (1 : Int32)), .val (.int (1 : Int32)), .val (.int (0 : Int32)), .val (.int (0 : Int32)), .val (.ref b239), .unset, .unset, .unset, .unset, .unset, .unset, .unset] [])
          refine X.newO (hw _ (List.mem_of_getElem? (i := 98) rfl)) (hw _ (List.mem_of_getElem? (i := 10) rfl)) (hw _ (List.mem_of_getElem? (i := 11) rfl)) (hb hby at_81) (by decide) (by decide) (fun T h245 b244 X g_b244 ga_b244 E E_b244 D_b244 => ?_)
          have ne_b239_b244 : b239 ≠ b244 := by rw [g_b244]; exact Nat.ne_of_lt E_b239.lt
          have ne_mu_b244 : mu ≠ b244 := by rw [g_b244]; exact Nat.ne_of_lt E_mu.lt
          have O_ := O_.ext E
          have E_b239 := E_b239.ext E
          have E_mu := E_mu.ext E
          have F_b239_durability := F_b239_durability.ext E
          have F_b239_mutations := F_b239_mutations.ext E
          have F_b239_allowCreate := F_b239_allowCreate.ext E
          have F_b244_renamers : Fld Z h245 b244 "com/example/hafiza/hafiza/Mutations" "renamers" "Ljava/util/Set;" .null := D_b244 (Or.inr (hw _ (List.mem_of_getElem? (i := 86) rfl))) (ty := (.object "java/util/Set")) (by decide)
          have F_b244_deleters : Fld Z h245 b244 "com/example/hafiza/hafiza/Mutations" "deleters" "Ljava/util/Set;" .null := D_b244 (Or.inr (hw _ (List.mem_of_getElem? (i := 88) rfl))) (ty := (.object "java/util/Set")) (by decide)
          have F_b244_converters : Fld Z h245 b244 "com/example/hafiza/hafiza/Mutations" "converters" "Ljava/util/Set;" .null := D_b244 (Or.inr (hw _ (List.mem_of_getElem? (i := 90) rfl))) (ty := (.object "java/util/Set")) (by decide)
          show Goes _ _ _ _ _ _ _ _ T (mkF m 84 #[.val (.int p0), .val (.int (1 : Int32)), .val (.int (1 : Int32)), .val (.int (0 : Int32)), .val (.int (0 : Int32)), .val (.ref b239), .unset, .unset, .unset, .unset, .unset, .unset, .unset] [(.ref b244)])
          refine Goes.by (g' := (mkF m 85 #[.val (.int p0), .val (.int (1 : Int32)), .val (.int (1 : Int32)), .val (.int (0 : Int32)), .val (.int (0 : Int32)), .val (.ref b239), .unset, .unset, .unset, .unset, .unset, .unset, .unset] [(.ref b244), (.ref b244)])) (fun _ q => XS.dup X.here X.hx rfl (hb hby at_84) rfl rfl q) ?_
          have X_o := X
          refine X.callN rfl (hw _ (List.mem_of_getElem? (i := 99) rfl)) (hw _ (List.mem_of_getElem? (i := 13) rfl)) (hw _ (List.mem_of_getElem? (i := 11) rfl)) (hw _ (List.mem_of_getElem? (i := 14) rfl)) (by decide) pd_193421996 (argsL := []) rfl (rmMU l Z a0 hw n0 h245 X.n0le b244 ga_b244 E_b244 F_b244_renamers F_b244_deleters F_b244_converters) (by rw [hml]; rfl) rfl (by decide) (leB rfl) (hb hby at_85) (by decide) (by decide) (fun T h246 v X hQ => ?_)
          obtain ⟨rfl, K⟩ := hQ
          have O_ := O_.keep K (allS ga_b244 all0)
          have E_b239 := E_b239.keep K
          have E_mu := E_mu.keep K
          have F_b239_durability := F_b239_durability.keep K (ninS ne_b239_b244 nin0)
          have F_b239_mutations := F_b239_mutations.keep K (ninS ne_b239_b244 nin0)
          have F_b239_allowCreate := F_b239_allowCreate.keep K (ninS ne_b239_b244 nin0)
          have E_b244 := E_b244.keep K
          show Goes _ _ _ _ _ _ _ _ T (mkF m 88 #[.val (.int p0), .val (.int (1 : Int32)), .val (.int (1 : Int32)), .val (.int (0 : Int32)), .val (.int (0 : Int32)), .val (.ref b239), .unset, .unset, .unset, .unset, .unset, .unset, .unset] [(.ref b244)])
          refine Goes.by (g' := (mkF m 90 #[.val (.int p0), .val (.int (1 : Int32)), .val (.int (1 : Int32)), .val (.int (0 : Int32)), .val (.int (0 : Int32)), .val (.ref b239), .val (.ref b244), .unset, .unset, .unset, .unset, .unset, .unset] [])) (fun _ q => XS.astore X.here X.hx rfl (hb hby at_88) rfl rfl (l' := #[.val (.int p0), .val (.int (1 : Int32)), .val (.int (1 : Int32)), .val (.int (0 : Int32)), .val (.int (0 : Int32)), .val (.ref b239), .val (.ref b244), .unset, .unset, .unset, .unset, .unset, .unset]) rfl q) ?_
          refine X.newO (hw _ (List.mem_of_getElem? (i := 98) rfl)) (hw _ (List.mem_of_getElem? (i := 10) rfl)) (hw _ (List.mem_of_getElem? (i := 11) rfl)) (hb hby at_90) (by decide) (by decide) (fun T h248 b247 X g_b247 ga_b247 E E_b247 D_b247 => ?_)
          have ne_b239_b247 : b239 ≠ b247 := by rw [g_b247]; exact Nat.ne_of_lt E_b239.lt
          have ne_mu_b247 : mu ≠ b247 := by rw [g_b247]; exact Nat.ne_of_lt E_mu.lt
          have ne_b244_b247 : b244 ≠ b247 := by rw [g_b247]; exact Nat.ne_of_lt E_b244.lt
          have O_ := O_.ext E
          have E_b239 := E_b239.ext E
          have E_mu := E_mu.ext E
          have F_b239_durability := F_b239_durability.ext E
          have F_b239_mutations := F_b239_mutations.ext E
          have F_b239_allowCreate := F_b239_allowCreate.ext E
          have E_b244 := E_b244.ext E
          have F_b247_renamers : Fld Z h248 b247 "com/example/hafiza/hafiza/Mutations" "renamers" "Ljava/util/Set;" .null := D_b247 (Or.inr (hw _ (List.mem_of_getElem? (i := 86) rfl))) (ty := (.object "java/util/Set")) (by decide)
          have F_b247_deleters : Fld Z h248 b247 "com/example/hafiza/hafiza/Mutations" "deleters" "Ljava/util/Set;" .null := D_b247 (Or.inr (hw _ (List.mem_of_getElem? (i := 88) rfl))) (ty := (.object "java/util/Set")) (by decide)
          have F_b247_converters : Fld Z h248 b247 "com/example/hafiza/hafiza/Mutations" "converters" "Ljava/util/Set;" .null := D_b247 (Or.inr (hw _ (List.mem_of_getElem? (i := 90) rfl))) (ty := (.object "java/util/Set")) (by decide)
          show Goes _ _ _ _ _ _ _ _ T (mkF m 93 #[.val (.int p0), .val (.int (1 : Int32)), .val (.int (1 : Int32)), .val (.int (0 : Int32)), .val (.int (0 : Int32)), .val (.ref b239), .val (.ref b244), .unset, .unset, .unset, .unset, .unset, .unset] [(.ref b247)])
          refine Goes.by (g' := (mkF m 94 #[.val (.int p0), .val (.int (1 : Int32)), .val (.int (1 : Int32)), .val (.int (0 : Int32)), .val (.int (0 : Int32)), .val (.ref b239), .val (.ref b244), .unset, .unset, .unset, .unset, .unset, .unset] [(.ref b247), (.ref b247)])) (fun _ q => XS.dup X.here X.hx rfl (hb hby at_93) rfl rfl q) ?_
          have X_o := X
          refine X.callN rfl (hw _ (List.mem_of_getElem? (i := 99) rfl)) (hw _ (List.mem_of_getElem? (i := 13) rfl)) (hw _ (List.mem_of_getElem? (i := 11) rfl)) (hw _ (List.mem_of_getElem? (i := 14) rfl)) (by decide) pd_193421996 (argsL := []) rfl (rmMU l Z a0 hw n0 h248 X.n0le b247 ga_b247 E_b247 F_b247_renamers F_b247_deleters F_b247_converters) (by rw [hml]; rfl) rfl (by decide) (leB rfl) (hb hby at_94) (by decide) (by decide) (fun T h249 v X hQ => ?_)
          obtain ⟨rfl, K⟩ := hQ
          have O_ := O_.keep K (allS ga_b247 all0)
          have E_b239 := E_b239.keep K
          have E_mu := E_mu.keep K
          have F_b239_durability := F_b239_durability.keep K (ninS ne_b239_b247 nin0)
          have F_b239_mutations := F_b239_mutations.keep K (ninS ne_b239_b247 nin0)
          have F_b239_allowCreate := F_b239_allowCreate.keep K (ninS ne_b239_b247 nin0)
          have E_b244 := E_b244.keep K
          have E_b247 := E_b247.keep K
          show Goes _ _ _ _ _ _ _ _ T (mkF m 97 #[.val (.int p0), .val (.int (1 : Int32)), .val (.int (1 : Int32)), .val (.int (0 : Int32)), .val (.int (0 : Int32)), .val (.ref b239), .val (.ref b244), .unset, .unset, .unset, .unset, .unset, .unset] [(.ref b247)])
          refine Goes.by (g' := (mkF m 99 #[.val (.int p0), .val (.int (1 : Int32)), .val (.int (1 : Int32)), .val (.int (0 : Int32)), .val (.int (0 : Int32)), .val (.ref b239), .val (.ref b244), .val (.ref b247), .unset, .unset, .unset, .unset, .unset] [])) (fun _ q => XS.astore X.here X.hx rfl (hb hby at_97) rfl rfl (l' := #[.val (.int p0), .val (.int (1 : Int32)), .val (.int (1 : Int32)), .val (.int (0 : Int32)), .val (.int (0 : Int32)), .val (.ref b239), .val (.ref b244), .val (.ref b247), .unset, .unset, .unset, .unset, .unset]) rfl q) ?_
          refine Goes.by (g' := (mkF m 101 #[.val (.int p0), .val (.int (1 : Int32)), .val (.int (1 : Int32)), .val (.int (0 : Int32)), .val (.int (0 : Int32)), .val (.ref b239), .val (.ref b244), .val (.ref b247), .unset, .unset, .unset, .unset, .unset] [(.ref b239)])) (fun _ q => XS.aload X.here X.hx rfl (hb hby at_99) rfl rfl q) ?_
          have X_o := X
          refine X.callV E_b239 (hw _ (List.mem_of_getElem? (i := 100) rfl)) (hw _ (List.mem_of_getElem? (i := 101) rfl)) (hw _ (List.mem_of_getElem? (i := 103) rfl)) (hw _ (List.mem_of_getElem? (i := 103) rfl)) rfl (hw _ (List.mem_of_getElem? (i := 102) rfl)) (hw _ (List.mem_of_getElem? (i := 2) rfl)) (hw _ (List.mem_of_getElem? (i := 104) rfl)) (by decide) pd_2544813166 (argsL := []) rfl (rm_getMutations l Z a0 hw n0 h249 X.n0le b239 mu  F_b239_mutations) (by rw [hml]; rfl) rfl (by decide) (leB rfl) (hb hby at_101) (by decide) (by decide) (fun T h250 v X hQ => ?_)
          obtain ⟨rfl, hh⟩ := hQ
          rw [hh] at X
          clear hh
          show Goes _ _ _ _ _ _ _ _ T (mkF m 104 #[.val (.int p0), .val (.int (1 : Int32)), .val (.int (1 : Int32)), .val (.int (0 : Int32)), .val (.int (0 : Int32)), .val (.ref b239), .val (.ref b244), .val (.ref b247), .unset, .unset, .unset, .unset, .unset] [(.ref mu)])
          refine Goes.by (g' := (mkF m 106 #[.val (.int p0), .val (.int (1 : Int32)), .val (.int (1 : Int32)), .val (.int (0 : Int32)), .val (.int (0 : Int32)), .val (.ref b239), .val (.ref b244), .val (.ref b247), .val (.ref mu), .unset, .unset, .unset, .unset] [])) (fun _ q => XS.astore X.here X.hx rfl (hb hby at_104) rfl rfl (l' := #[.val (.int p0), .val (.int (1 : Int32)), .val (.int (1 : Int32)), .val (.int (0 : Int32)), .val (.int (0 : Int32)), .val (.ref b239), .val (.ref b244), .val (.ref b247), .val (.ref mu), .unset, .unset, .unset, .unset]) rfl q) ?_
          refine Goes.by (g' := (mkF m 108 #[.val (.int p0), .val (.int (1 : Int32)), .val (.int (1 : Int32)), .val (.int (0 : Int32)), .val (.int (0 : Int32)), .val (.ref b239), .val (.ref b244), .val (.ref b247), .val (.ref mu), .unset, .unset, .unset, .unset] [(.ref mu)])) (fun _ q => XS.aload X.here X.hx rfl (hb hby at_106) rfl rfl q) ?_
          refine Goes.by (g' := (mkF m 111 #[.val (.int p0), .val (.int (1 : Int32)), .val (.int (1 : Int32)), .val (.int (0 : Int32)), .val (.int (0 : Int32)), .val (.ref b239), .val (.ref b244), .val (.ref b247), .val (.ref mu), .unset, .unset, .unset, .unset] [])) (fun _ q => XS.ifnullNo X.here X.hx rfl (hb hby at_108) rfl q) ?_
          refine Goes.by (g' := (mkF m 113 #[.val (.int p0), .val (.int (1 : Int32)), .val (.int (1 : Int32)), .val (.int (0 : Int32)), .val (.int (0 : Int32)), .val (.ref b239), .val (.ref b244), .val (.ref b247), .val (.ref mu), .unset, .unset, .unset, .unset] [(.ref mu)])) (fun _ q => XS.aload X.here X.hx rfl (hb hby at_111) rfl rfl q) ?_
          refine Goes.by (g' := (mkF m 115 #[.val (.int p0), .val (.int (1 : Int32)), .val (.int (1 : Int32)), .val (.int (0 : Int32)), .val (.int (0 : Int32)), .val (.ref b239), .val (.ref b244), .val (.ref b247), .val (.ref mu), .unset, .unset, .unset, .unset] [(.ref b244), (.ref mu)])) (fun _ q => XS.aload X.here X.hx rfl (hb hby at_113) rfl rfl q) ?_
          refine X.acmp rfl rfl (cd := .eq) (x := (.ref mu)) (y := (.ref b244)) (same := false) (pc' := 118) (hb hby at_115) (decide_eq_false fun q => ne_mu_b244 (Value.ref.inj q)) (by decide) (by decide) ?_
          show Goes _ _ _ _ _ _ _ _ T (mkF m 118 #[.val (.int p0), .val (.int (1 : Int32)), .val (.int (1 : Int32)), .val (.int (0 : Int32)), .val (.int (0 : Int32)), .val (.ref b239), .val (.ref b244), .val (.ref b247), .val (.ref mu), .unset, .unset, .unset, .unset] [])
          refine Goes.by (g' := (mkF m 120 #[.val (.int p0), .val (.int (1 : Int32)), .val (.int (1 : Int32)), .val (.int (0 : Int32)), .val (.int (0 : Int32)), .val (.ref b239), .val (.ref b244), .val (.ref b247), .val (.ref mu), .unset, .unset, .unset, .unset] [(.ref mu)])) (fun _ q => XS.aload X.here X.hx rfl (hb hby at_118) rfl rfl q) ?_
          refine Goes.by (g' := (mkF m 122 #[.val (.int p0), .val (.int (1 : Int32)), .val (.int (1 : Int32)), .val (.int (0 : Int32)), .val (.int (0 : Int32)), .val (.ref b239), .val (.ref b244), .val (.ref b247), .val (.ref mu), .unset, .unset, .unset, .unset] [(.ref b247), (.ref mu)])) (fun _ q => XS.aload X.here X.hx rfl (hb hby at_120) rfl rfl q) ?_
          refine X.acmp rfl rfl (cd := .eq) (x := (.ref mu)) (y := (.ref b247)) (same := false) (pc' := 125) (hb hby at_122) (decide_eq_false fun q => ne_mu_b247 (Value.ref.inj q)) (by decide) (by decide) ?_
          show Goes _ _ _ _ _ _ _ _ T (mkF m 125 #[.val (.int p0), .val (.int (1 : Int32)), .val (.int (1 : Int32)), .val (.int (0 : Int32)), .val (.int (0 : Int32)), .val (.ref b239), .val (.ref b244), .val (.ref b247), .val (.ref mu), .unset, .unset, .unset, .unset] [])
          refine Goes.by (g' := (mkF m 126 #[.val (.int p0), .val (.int (1 : Int32)), .val (.int (1 : Int32)), .val (.int (0 : Int32)), .val (.int (0 : Int32)), .val (.ref b239), .val (.ref b244), .val (.ref b247), .val (.ref mu), .unset, .unset, .unset, .unset] [(.int (1 : Int32))])) (fun _ q => XS.iconst X.here X.hx rfl (hb hby at_125) q) ?_
          refine Goes.by (g' := (mkF m 130 #[.val (.int p0), .val (.int (1 : Int32)), .val (.int (1 : Int32)), .val (.int (0 : Int32)), .val (.int (0 : Int32)), .val (.ref b239), .val (.ref b244), .val (.ref b247), .val (.ref mu), .unset, .unset, .unset, .unset] [(.int (1 : Int32))])) (fun _ q => XS.goto X.here X.hx rfl (pc0 := 126) (pc' := 130) rfl (hb hby at_126) (by decide) (by decide) q) ?_
          refine Goes.by (g' := (mkF m 132 #[.val (.int p0), .val (.int (1 : Int32)), .val (.int (1 : Int32)), .val (.int (0 : Int32)), .val (.int (0 : Int32)), .val (.ref b239), .val (.ref b244), .val (.ref b247), .val (.ref mu), .val (.int (1 : Int32)), .unset, .unset, .unset] [])) (fun _ q => XS.istore X.here X.hx rfl (hb hby at_130) rfl (l' := #[.val (.int p0), .val (.int (1 : Int32)), .val (.int (1 : Int32)), .val (.int (0 : Int32)), .val (.int (0 : Int32)), .val (.ref b239), .val (.ref b244), .val (.ref b247), .val (.ref mu), .val (.int (1 : Int32)), .unset, .unset, .unset]) rfl q) ?_
          refine Goes.by (g' := (mkF m 133 #[.val (.int p0), .val (.int (1 : Int32)), .val (.int (1 : Int32)), .val (.int (0 : Int32)), .val (.int (0 : Int32)), .val (.ref b239), .val (.ref b244), .val (.ref b247), .val (.ref mu), .val (.int (1 : Int32)), .unset, .unset, .unset] [(.int (0 : Int32))])) (fun _ q => XS.iloadN X.here X.hx rfl (hb hby at_132) rfl q) ?_
          refine Goes.by (g' := (mkF m 153 #[.val (.int p0), .val (.int (1 : Int32)), .val (.int (1 : Int32)), .val (.int (0 : Int32)), .val (.int (0 : Int32)), .val (.ref b239), .val (.ref b244), .val (.ref b247), .val (.ref mu), .val (.int (1 : Int32)), .unset, .unset, .unset] [])) (fun _ q => XS.ifYes X.here X.hx rfl (pc0 := 133) (pc' := 153) rfl (hb hby at_133) rfl ((if0 _ _).trans (teq (show (0 : Int32) = (0 : Int32) from (by decide))).1) (by decide) (by decide) q) ?_
          refine Goes.by (g' := (mkF m 155 #[.val (.int p0), .val (.int (1 : Int32)), .val (.int (1 : Int32)), .val (.int (0 : Int32)), .val (.int (0 : Int32)), .val (.ref b239), .val (.ref b244), .val (.ref b247), .val (.ref mu), .val (.int (1 : Int32)), .unset, .unset, .unset] [(.int (0 : Int32))])) (fun _ q => XS.iload X.here X.hx rfl (hb hby at_153) rfl q) ?_
          refine Goes.by (g' := (mkF m 163 #[.val (.int p0), .val (.int (1 : Int32)), .val (.int (1 : Int32)), .val (.int (0 : Int32)), .val (.int (0 : Int32)), .val (.ref b239), .val (.ref b244), .val (.ref b247), .val (.ref mu), .val (.int (1 : Int32)), .unset, .unset, .unset] [])) (fun _ q => XS.ifYes X.here X.hx rfl (pc0 := 155) (pc' := 163) rfl (hb hby at_155) rfl ((if0 _ _).trans (teq (show (0 : Int32) = (0 : Int32) from (by decide))).1) (by decide) (by decide) q) ?_
          refine Goes.by (g' := (mkF m 165 #[.val (.int p0), .val (.int (1 : Int32)), .val (.int (1 : Int32)), .val (.int (0 : Int32)), .val (.int (0 : Int32)), .val (.ref b239), .val (.ref b244), .val (.ref b247), .val (.ref mu), .val (.int (1 : Int32)), .unset, .unset, .unset] [(.ref b247)])) (fun _ q => XS.aload X.here X.hx rfl (hb hby at_163) rfl rfl q) ?_
          refine Goes.by (g' := (mkF m 167 #[.val (.int p0), .val (.int (1 : Int32)), .val (.int (1 : Int32)), .val (.int (0 : Int32)), .val (.int (0 : Int32)), .val (.ref b239), .val (.ref b244), .val (.ref b247), .val (.ref mu), .val (.int (1 : Int32)), .val (.ref b247), .unset, .unset] [])) (fun _ q => XS.astore X.here X.hx rfl (hb hby at_165) rfl rfl (l' := #[.val (.int p0), .val (.int (1 : Int32)), .val (.int (1 : Int32)), .val (.int (0 : Int32)), .val (.int (0 : Int32)), .val (.ref b239), .val (.ref b244), .val (.ref b247), .val (.ref mu), .val (.int (1 : Int32)), .val (.ref b247), .unset, .unset]) rfl q) ?_
          refine Goes.by (g' := (mkF m 169 #[.val (.int p0), .val (.int (1 : Int32)), .val (.int (1 : Int32)), .val (.int (0 : Int32)), .val (.int (0 : Int32)), .val (.ref b239), .val (.ref b244), .val (.ref b247), .val (.ref mu), .val (.int (1 : Int32)), .val (.ref b247), .unset, .unset] [(.ref b239)])) (fun _ q => XS.aload X.here X.hx rfl (hb hby at_167) rfl rfl q) ?_
          refine Goes.by (g' := (mkF m 171 #[.val (.int p0), .val (.int (1 : Int32)), .val (.int (1 : Int32)), .val (.int (0 : Int32)), .val (.int (0 : Int32)), .val (.ref b239), .val (.ref b244), .val (.ref b247), .val (.ref mu), .val (.int (1 : Int32)), .val (.ref b247), .unset, .unset] [(.ref b247), (.ref b239)])) (fun _ q => XS.aload X.here X.hx rfl (hb hby at_169) rfl rfl q) ?_
          have X_o := X
          refine X.callV E_b239 (hw _ (List.mem_of_getElem? (i := 105) rfl)) (hw _ (List.mem_of_getElem? (i := 106) rfl)) (hw _ (List.mem_of_getElem? (i := 108) rfl)) (hw _ (List.mem_of_getElem? (i := 103) rfl)) rfl (hw _ (List.mem_of_getElem? (i := 107) rfl)) (hw _ (List.mem_of_getElem? (i := 2) rfl)) (hw _ (List.mem_of_getElem? (i := 109) rfl)) (by decide) pd_2932898788 (argsL := [(.ref b247)]) rfl (rm_setMutations l Z a0 hw n0 h249 X.n0le b239 b247 (.ref mu) ga_b239 E_b239 E_b247 F_b239_mutations (.ref a_FORCE) F_b239_durability (.int (1 : Int32)) F_b239_allowCreate) (by rw [hml]; rfl) rfl (by decide) (leB rfl) (hb hby at_171) (by decide) (by decide) (fun T h251 v X hQ => ?_)
          obtain ⟨rfl, K, F_b239_mutations, F_b239_durability, F_b239_allowCreate⟩ := hQ
          have O_ := O_.keep K (allS ga_b239 all0)
          have E_b239 := E_b239.keep K
          have E_mu := E_mu.keep K
          have E_b244 := E_b244.keep K
          have E_b247 := E_b247.keep K
          show Goes _ _ _ _ _ _ _ _ T (mkF m 174 #[.val (.int p0), .val (.int (1 : Int32)), .val (.int (1 : Int32)), .val (.int (0 : Int32)), .val (.int (0 : Int32)), .val (.ref b239), .val (.ref b244), .val (.ref b247), .val (.ref mu), .val (.int (1 : Int32)), .val (.ref b247), .unset, .unset] [])
          refine Goes.by (g' := (mkF m 176 #[.val (.int p0), .val (.int (1 : Int32)), .val (.int (1 : Int32)), .val (.int (0 : Int32)), .val (.int (0 : Int32)), .val (.ref b239), .val (.ref b244), .val (.ref b247), .val (.ref mu), .val (.int (1 : Int32)), .val (.ref b247), .unset, .unset] [(.ref b239)])) (fun _ q => XS.aload X.here X.hx rfl (hb hby at_174) rfl rfl q) ?_
          have X_o := X
          refine X.callV E_b239 (hw _ (List.mem_of_getElem? (i := 100) rfl)) (hw _ (List.mem_of_getElem? (i := 101) rfl)) (hw _ (List.mem_of_getElem? (i := 103) rfl)) (hw _ (List.mem_of_getElem? (i := 103) rfl)) rfl (hw _ (List.mem_of_getElem? (i := 102) rfl)) (hw _ (List.mem_of_getElem? (i := 2) rfl)) (hw _ (List.mem_of_getElem? (i := 104) rfl)) (by decide) pd_2544813166 (argsL := []) rfl (rm_getMutations l Z a0 hw n0 h251 X.n0le b239 b247  F_b239_mutations) (by rw [hml]; rfl) rfl (by decide) (leB rfl) (hb hby at_176) (by decide) (by decide) (fun T h252 v X hQ => ?_)
          obtain ⟨rfl, hh⟩ := hQ
          rw [hh] at X
          clear hh
          show Goes _ _ _ _ _ _ _ _ T (mkF m 179 #[.val (.int p0), .val (.int (1 : Int32)), .val (.int (1 : Int32)), .val (.int (0 : Int32)), .val (.int (0 : Int32)), .val (.ref b239), .val (.ref b244), .val (.ref b247), .val (.ref mu), .val (.int (1 : Int32)), .val (.ref b247), .unset, .unset] [(.ref b247)])
          refine Goes.by (g' := (mkF m 181 #[.val (.int p0), .val (.int (1 : Int32)), .val (.int (1 : Int32)), .val (.int (0 : Int32)), .val (.int (0 : Int32)), .val (.ref b239), .val (.ref b244), .val (.ref b247), .val (.ref mu), .val (.int (1 : Int32)), .val (.ref b247), .val (.ref b247), .unset] [])) (fun _ q => XS.astore X.here X.hx rfl (hb hby at_179) rfl rfl (l' := #[.val (.int p0), .val (.int (1 : Int32)), .val (.int (1 : Int32)), .val (.int (0 : Int32)), .val (.int (0 : Int32)), .val (.ref b239), .val (.ref b244), .val (.ref b247), .val (.ref mu), .val (.int (1 : Int32)), .val (.ref b247), .val (.ref b247), .unset]) rfl q) ?_
          refine Goes.by (g' := (mkF m 182 #[.val (.int p0), .val (.int (1 : Int32)), .val (.int (1 : Int32)), .val (.int (0 : Int32)), .val (.int (0 : Int32)), .val (.ref b239), .val (.ref b244), .val (.ref b247), .val (.ref mu), .val (.int (1 : Int32)), .val (.ref b247), .val (.ref b247), .unset] [(.int (1 : Int32))])) (fun _ q => XS.iloadN X.here X.hx rfl (hb hby at_181) rfl q) ?_
          refine Goes.by (g' := (mkF m 185 #[.val (.int p0), .val (.int (1 : Int32)), .val (.int (1 : Int32)), .val (.int (0 : Int32)), .val (.int (0 : Int32)), .val (.ref b239), .val (.ref b244), .val (.ref b247), .val (.ref mu), .val (.int (1 : Int32)), .val (.ref b247), .val (.ref b247), .unset] [])) (fun _ q => XS.ifNo X.here X.hx rfl (hb hby at_182) rfl ((if0 _ _).trans (feq (show ¬ (1 : Int32) = (0 : Int32) from (by decide))).1) q) ?_
          refine X.getS (Or.inl (hw _ (List.mem_of_getElem? (i := 141) rfl))) (host := "") Via.refl (S_FORCE.ext O_.2) (hb hby at_185) (fun T X => ?_)
          show Goes _ _ _ _ _ _ _ _ T (mkF m 188 #[.val (.int p0), .val (.int (1 : Int32)), .val (.int (1 : Int32)), .val (.int (0 : Int32)), .val (.int (0 : Int32)), .val (.ref b239), .val (.ref b244), .val (.ref b247), .val (.ref mu), .val (.int (1 : Int32)), .val (.ref b247), .val (.ref b247), .unset] [(.ref a_FORCE)])
          refine Goes.by (g' := (mkF m 194 #[.val (.int p0), .val (.int (1 : Int32)), .val (.int (1 : Int32)), .val (.int (0 : Int32)), .val (.int (0 : Int32)), .val (.ref b239), .val (.ref b244), .val (.ref b247), .val (.ref mu), .val (.int (1 : Int32)), .val (.ref b247), .val (.ref b247), .unset] [(.ref a_FORCE)])) (fun _ q => XS.goto X.here X.hx rfl (pc0 := 188) (pc' := 194) rfl (hb hby at_188) (by decide) (by decide) q) ?_
          refine Goes.by (g' := (mkF m 196 #[.val (.int p0), .val (.int (1 : Int32)), .val (.int (1 : Int32)), .val (.int (0 : Int32)), .val (.int (0 : Int32)), .val (.ref b239), .val (.ref b244), .val (.ref b247), .val (.ref mu), .val (.int (1 : Int32)), .val (.ref b247), .val (.ref b247), .val (.ref a_FORCE)] [])) (fun _ q => XS.astore X.here X.hx rfl (hb hby at_194) rfl rfl (l' := #[.val (.int p0), .val (.int (1 : Int32)), .val (.int (1 : Int32)), .val (.int (0 : Int32)), .val (.int (0 : Int32)), .val (.ref b239), .val (.ref b244), .val (.ref b247), .val (.ref mu), .val (.int (1 : Int32)), .val (.ref b247), .val (.ref b247), .val (.ref a_FORCE)]) rfl q) ?_
          refine Goes.by (g' := (mkF m 198 #[.val (.int p0), .val (.int (1 : Int32)), .val (.int (1 : Int32)), .val (.int (0 : Int32)), .val (.int (0 : Int32)), .val (.ref b239), .val (.ref b244), .val (.ref b247), .val (.ref mu), .val (.int (1 : Int32)), .val (.ref b247), .val (.ref b247), .val (.ref a_FORCE)] [(.int (1 : Int32))])) (fun _ q => XS.iload X.here X.hx rfl (hb hby at_196) rfl q) ?_
          refine Goes.by (g' := (mkF m 201 #[.val (.int p0), .val (.int (1 : Int32)), .val (.int (1 : Int32)), .val (.int (0 : Int32)), .val (.int (0 : Int32)), .val (.ref b239), .val (.ref b244), .val (.ref b247), .val (.ref mu), .val (.int (1 : Int32)), .val (.ref b247), .val (.ref b247), .val (.ref a_FORCE)] [])) (fun _ q => XS.ifNo X.here X.hx rfl (hb hby at_198) rfl ((if0 _ _).trans (feq (show ¬ (1 : Int32) = (0 : Int32) from (by decide))).1) q) ?_
          refine Goes.by (g' := (mkF m 203 #[.val (.int p0), .val (.int (1 : Int32)), .val (.int (1 : Int32)), .val (.int (0 : Int32)), .val (.int (0 : Int32)), .val (.ref b239), .val (.ref b244), .val (.ref b247), .val (.ref mu), .val (.int (1 : Int32)), .val (.ref b247), .val (.ref b247), .val (.ref a_FORCE)] [(.ref b247)])) (fun _ q => XS.aload X.here X.hx rfl (hb hby at_201) rfl rfl q) ?_
          refine Goes.by (g' := (mkF m 205 #[.val (.int p0), .val (.int (1 : Int32)), .val (.int (1 : Int32)), .val (.int (0 : Int32)), .val (.int (0 : Int32)), .val (.ref b239), .val (.ref b244), .val (.ref b247), .val (.ref mu), .val (.int (1 : Int32)), .val (.ref b247), .val (.ref b247), .val (.ref a_FORCE)] [(.ref b247), (.ref b247)])) (fun _ q => XS.aload X.here X.hx rfl (hb hby at_203) rfl rfl q) ?_
          refine X.acmp rfl rfl (cd := .ne) (x := (.ref b247)) (y := (.ref b247)) (same := true) (pc' := 208) (hb hby at_205) (decide_eq_true rfl) (by decide) (by decide) ?_
          show Goes _ _ _ _ _ _ _ _ T (mkF m 208 #[.val (.int p0), .val (.int (1 : Int32)), .val (.int (1 : Int32)), .val (.int (0 : Int32)), .val (.int (0 : Int32)), .val (.ref b239), .val (.ref b244), .val (.ref b247), .val (.ref mu), .val (.int (1 : Int32)), .val (.ref b247), .val (.ref b247), .val (.ref a_FORCE)] [])
          refine Goes.by (g' := (mkF m 210 #[.val (.int p0), .val (.int (1 : Int32)), .val (.int (1 : Int32)), .val (.int (0 : Int32)), .val (.int (0 : Int32)), .val (.ref b239), .val (.ref b244), .val (.ref b247), .val (.ref mu), .val (.int (1 : Int32)), .val (.ref b247), .val (.ref b247), .val (.ref a_FORCE)] [(.ref b239)])) (fun _ q => XS.aload X.here X.hx rfl (hb hby at_208) rfl rfl q) ?_
          have X_o := X
          refine X.callV E_b239 (hw _ (List.mem_of_getElem? (i := 124) rfl)) (hw _ (List.mem_of_getElem? (i := 125) rfl)) (hw _ (List.mem_of_getElem? (i := 127) rfl)) (hw _ (List.mem_of_getElem? (i := 103) rfl)) rfl (hw _ (List.mem_of_getElem? (i := 126) rfl)) (hw _ (List.mem_of_getElem? (i := 2) rfl)) (hw _ (List.mem_of_getElem? (i := 128) rfl)) (by decide) pd_193422000 (argsL := []) rfl (rm_getAllowCreate l Z a0 hw n0 h251 X.n0le b239 (1 : Int32) (by decide) F_b239_allowCreate) (by rw [hml]; rfl) rfl (by decide) (leB rfl) (hb hby at_210) (by decide) (by decide) (fun T h253 v X hQ => ?_)
          obtain ⟨rfl, hh⟩ := hQ
          rw [hh] at X
          clear hh
          show Goes _ _ _ _ _ _ _ _ T (mkF m 213 #[.val (.int p0), .val (.int (1 : Int32)), .val (.int (1 : Int32)), .val (.int (0 : Int32)), .val (.int (0 : Int32)), .val (.ref b239), .val (.ref b244), .val (.ref b247), .val (.ref mu), .val (.int (1 : Int32)), .val (.ref b247), .val (.ref b247), .val (.ref a_FORCE)] [(.int (1 : Int32))])
          refine Goes.by (g' := (mkF m 214 #[.val (.int p0), .val (.int (1 : Int32)), .val (.int (1 : Int32)), .val (.int (0 : Int32)), .val (.int (0 : Int32)), .val (.ref b239), .val (.ref b244), .val (.ref b247), .val (.ref mu), .val (.int (1 : Int32)), .val (.ref b247), .val (.ref b247), .val (.ref a_FORCE)] [(.int (1 : Int32)), (.int (1 : Int32))])) (fun _ q => XS.iloadN X.here X.hx rfl (hb hby at_213) rfl q) ?_
          refine Goes.by (g' := (mkF m 217 #[.val (.int p0), .val (.int (1 : Int32)), .val (.int (1 : Int32)), .val (.int (0 : Int32)), .val (.int (0 : Int32)), .val (.ref b239), .val (.ref b244), .val (.ref b247), .val (.ref mu), .val (.int (1 : Int32)), .val (.ref b247), .val (.ref b247), .val (.ref a_FORCE)] [])) (fun _ q => XS.icmpNo X.here X.hx rfl (hb hby at_214) rfl (teq (show (1 : Int32) = (1 : Int32) from (by decide))).2 q) ?_
          refine Goes.by (g' := (mkF m 219 #[.val (.int p0), .val (.int (1 : Int32)), .val (.int (1 : Int32)), .val (.int (0 : Int32)), .val (.int (0 : Int32)), .val (.ref b239), .val (.ref b244), .val (.ref b247), .val (.ref mu), .val (.int (1 : Int32)), .val (.ref b247), .val (.ref b247), .val (.ref a_FORCE)] [(.ref b239)])) (fun _ q => XS.aload X.here X.hx rfl (hb hby at_217) rfl rfl q) ?_
          have X_o := X
          refine X.callV E_b239 (hw _ (List.mem_of_getElem? (i := 131) rfl)) (hw _ (List.mem_of_getElem? (i := 132) rfl)) (hw _ (List.mem_of_getElem? (i := 134) rfl)) (hw _ (List.mem_of_getElem? (i := 103) rfl)) rfl (hw _ (List.mem_of_getElem? (i := 133) rfl)) (hw _ (List.mem_of_getElem? (i := 2) rfl)) (hw _ (List.mem_of_getElem? (i := 135) rfl)) (by decide) pd_2323304547 (argsL := []) rfl (rm_getDurability l Z a0 hw n0 h251 X.n0le b239 a_FORCE  F_b239_durability) (by rw [hml]; rfl) rfl (by decide) (leB rfl) (hb hby at_219) (by decide) (by decide) (fun T h254 v X hQ => ?_)
          obtain ⟨rfl, hh⟩ := hQ
          rw [hh] at X
          clear hh
          show Goes _ _ _ _ _ _ _ _ T (mkF m 222 #[.val (.int p0), .val (.int (1 : Int32)), .val (.int (1 : Int32)), .val (.int (0 : Int32)), .val (.int (0 : Int32)), .val (.ref b239), .val (.ref b244), .val (.ref b247), .val (.ref mu), .val (.int (1 : Int32)), .val (.ref b247), .val (.ref b247), .val (.ref a_FORCE)] [(.ref a_FORCE)])
          refine Goes.by (g' := (mkF m 224 #[.val (.int p0), .val (.int (1 : Int32)), .val (.int (1 : Int32)), .val (.int (0 : Int32)), .val (.int (0 : Int32)), .val (.ref b239), .val (.ref b244), .val (.ref b247), .val (.ref mu), .val (.int (1 : Int32)), .val (.ref b247), .val (.ref b247), .val (.ref a_FORCE)] [(.ref a_FORCE), (.ref a_FORCE)])) (fun _ q => XS.aload X.here X.hx rfl (hb hby at_222) rfl rfl q) ?_
          refine X.acmp rfl rfl (cd := .ne) (x := (.ref a_FORCE)) (y := (.ref a_FORCE)) (same := true) (pc' := 227) (hb hby at_224) (decide_eq_true rfl) (by decide) (by decide) ?_
          show Goes _ _ _ _ _ _ _ _ T (mkF m 227 #[.val (.int p0), .val (.int (1 : Int32)), .val (.int (1 : Int32)), .val (.int (0 : Int32)), .val (.int (0 : Int32)), .val (.ref b239), .val (.ref b244), .val (.ref b247), .val (.ref mu), .val (.int (1 : Int32)), .val (.ref b247), .val (.ref b247), .val (.ref a_FORCE)] [])
          refine Goes.by (g' := (mkF m 228 #[.val (.int p0), .val (.int (1 : Int32)), .val (.int (1 : Int32)), .val (.int (0 : Int32)), .val (.int (0 : Int32)), .val (.ref b239), .val (.ref b244), .val (.ref b247), .val (.ref mu), .val (.int (1 : Int32)), .val (.ref b247), .val (.ref b247), .val (.ref a_FORCE)] [(.int (1 : Int32))])) (fun _ q => XS.iconst X.here X.hx rfl (hb hby at_227) q) ?_
          refine Goes.by (g' := (mkF m 232 #[.val (.int p0), .val (.int (1 : Int32)), .val (.int (1 : Int32)), .val (.int (0 : Int32)), .val (.int (0 : Int32)), .val (.ref b239), .val (.ref b244), .val (.ref b247), .val (.ref mu), .val (.int (1 : Int32)), .val (.ref b247), .val (.ref b247), .val (.ref a_FORCE)] [(.int (1 : Int32))])) (fun _ q => XS.goto X.here X.hx rfl (pc0 := 228) (pc' := 232) rfl (hb hby at_228) (by decide) (by decide) q) ?_
          exact X.retZ hret (hb hby at_232) (by decide) (by decide) rfl
        · skip
          refine Goes.by (g' := (mkF m 43 #[.val (.int p0), .val (.int (1 : Int32)), .val (.int (1 : Int32)), .val (.int (0 : Int32)), .unset, .unset, .unset, .unset, .unset, .unset, .unset, .unset, .unset] [])) (fun _ q => XS.ifNo X.here X.hx rfl (hb hby at_40) rfl ((if0 _ _).trans (feq hB238).1) q) ?_
          refine Goes.by (g' := (mkF m 44 #[.val (.int p0), .val (.int (1 : Int32)), .val (.int (1 : Int32)), .val (.int (0 : Int32)), .unset, .unset, .unset, .unset, .unset, .unset, .unset, .unset, .unset] [(.int (1 : Int32))])) (fun _ q => XS.iconst X.here X.hx rfl (hb hby at_43) q) ?_
          refine Goes.by (g' := (mkF m 48 #[.val (.int p0), .val (.int (1 : Int32)), .val (.int (1 : Int32)), .val (.int (0 : Int32)), .unset, .unset, .unset, .unset, .unset, .unset, .unset, .unset, .unset] [(.int (1 : Int32))])) (fun _ q => XS.goto X.here X.hx rfl (pc0 := 44) (pc' := 48) rfl (hb hby at_44) (by decide) (by decide) q) ?_
          refine Goes.by (g' := (mkF m 50 #[.val (.int p0), .val (.int (1 : Int32)), .val (.int (1 : Int32)), .val (.int (0 : Int32)), .val (.int (1 : Int32)), .unset, .unset, .unset, .unset, .unset, .unset, .unset, .unset] [])) (fun _ q => XS.istore X.here X.hx rfl (hb hby at_48) rfl (l' := #[.val (.int p0), .val (.int (1 : Int32)), .val (.int (1 : Int32)), .val (.int (0 : Int32)), .val (.int (1 : Int32)), .unset, .unset, .unset, .unset, .unset, .unset, .unset, .unset]) rfl q) ?_
          refine X.newO (hw _ (List.mem_of_getElem? (i := 0) rfl)) (hw _ (List.mem_of_getElem? (i := 1) rfl)) (hw _ (List.mem_of_getElem? (i := 2) rfl)) (hb hby at_50) (by decide) (by decide) (fun T h256 b255 X g_b255 ga_b255 E E_b255 D_b255 => ?_)
          have O_ := O_.ext E
          have F_b255_mutations : Fld Z h256 b255 "com/example/hafiza/hafiza/StoreConfig" "mutations" "Lcom/example/hafiza/hafiza/Mutations;" .null := D_b255 (Or.inl (hw _ (List.mem_of_getElem? (i := 92) rfl))) (ty := (.object "com/example/hafiza/hafiza/Mutations")) (by decide)
          have F_b255_durability : Fld Z h256 b255 "com/example/hafiza/hafiza/StoreConfig" "durability" "Lcom/example/hafiza/hafiza/Durability;" .null := D_b255 (Or.inl (hw _ (List.mem_of_getElem? (i := 97) rfl))) (ty := (.object "com/example/hafiza/hafiza/Durability")) (by decide)
          have F_b255_allowCreate : Fld Z h256 b255 "com/example/hafiza/hafiza/StoreConfig" "allowCreate" "Z" (.int (0 : Int32)) := D_b255 (Or.inl (hw _ (List.mem_of_getElem? (i := 130) rfl))) (ty := .boolean) (by decide)
          show Goes _ _ _ _ _ _ _ _ T (mkF m 53 #[.val (.int p0), .val (.int (1 : Int32)), .val (.int (1 : Int32)), .val (.int (0 : Int32)), .val (.int (1 : Int32)), .unset, .unset, .unset, .unset, .unset, .unset, .unset, .unset] [(.ref b255)])
          refine Goes.by (g' := (mkF m 54 #[.val (.int p0), .val (.int (1 : Int32)), .val (.int (1 : Int32)), .val (.int (0 : Int32)), .val (.int (1 : Int32)), .unset, .unset, .unset, .unset, .unset, .unset, .unset, .unset] [(.ref b255), (.ref b255)])) (fun _ q => XS.dup X.here X.hx rfl (hb hby at_53) rfl rfl q) ?_
          have X_o := X
          refine X.callN rfl (hw _ (List.mem_of_getElem? (i := 3) rfl)) (hw _ (List.mem_of_getElem? (i := 4) rfl)) (hw _ (List.mem_of_getElem? (i := 2) rfl)) (hw _ (List.mem_of_getElem? (i := 5) rfl)) (by decide) pd_193421996 (argsL := []) rfl (rmSC l Z a0 hw n0 h256 X.n0le b255 ga_b255 E_b255 F_b255_mutations F_b255_durability F_b255_allowCreate a_WRITE S_WRITE O_) (by rw [hml]; rfl) rfl (by decide) (leB rfl) (hb hby at_54) (by decide) (by decide) (fun T h257 v X hQ => ?_)
          obtain ⟨rfl, K, mu, gz, E_mu, F_b255_mutations, F_b255_durability, F_b255_allowCreate⟩ := hQ
          have ga_mu : n0 ≤ mu := Nat.le_trans X_o.n0le gz
          have ne_b255_mu : b255 ≠ mu := Nat.ne_of_lt (Nat.lt_of_lt_of_le E_b255.lt gz)
          have O_ := O_.keep K (allS ga_b255 all0)
          have E_b255 := E_b255.keep K
          show Goes _ _ _ _ _ _ _ _ T (mkF m 57 #[.val (.int p0), .val (.int (1 : Int32)), .val (.int (1 : Int32)), .val (.int (0 : Int32)), .val (.int (1 : Int32)), .unset, .unset, .unset, .unset, .unset, .unset, .unset, .unset] [(.ref b255)])
          refine Goes.by (g' := (mkF m 59 #[.val (.int p0), .val (.int (1 : Int32)), .val (.int (1 : Int32)), .val (.int (0 : Int32)), .val (.int (1 : Int32)), .val (.ref b255), .unset, .unset, .unset, .unset, .unset, .unset, .unset] [])) (fun _ q => XS.astore X.here X.hx rfl (hb hby at_57) rfl rfl (l' := #[.val (.int p0), .val (.int (1 : Int32)), .val (.int (1 : Int32)), .val (.int (0 : Int32)), .val (.int (1 : Int32)), .val (.ref b255), .unset, .unset, .unset, .unset, .unset, .unset, .unset]) rfl q) ?_
          refine Goes.by (g' := (mkF m 60 #[.val (.int p0), .val (.int (1 : Int32)), .val (.int (1 : Int32)), .val (.int (0 : Int32)), .val (.int (1 : Int32)), .val (.ref b255), .unset, .unset, .unset, .unset, .unset, .unset, .unset] [(.int (1 : Int32))])) (fun _ q => XS.iloadN X.here X.hx rfl (hb hby at_59) rfl q) ?_
          refine Goes.by (g' := (mkF m 63 #[.val (.int p0), .val (.int (1 : Int32)), .val (.int (1 : Int32)), .val (.int (0 : Int32)), .val (.int (1 : Int32)), .val (.ref b255), .unset, .unset, .unset, .unset, .unset, .unset, .unset] [])) (fun _ q => XS.ifNo X.here X.hx rfl (hb hby at_60) rfl ((if0 _ _).trans (feq (show ¬ (1 : Int32) = (0 : Int32) from (by decide))).1) q) ?_
          refine Goes.by (g' := (mkF m 65 #[.val (.int p0), .val (.int (1 : Int32)), .val (.int (1 : Int32)), .val (.int (0 : Int32)), .val (.int (1 : Int32)), .val (.ref b255), .unset, .unset, .unset, .unset, .unset, .unset, .unset] [(.ref b255)])) (fun _ q => XS.aload X.here X.hx rfl (hb hby at_63) rfl rfl q) ?_
          refine Goes.by (g' := (mkF m 66 #[.val (.int p0), .val (.int (1 : Int32)), .val (.int (1 : Int32)), .val (.int (0 : Int32)), .val (.int (1 : Int32)), .val (.ref b255), .unset, .unset, .unset, .unset, .unset, .unset, .unset] [(.int (1 : Int32)), (.ref b255)])) (fun _ q => XS.iconst X.here X.hx rfl (hb hby at_65) q) ?_
          have X_o := X
          refine X.callV E_b255 (hw _ (List.mem_of_getElem? (i := 136) rfl)) (hw _ (List.mem_of_getElem? (i := 137) rfl)) (hw _ (List.mem_of_getElem? (i := 139) rfl)) (hw _ (List.mem_of_getElem? (i := 103) rfl)) rfl (hw _ (List.mem_of_getElem? (i := 138) rfl)) (hw _ (List.mem_of_getElem? (i := 2) rfl)) (hw _ (List.mem_of_getElem? (i := 140) rfl)) (by decide) pd_2088010534 (argsL := [(.int (1 : Int32))]) rfl (rm_setAllowCreate l Z a0 hw n0 h257 X.n0le b255  (.int (0 : Int32)) ga_b255 E_b255  F_b255_allowCreate (.ref mu) F_b255_mutations (.ref a_WRITE) F_b255_durability) (by rw [hml]; rfl) rfl (by decide) (leB rfl) (hb hby at_66) (by decide) (by decide) (fun T h258 v X hQ => ?_)
          obtain ⟨rfl, K, F_b255_allowCreate, F_b255_mutations, F_b255_durability⟩ := hQ
          have O_ := O_.keep K (allS ga_b255 all0)
          have E_b255 := E_b255.keep K
          have E_mu := E_mu.keep K
          show Goes _ _ _ _ _ _ _ _ T (mkF m 69 #[.val (.int p0), .val (.int (1 : Int32)), .val (.int (1 : Int32)), .val (.int (0 : Int32)), .val (.int (1 : Int32)), .val (.ref b255), .unset, .unset, .unset, .unset, .unset, .unset, .unset] [])
          refine Goes.by (g' := (mkF m 70 #[.val (.int p0), .val (.int (1 : Int32)), .val (.int (1 : Int32)), .val (.int (0 : Int32)), .val (.int (1 : Int32)), .val (.ref b255), .unset, .unset, .unset, .unset, .unset, .unset, .unset] [(.int (1 : Int32))])) (fun _ q => XS.iloadN X.here X.hx rfl (hb hby at_69) rfl q) ?_
          refine Goes.by (g' := (mkF m 73 #[.val (.int p0), .val (.int (1 : Int32)), .val (.int (1 : Int32)), .val (.int (0 : Int32)), .val (.int (1 : Int32)), .val (.ref b255), .unset, .unset, .unset, .unset, .unset, .unset, .unset] [])) (fun _ q => XS.ifNo X.here X.hx rfl (hb hby at_70) rfl ((if0 _ _).trans (feq (show ¬ (1 : Int32) = (0 : Int32) from (by decide))).1) q) ?_
          refine Goes.by (g' := (mkF m 75 #[.val (.int p0), .val (.int (1 : Int32)), .val (.int (1 : Int32)), .val (.int (0 : Int32)), .val (.int (1 : Int32)), .val (.ref b255), .unset, .unset, .unset, .unset, .unset, .unset, .unset] [(.ref b255)])) (fun _ q => XS.aload X.here X.hx rfl (hb hby at_73) rfl rfl q) ?_
          refine X.getS (Or.inl (hw _ (List.mem_of_getElem? (i := 141) rfl))) (host := "") Via.refl (S_FORCE.ext O_.2) (hb hby at_75) (fun T X => ?_)
          show Goes _ _ _ _ _ _ _ _ T (mkF m 78 #[.val (.int p0), .val (.int (1 : Int32)), .val (.int (1 : Int32)), .val (.int (0 : Int32)), .val (.int (1 : Int32)), .val (.ref b255), .unset, .unset, .unset, .unset, .unset, .unset, .unset] [(.ref a_FORCE), (.ref b255)])
          have X_o := X
          refine X.callV E_b255 (hw _ (List.mem_of_getElem? (i := 143) rfl)) (hw _ (List.mem_of_getElem? (i := 144) rfl)) (hw _ (List.mem_of_getElem? (i := 146) rfl)) (hw _ (List.mem_of_getElem? (i := 103) rfl)) rfl (hw _ (List.mem_of_getElem? (i := 145) rfl)) (hw _ (List.mem_of_getElem? (i := 2) rfl)) (hw _ (List.mem_of_getElem? (i := 147) rfl)) (by decide) pd_2427134969 (argsL := [(.ref a_FORCE)]) rfl (rm_setDurability l Z a0 hw n0 h258 X.n0le b255 a_FORCE (.ref a_WRITE) ga_b255 E_b255 (E_FORCE.ext O_.2) F_b255_durability (.ref mu) F_b255_mutations (.int (1 : Int32)) F_b255_allowCreate) (by rw [hml]; rfl) rfl (by decide) (leB rfl) (hb hby at_78) (by decide) (by decide) (fun T h259 v X hQ => ?_)
          obtain ⟨rfl, K, F_b255_durability, F_b255_mutations, F_b255_allowCreate⟩ := hQ
          have O_ := O_.keep K (allS ga_b255 all0)
          have E_b255 := E_b255.keep K
          have E_mu := E_mu.keep K
          show Goes _ _ _ _ _ _ _ _ T (mkF m 81 #[.val (.int p0), .val (.int (1 : Int32)), .val (.int (1 : Int32)), .val (.int (0 : Int32)), .val (.int (1 : Int32)), .val (.ref b255), .unset, .unset, .unset, .unset, .unset, .unset, .unset] [])
          refine X.newO (hw _ (List.mem_of_getElem? (i := 98) rfl)) (hw _ (List.mem_of_getElem? (i := 10) rfl)) (hw _ (List.mem_of_getElem? (i := 11) rfl)) (hb hby at_81) (by decide) (by decide) (fun T h261 b260 X g_b260 ga_b260 E E_b260 D_b260 => ?_)
          have ne_b255_b260 : b255 ≠ b260 := by rw [g_b260]; exact Nat.ne_of_lt E_b255.lt
          have ne_mu_b260 : mu ≠ b260 := by rw [g_b260]; exact Nat.ne_of_lt E_mu.lt
          have O_ := O_.ext E
          have E_b255 := E_b255.ext E
          have E_mu := E_mu.ext E
          have F_b255_durability := F_b255_durability.ext E
          have F_b255_mutations := F_b255_mutations.ext E
          have F_b255_allowCreate := F_b255_allowCreate.ext E
          have F_b260_renamers : Fld Z h261 b260 "com/example/hafiza/hafiza/Mutations" "renamers" "Ljava/util/Set;" .null := D_b260 (Or.inr (hw _ (List.mem_of_getElem? (i := 86) rfl))) (ty := (.object "java/util/Set")) (by decide)
          have F_b260_deleters : Fld Z h261 b260 "com/example/hafiza/hafiza/Mutations" "deleters" "Ljava/util/Set;" .null := D_b260 (Or.inr (hw _ (List.mem_of_getElem? (i := 88) rfl))) (ty := (.object "java/util/Set")) (by decide)
          have F_b260_converters : Fld Z h261 b260 "com/example/hafiza/hafiza/Mutations" "converters" "Ljava/util/Set;" .null := D_b260 (Or.inr (hw _ (List.mem_of_getElem? (i := 90) rfl))) (ty := (.object "java/util/Set")) (by decide)
          show Goes _ _ _ _ _ _ _ _ T (mkF m 84 #[.val (.int p0), .val (.int (1 : Int32)), .val (.int (1 : Int32)), .val (.int (0 : Int32)), .val (.int (1 : Int32)), .val (.ref b255), .unset, .unset, .unset, .unset, .unset, .unset, .unset] [(.ref b260)])
          refine Goes.by (g' := (mkF m 85 #[.val (.int p0), .val (.int (1 : Int32)), .val (.int (1 : Int32)), .val (.int (0 : Int32)), .val (.int (1 : Int32)), .val (.ref b255), .unset, .unset, .unset, .unset, .unset, .unset, .unset] [(.ref b260), (.ref b260)])) (fun _ q => XS.dup X.here X.hx rfl (hb hby at_84) rfl rfl q) ?_
          have X_o := X
          refine X.callN rfl (hw _ (List.mem_of_getElem? (i := 99) rfl)) (hw _ (List.mem_of_getElem? (i := 13) rfl)) (hw _ (List.mem_of_getElem? (i := 11) rfl)) (hw _ (List.mem_of_getElem? (i := 14) rfl)) (by decide) pd_193421996 (argsL := []) rfl (rmMU l Z a0 hw n0 h261 X.n0le b260 ga_b260 E_b260 F_b260_renamers F_b260_deleters F_b260_converters) (by rw [hml]; rfl) rfl (by decide) (leB rfl) (hb hby at_85) (by decide) (by decide) (fun T h262 v X hQ => ?_)
          obtain ⟨rfl, K⟩ := hQ
          have O_ := O_.keep K (allS ga_b260 all0)
          have E_b255 := E_b255.keep K
          have E_mu := E_mu.keep K
          have F_b255_durability := F_b255_durability.keep K (ninS ne_b255_b260 nin0)
          have F_b255_mutations := F_b255_mutations.keep K (ninS ne_b255_b260 nin0)
          have F_b255_allowCreate := F_b255_allowCreate.keep K (ninS ne_b255_b260 nin0)
          have E_b260 := E_b260.keep K
          show Goes _ _ _ _ _ _ _ _ T (mkF m 88 #[.val (.int p0), .val (.int (1 : Int32)), .val (.int (1 : Int32)), .val (.int (0 : Int32)), .val (.int (1 : Int32)), .val (.ref b255), .unset, .unset, .unset, .unset, .unset, .unset, .unset] [(.ref b260)])
          refine Goes.by (g' := (mkF m 90 #[.val (.int p0), .val (.int (1 : Int32)), .val (.int (1 : Int32)), .val (.int (0 : Int32)), .val (.int (1 : Int32)), .val (.ref b255), .val (.ref b260), .unset, .unset, .unset, .unset, .unset, .unset] [])) (fun _ q => XS.astore X.here X.hx rfl (hb hby at_88) rfl rfl (l' := #[.val (.int p0), .val (.int (1 : Int32)), .val (.int (1 : Int32)), .val (.int (0 : Int32)), .val (.int (1 : Int32)), .val (.ref b255), .val (.ref b260), .unset, .unset, .unset, .unset, .unset, .unset]) rfl q) ?_
          refine X.newO (hw _ (List.mem_of_getElem? (i := 98) rfl)) (hw _ (List.mem_of_getElem? (i := 10) rfl)) (hw _ (List.mem_of_getElem? (i := 11) rfl)) (hb hby at_90) (by decide) (by decide) (fun T h264 b263 X g_b263 ga_b263 E E_b263 D_b263 => ?_)
          have ne_b255_b263 : b255 ≠ b263 := by rw [g_b263]; exact Nat.ne_of_lt E_b255.lt
          have ne_mu_b263 : mu ≠ b263 := by rw [g_b263]; exact Nat.ne_of_lt E_mu.lt
          have ne_b260_b263 : b260 ≠ b263 := by rw [g_b263]; exact Nat.ne_of_lt E_b260.lt
          have O_ := O_.ext E
          have E_b255 := E_b255.ext E
          have E_mu := E_mu.ext E
          have F_b255_durability := F_b255_durability.ext E
          have F_b255_mutations := F_b255_mutations.ext E
          have F_b255_allowCreate := F_b255_allowCreate.ext E
          have E_b260 := E_b260.ext E
          have F_b263_renamers : Fld Z h264 b263 "com/example/hafiza/hafiza/Mutations" "renamers" "Ljava/util/Set;" .null := D_b263 (Or.inr (hw _ (List.mem_of_getElem? (i := 86) rfl))) (ty := (.object "java/util/Set")) (by decide)
          have F_b263_deleters : Fld Z h264 b263 "com/example/hafiza/hafiza/Mutations" "deleters" "Ljava/util/Set;" .null := D_b263 (Or.inr (hw _ (List.mem_of_getElem? (i := 88) rfl))) (ty := (.object "java/util/Set")) (by decide)
          have F_b263_converters : Fld Z h264 b263 "com/example/hafiza/hafiza/Mutations" "converters" "Ljava/util/Set;" .null := D_b263 (Or.inr (hw _ (List.mem_of_getElem? (i := 90) rfl))) (ty := (.object "java/util/Set")) (by decide)
          show Goes _ _ _ _ _ _ _ _ T (mkF m 93 #[.val (.int p0), .val (.int (1 : Int32)), .val (.int (1 : Int32)), .val (.int (0 : Int32)), .val (.int (1 : Int32)), .val (.ref b255), .val (.ref b260), .unset, .unset, .unset, .unset, .unset, .unset] [(.ref b263)])
          refine Goes.by (g' := (mkF m 94 #[.val (.int p0), .val (.int (1 : Int32)), .val (.int (1 : Int32)), .val (.int (0 : Int32)), .val (.int (1 : Int32)), .val (.ref b255), .val (.ref b260), .unset, .unset, .unset, .unset, .unset, .unset] [(.ref b263), (.ref b263)])) (fun _ q => XS.dup X.here X.hx rfl (hb hby at_93) rfl rfl q) ?_
          have X_o := X
          refine X.callN rfl (hw _ (List.mem_of_getElem? (i := 99) rfl)) (hw _ (List.mem_of_getElem? (i := 13) rfl)) (hw _ (List.mem_of_getElem? (i := 11) rfl)) (hw _ (List.mem_of_getElem? (i := 14) rfl)) (by decide) pd_193421996 (argsL := []) rfl (rmMU l Z a0 hw n0 h264 X.n0le b263 ga_b263 E_b263 F_b263_renamers F_b263_deleters F_b263_converters) (by rw [hml]; rfl) rfl (by decide) (leB rfl) (hb hby at_94) (by decide) (by decide) (fun T h265 v X hQ => ?_)
          obtain ⟨rfl, K⟩ := hQ
          have O_ := O_.keep K (allS ga_b263 all0)
          have E_b255 := E_b255.keep K
          have E_mu := E_mu.keep K
          have F_b255_durability := F_b255_durability.keep K (ninS ne_b255_b263 nin0)
          have F_b255_mutations := F_b255_mutations.keep K (ninS ne_b255_b263 nin0)
          have F_b255_allowCreate := F_b255_allowCreate.keep K (ninS ne_b255_b263 nin0)
          have E_b260 := E_b260.keep K
          have E_b263 := E_b263.keep K
          show Goes _ _ _ _ _ _ _ _ T (mkF m 97 #[.val (.int p0), .val (.int (1 : Int32)), .val (.int (1 : Int32)), .val (.int (0 : Int32)), .val (.int (1 : Int32)), .val (.ref b255), .val (.ref b260), .unset, .unset, .unset, .unset, .unset, .unset] [(.ref b263)])
          refine Goes.by (g' := (mkF m 99 #[.val (.int p0), .val (.int (1 : Int32)), .val (.int (1 : Int32)), .val (.int (0 : Int32)), .val (.int (1 : Int32)), .val (.ref b255), .val (.ref b260), .val (.ref b263), .unset, .unset, .unset, .unset, .unset] [])) (fun _ q => XS.astore X.here X.hx rfl (hb hby at_97) rfl rfl (l' := #[.val (.int p0), .val (.int (1 : Int32)), .val (.int (1 : Int32)), .val (.int (0 : Int32)), .val (.int (1 : Int32)), .val (.ref b255), .val (.ref b260), .val (.ref b263), .unset, .unset, .unset, .unset, .unset]) rfl q) ?_
          refine Goes.by (g' := (mkF m 101 #[.val (.int p0), .val (.int (1 : Int32)), .val (.int (1 : Int32)), .val (.int (0 : Int32)), .val (.int (1 : Int32)), .val (.ref b255), .val (.ref b260), .val (.ref b263), .unset, .unset, .unset, .unset, .unset] [(.ref b255)])) (fun _ q => XS.aload X.here X.hx rfl (hb hby at_99) rfl rfl q) ?_
          have X_o := X
          refine X.callV E_b255 (hw _ (List.mem_of_getElem? (i := 100) rfl)) (hw _ (List.mem_of_getElem? (i := 101) rfl)) (hw _ (List.mem_of_getElem? (i := 103) rfl)) (hw _ (List.mem_of_getElem? (i := 103) rfl)) rfl (hw _ (List.mem_of_getElem? (i := 102) rfl)) (hw _ (List.mem_of_getElem? (i := 2) rfl)) (hw _ (List.mem_of_getElem? (i := 104) rfl)) (by decide) pd_2544813166 (argsL := []) rfl (rm_getMutations l Z a0 hw n0 h265 X.n0le b255 mu  F_b255_mutations) (by rw [hml]; rfl) rfl (by decide) (leB rfl) (hb hby at_101) (by decide) (by decide) (fun T h266 v X hQ => ?_)
          obtain ⟨rfl, hh⟩ := hQ
          rw [hh] at X
          clear hh
          show Goes _ _ _ _ _ _ _ _ T (mkF m 104 #[.val (.int p0), .val (.int (1 : Int32)), .val (.int (1 : Int32)), .val (.int (0 : Int32)), .val (.int (1 : Int32)), .val (.ref b255), .val (.ref b260), .val (.ref b263), .unset, .unset, .unset, .unset, .unset] [(.ref mu)])
          refine Goes.by (g' := (mkF m 106 #[.val (.int p0), .val (.int (1 : Int32)), .val (.int (1 : Int32)), .val (.int (0 : Int32)), .val (.int (1 : Int32)), .val (.ref b255), .val (.ref b260), .val (.ref b263), .val (.ref mu), .unset, .unset, .unset, .unset] [])) (fun _ q => XS.astore X.here X.hx rfl (hb hby at_104) rfl rfl (l' := #[.val (.int p0), .val (.int (1 : Int32)), .val (.int (1 : Int32)), .val (.int (0 : Int32)), .val (.int (1 : Int32)), .val (.ref b255), .val (.ref b260), .val (.ref b263), .val (.ref mu), .unset, .unset, .unset, .unset]) rfl q) ?_
          refine Goes.by (g' := (mkF m 108 #[.val (.int p0), .val (.int (1 : Int32)), .val (.int (1 : Int32)), .val (.int (0 : Int32)), .val (.int (1 : Int32)), .val (.ref b255), .val (.ref b260), .val (.ref b263), .val (.ref mu), .unset, .unset, .unset, .unset] [(.ref mu)])) (fun _ q => XS.aload X.here X.hx rfl (hb hby at_106) rfl rfl q) ?_
          refine Goes.by (g' := (mkF m 111 #[.val (.int p0), .val (.int (1 : Int32)), .val (.int (1 : Int32)), .val (.int (0 : Int32)), .val (.int (1 : Int32)), .val (.ref b255), .val (.ref b260), .val (.ref b263), .val (.ref mu), .unset, .unset, .unset, .unset] [])) (fun _ q => XS.ifnullNo X.here X.hx rfl (hb hby at_108) rfl q) ?_
          refine Goes.by (g' := (mkF m 113 #[.val (.int p0), .val (.int (1 : Int32)), .val (.int (1 : Int32)), .val (.int (0 : Int32)), .val (.int (1 : Int32)), .val (.ref b255), .val (.ref b260), .val (.ref b263), .val (.ref mu), .unset, .unset, .unset, .unset] [(.ref mu)])) (fun _ q => XS.aload X.here X.hx rfl (hb hby at_111) rfl rfl q) ?_
          refine Goes.by (g' := (mkF m 115 #[.val (.int p0), .val (.int (1 : Int32)), .val (.int (1 : Int32)), .val (.int (0 : Int32)), .val (.int (1 : Int32)), .val (.ref b255), .val (.ref b260), .val (.ref b263), .val (.ref mu), .unset, .unset, .unset, .unset] [(.ref b260), (.ref mu)])) (fun _ q => XS.aload X.here X.hx rfl (hb hby at_113) rfl rfl q) ?_
          refine X.acmp rfl rfl (cd := .eq) (x := (.ref mu)) (y := (.ref b260)) (same := false) (pc' := 118) (hb hby at_115) (decide_eq_false fun q => ne_mu_b260 (Value.ref.inj q)) (by decide) (by decide) ?_
          show Goes _ _ _ _ _ _ _ _ T (mkF m 118 #[.val (.int p0), .val (.int (1 : Int32)), .val (.int (1 : Int32)), .val (.int (0 : Int32)), .val (.int (1 : Int32)), .val (.ref b255), .val (.ref b260), .val (.ref b263), .val (.ref mu), .unset, .unset, .unset, .unset] [])
          refine Goes.by (g' := (mkF m 120 #[.val (.int p0), .val (.int (1 : Int32)), .val (.int (1 : Int32)), .val (.int (0 : Int32)), .val (.int (1 : Int32)), .val (.ref b255), .val (.ref b260), .val (.ref b263), .val (.ref mu), .unset, .unset, .unset, .unset] [(.ref mu)])) (fun _ q => XS.aload X.here X.hx rfl (hb hby at_118) rfl rfl q) ?_
          refine Goes.by (g' := (mkF m 122 #[.val (.int p0), .val (.int (1 : Int32)), .val (.int (1 : Int32)), .val (.int (0 : Int32)), .val (.int (1 : Int32)), .val (.ref b255), .val (.ref b260), .val (.ref b263), .val (.ref mu), .unset, .unset, .unset, .unset] [(.ref b263), (.ref mu)])) (fun _ q => XS.aload X.here X.hx rfl (hb hby at_120) rfl rfl q) ?_
          refine X.acmp rfl rfl (cd := .eq) (x := (.ref mu)) (y := (.ref b263)) (same := false) (pc' := 125) (hb hby at_122) (decide_eq_false fun q => ne_mu_b263 (Value.ref.inj q)) (by decide) (by decide) ?_
          show Goes _ _ _ _ _ _ _ _ T (mkF m 125 #[.val (.int p0), .val (.int (1 : Int32)), .val (.int (1 : Int32)), .val (.int (0 : Int32)), .val (.int (1 : Int32)), .val (.ref b255), .val (.ref b260), .val (.ref b263), .val (.ref mu), .unset, .unset, .unset, .unset] [])
          refine Goes.by (g' := (mkF m 126 #[.val (.int p0), .val (.int (1 : Int32)), .val (.int (1 : Int32)), .val (.int (0 : Int32)), .val (.int (1 : Int32)), .val (.ref b255), .val (.ref b260), .val (.ref b263), .val (.ref mu), .unset, .unset, .unset, .unset] [(.int (1 : Int32))])) (fun _ q => XS.iconst X.here X.hx rfl (hb hby at_125) q) ?_
          refine Goes.by (g' := (mkF m 130 #[.val (.int p0), .val (.int (1 : Int32)), .val (.int (1 : Int32)), .val (.int (0 : Int32)), .val (.int (1 : Int32)), .val (.ref b255), .val (.ref b260), .val (.ref b263), .val (.ref mu), .unset, .unset, .unset, .unset] [(.int (1 : Int32))])) (fun _ q => XS.goto X.here X.hx rfl (pc0 := 126) (pc' := 130) rfl (hb hby at_126) (by decide) (by decide) q) ?_
          refine Goes.by (g' := (mkF m 132 #[.val (.int p0), .val (.int (1 : Int32)), .val (.int (1 : Int32)), .val (.int (0 : Int32)), .val (.int (1 : Int32)), .val (.ref b255), .val (.ref b260), .val (.ref b263), .val (.ref mu), .val (.int (1 : Int32)), .unset, .unset, .unset] [])) (fun _ q => XS.istore X.here X.hx rfl (hb hby at_130) rfl (l' := #[.val (.int p0), .val (.int (1 : Int32)), .val (.int (1 : Int32)), .val (.int (0 : Int32)), .val (.int (1 : Int32)), .val (.ref b255), .val (.ref b260), .val (.ref b263), .val (.ref mu), .val (.int (1 : Int32)), .unset, .unset, .unset]) rfl q) ?_
          refine Goes.by (g' := (mkF m 133 #[.val (.int p0), .val (.int (1 : Int32)), .val (.int (1 : Int32)), .val (.int (0 : Int32)), .val (.int (1 : Int32)), .val (.ref b255), .val (.ref b260), .val (.ref b263), .val (.ref mu), .val (.int (1 : Int32)), .unset, .unset, .unset] [(.int (0 : Int32))])) (fun _ q => XS.iloadN X.here X.hx rfl (hb hby at_132) rfl q) ?_
          refine Goes.by (g' := (mkF m 153 #[.val (.int p0), .val (.int (1 : Int32)), .val (.int (1 : Int32)), .val (.int (0 : Int32)), .val (.int (1 : Int32)), .val (.ref b255), .val (.ref b260), .val (.ref b263), .val (.ref mu), .val (.int (1 : Int32)), .unset, .unset, .unset] [])) (fun _ q => XS.ifYes X.here X.hx rfl (pc0 := 133) (pc' := 153) rfl (hb hby at_133) rfl ((if0 _ _).trans (teq (show (0 : Int32) = (0 : Int32) from (by decide))).1) (by decide) (by decide) q) ?_
          refine Goes.by (g' := (mkF m 155 #[.val (.int p0), .val (.int (1 : Int32)), .val (.int (1 : Int32)), .val (.int (0 : Int32)), .val (.int (1 : Int32)), .val (.ref b255), .val (.ref b260), .val (.ref b263), .val (.ref mu), .val (.int (1 : Int32)), .unset, .unset, .unset] [(.int (1 : Int32))])) (fun _ q => XS.iload X.here X.hx rfl (hb hby at_153) rfl q) ?_
          refine Goes.by (g' := (mkF m 158 #[.val (.int p0), .val (.int (1 : Int32)), .val (.int (1 : Int32)), .val (.int (0 : Int32)), .val (.int (1 : Int32)), .val (.ref b255), .val (.ref b260), .val (.ref b263), .val (.ref mu), .val (.int (1 : Int32)), .unset, .unset, .unset] [])) (fun _ q => XS.ifNo X.here X.hx rfl (hb hby at_155) rfl ((if0 _ _).trans (feq (show ¬ (1 : Int32) = (0 : Int32) from (by decide))).1) q) ?_
          refine Goes.by (g' := (mkF m 160 #[.val (.int p0), .val (.int (1 : Int32)), .val (.int (1 : Int32)), .val (.int (0 : Int32)), .val (.int (1 : Int32)), .val (.ref b255), .val (.ref b260), .val (.ref b263), .val (.ref mu), .val (.int (1 : Int32)), .unset, .unset, .unset] [(.ref b260)])) (fun _ q => XS.aload X.here X.hx rfl (hb hby at_158) rfl rfl q) ?_
          refine Goes.by (g' := (mkF m 165 #[.val (.int p0), .val (.int (1 : Int32)), .val (.int (1 : Int32)), .val (.int (0 : Int32)), .val (.int (1 : Int32)), .val (.ref b255), .val (.ref b260), .val (.ref b263), .val (.ref mu), .val (.int (1 : Int32)), .unset, .unset, .unset] [(.ref b260)])) (fun _ q => XS.goto X.here X.hx rfl (pc0 := 160) (pc' := 165) rfl (hb hby at_160) (by decide) (by decide) q) ?_
          refine Goes.by (g' := (mkF m 167 #[.val (.int p0), .val (.int (1 : Int32)), .val (.int (1 : Int32)), .val (.int (0 : Int32)), .val (.int (1 : Int32)), .val (.ref b255), .val (.ref b260), .val (.ref b263), .val (.ref mu), .val (.int (1 : Int32)), .val (.ref b260), .unset, .unset] [])) (fun _ q => XS.astore X.here X.hx rfl (hb hby at_165) rfl rfl (l' := #[.val (.int p0), .val (.int (1 : Int32)), .val (.int (1 : Int32)), .val (.int (0 : Int32)), .val (.int (1 : Int32)), .val (.ref b255), .val (.ref b260), .val (.ref b263), .val (.ref mu), .val (.int (1 : Int32)), .val (.ref b260), .unset, .unset]) rfl q) ?_
          refine Goes.by (g' := (mkF m 169 #[.val (.int p0), .val (.int (1 : Int32)), .val (.int (1 : Int32)), .val (.int (0 : Int32)), .val (.int (1 : Int32)), .val (.ref b255), .val (.ref b260), .val (.ref b263), .val (.ref mu), .val (.int (1 : Int32)), .val (.ref b260), .unset, .unset] [(.ref b255)])) (fun _ q => XS.aload X.here X.hx rfl (hb hby at_167) rfl rfl q) ?_
          refine Goes.by (g' := (mkF m 171 #[.val (.int p0), .val (.int (1 : Int32)), .val (.int (1 : Int32)), .val (.int (0 : Int32)), .val (.int (1 : Int32)), .val (.ref b255), .val (.ref b260), .val (.ref b263), .val (.ref mu), .val (.int (1 : Int32)), .val (.ref b260), .unset, .unset] [(.ref b260), (.ref b255)])) (fun _ q => XS.aload X.here X.hx rfl (hb hby at_169) rfl rfl q) ?_
          have X_o := X
          refine X.callV E_b255 (hw _ (List.mem_of_getElem? (i := 105) rfl)) (hw _ (List.mem_of_getElem? (i := 106) rfl)) (hw _ (List.mem_of_getElem? (i := 108) rfl)) (hw _ (List.mem_of_getElem? (i := 103) rfl)) rfl (hw _ (List.mem_of_getElem? (i := 107) rfl)) (hw _ (List.mem_of_getElem? (i := 2) rfl)) (hw _ (List.mem_of_getElem? (i := 109) rfl)) (by decide) pd_2932898788 (argsL := [(.ref b260)]) rfl (rm_setMutations l Z a0 hw n0 h265 X.n0le b255 b260 (.ref mu) ga_b255 E_b255 E_b260 F_b255_mutations (.ref a_FORCE) F_b255_durability (.int (1 : Int32)) F_b255_allowCreate) (by rw [hml]; rfl) rfl (by decide) (leB rfl) (hb hby at_171) (by decide) (by decide) (fun T h267 v X hQ => ?_)
          obtain ⟨rfl, K, F_b255_mutations, F_b255_durability, F_b255_allowCreate⟩ := hQ
          have O_ := O_.keep K (allS ga_b255 all0)
          have E_b255 := E_b255.keep K
          have E_mu := E_mu.keep K
          have E_b260 := E_b260.keep K
          have E_b263 := E_b263.keep K
          show Goes _ _ _ _ _ _ _ _ T (mkF m 174 #[.val (.int p0), .val (.int (1 : Int32)), .val (.int (1 : Int32)), .val (.int (0 : Int32)), .val (.int (1 : Int32)), .val (.ref b255), .val (.ref b260), .val (.ref b263), .val (.ref mu), .val (.int (1 : Int32)), .val (.ref b260), .unset, .unset] [])
          refine Goes.by (g' := (mkF m 176 #[.val (.int p0), .val (.int (1 : Int32)), .val (.int (1 : Int32)), .val (.int (0 : Int32)), .val (.int (1 : Int32)), .val (.ref b255), .val (.ref b260), .val (.ref b263), .val (.ref mu), .val (.int (1 : Int32)), .val (.ref b260), .unset, .unset] [(.ref b255)])) (fun _ q => XS.aload X.here X.hx rfl (hb hby at_174) rfl rfl q) ?_
          have X_o := X
          refine X.callV E_b255 (hw _ (List.mem_of_getElem? (i := 100) rfl)) (hw _ (List.mem_of_getElem? (i := 101) rfl)) (hw _ (List.mem_of_getElem? (i := 103) rfl)) (hw _ (List.mem_of_getElem? (i := 103) rfl)) rfl (hw _ (List.mem_of_getElem? (i := 102) rfl)) (hw _ (List.mem_of_getElem? (i := 2) rfl)) (hw _ (List.mem_of_getElem? (i := 104) rfl)) (by decide) pd_2544813166 (argsL := []) rfl (rm_getMutations l Z a0 hw n0 h267 X.n0le b255 b260  F_b255_mutations) (by rw [hml]; rfl) rfl (by decide) (leB rfl) (hb hby at_176) (by decide) (by decide) (fun T h268 v X hQ => ?_)
          obtain ⟨rfl, hh⟩ := hQ
          rw [hh] at X
          clear hh
          show Goes _ _ _ _ _ _ _ _ T (mkF m 179 #[.val (.int p0), .val (.int (1 : Int32)), .val (.int (1 : Int32)), .val (.int (0 : Int32)), .val (.int (1 : Int32)), .val (.ref b255), .val (.ref b260), .val (.ref b263), .val (.ref mu), .val (.int (1 : Int32)), .val (.ref b260), .unset, .unset] [(.ref b260)])
          refine Goes.by (g' := (mkF m 181 #[.val (.int p0), .val (.int (1 : Int32)), .val (.int (1 : Int32)), .val (.int (0 : Int32)), .val (.int (1 : Int32)), .val (.ref b255), .val (.ref b260), .val (.ref b263), .val (.ref mu), .val (.int (1 : Int32)), .val (.ref b260), .val (.ref b260), .unset] [])) (fun _ q => XS.astore X.here X.hx rfl (hb hby at_179) rfl rfl (l' := #[.val (.int p0), .val (.int (1 : Int32)), .val (.int (1 : Int32)), .val (.int (0 : Int32)), .val (.int (1 : Int32)), .val (.ref b255), .val (.ref b260), .val (.ref b263), .val (.ref mu), .val (.int (1 : Int32)), .val (.ref b260), .val (.ref b260), .unset]) rfl q) ?_
          refine Goes.by (g' := (mkF m 182 #[.val (.int p0), .val (.int (1 : Int32)), .val (.int (1 : Int32)), .val (.int (0 : Int32)), .val (.int (1 : Int32)), .val (.ref b255), .val (.ref b260), .val (.ref b263), .val (.ref mu), .val (.int (1 : Int32)), .val (.ref b260), .val (.ref b260), .unset] [(.int (1 : Int32))])) (fun _ q => XS.iloadN X.here X.hx rfl (hb hby at_181) rfl q) ?_
          refine Goes.by (g' := (mkF m 185 #[.val (.int p0), .val (.int (1 : Int32)), .val (.int (1 : Int32)), .val (.int (0 : Int32)), .val (.int (1 : Int32)), .val (.ref b255), .val (.ref b260), .val (.ref b263), .val (.ref mu), .val (.int (1 : Int32)), .val (.ref b260), .val (.ref b260), .unset] [])) (fun _ q => XS.ifNo X.here X.hx rfl (hb hby at_182) rfl ((if0 _ _).trans (feq (show ¬ (1 : Int32) = (0 : Int32) from (by decide))).1) q) ?_
          refine X.getS (Or.inl (hw _ (List.mem_of_getElem? (i := 141) rfl))) (host := "") Via.refl (S_FORCE.ext O_.2) (hb hby at_185) (fun T X => ?_)
          show Goes _ _ _ _ _ _ _ _ T (mkF m 188 #[.val (.int p0), .val (.int (1 : Int32)), .val (.int (1 : Int32)), .val (.int (0 : Int32)), .val (.int (1 : Int32)), .val (.ref b255), .val (.ref b260), .val (.ref b263), .val (.ref mu), .val (.int (1 : Int32)), .val (.ref b260), .val (.ref b260), .unset] [(.ref a_FORCE)])
          refine Goes.by (g' := (mkF m 194 #[.val (.int p0), .val (.int (1 : Int32)), .val (.int (1 : Int32)), .val (.int (0 : Int32)), .val (.int (1 : Int32)), .val (.ref b255), .val (.ref b260), .val (.ref b263), .val (.ref mu), .val (.int (1 : Int32)), .val (.ref b260), .val (.ref b260), .unset] [(.ref a_FORCE)])) (fun _ q => XS.goto X.here X.hx rfl (pc0 := 188) (pc' := 194) rfl (hb hby at_188) (by decide) (by decide) q) ?_
          refine Goes.by (g' := (mkF m 196 #[.val (.int p0), .val (.int (1 : Int32)), .val (.int (1 : Int32)), .val (.int (0 : Int32)), .val (.int (1 : Int32)), .val (.ref b255), .val (.ref b260), .val (.ref b263), .val (.ref mu), .val (.int (1 : Int32)), .val (.ref b260), .val (.ref b260), .val (.ref a_FORCE)] [])) (fun _ q => XS.astore X.here X.hx rfl (hb hby at_194) rfl rfl (l' := #[.val (.int p0), .val (.int (1 : Int32)), .val (.int (1 : Int32)), .val (.int (0 : Int32)), .val (.int (1 : Int32)), .val (.ref b255), .val (.ref b260), .val (.ref b263), .val (.ref mu), .val (.int (1 : Int32)), .val (.ref b260), .val (.ref b260), .val (.ref a_FORCE)]) rfl q) ?_
          refine Goes.by (g' := (mkF m 198 #[.val (.int p0), .val (.int (1 : Int32)), .val (.int (1 : Int32)), .val (.int (0 : Int32)), .val (.int (1 : Int32)), .val (.ref b255), .val (.ref b260), .val (.ref b263), .val (.ref mu), .val (.int (1 : Int32)), .val (.ref b260), .val (.ref b260), .val (.ref a_FORCE)] [(.int (1 : Int32))])) (fun _ q => XS.iload X.here X.hx rfl (hb hby at_196) rfl q) ?_
          refine Goes.by (g' := (mkF m 201 #[.val (.int p0), .val (.int (1 : Int32)), .val (.int (1 : Int32)), .val (.int (0 : Int32)), .val (.int (1 : Int32)), .val (.ref b255), .val (.ref b260), .val (.ref b263), .val (.ref mu), .val (.int (1 : Int32)), .val (.ref b260), .val (.ref b260), .val (.ref a_FORCE)] [])) (fun _ q => XS.ifNo X.here X.hx rfl (hb hby at_198) rfl ((if0 _ _).trans (feq (show ¬ (1 : Int32) = (0 : Int32) from (by decide))).1) q) ?_
          refine Goes.by (g' := (mkF m 203 #[.val (.int p0), .val (.int (1 : Int32)), .val (.int (1 : Int32)), .val (.int (0 : Int32)), .val (.int (1 : Int32)), .val (.ref b255), .val (.ref b260), .val (.ref b263), .val (.ref mu), .val (.int (1 : Int32)), .val (.ref b260), .val (.ref b260), .val (.ref a_FORCE)] [(.ref b260)])) (fun _ q => XS.aload X.here X.hx rfl (hb hby at_201) rfl rfl q) ?_
          refine Goes.by (g' := (mkF m 205 #[.val (.int p0), .val (.int (1 : Int32)), .val (.int (1 : Int32)), .val (.int (0 : Int32)), .val (.int (1 : Int32)), .val (.ref b255), .val (.ref b260), .val (.ref b263), .val (.ref mu), .val (.int (1 : Int32)), .val (.ref b260), .val (.ref b260), .val (.ref a_FORCE)] [(.ref b260), (.ref b260)])) (fun _ q => XS.aload X.here X.hx rfl (hb hby at_203) rfl rfl q) ?_
          refine X.acmp rfl rfl (cd := .ne) (x := (.ref b260)) (y := (.ref b260)) (same := true) (pc' := 208) (hb hby at_205) (decide_eq_true rfl) (by decide) (by decide) ?_
          show Goes _ _ _ _ _ _ _ _ T (mkF m 208 #[.val (.int p0), .val (.int (1 : Int32)), .val (.int (1 : Int32)), .val (.int (0 : Int32)), .val (.int (1 : Int32)), .val (.ref b255), .val (.ref b260), .val (.ref b263), .val (.ref mu), .val (.int (1 : Int32)), .val (.ref b260), .val (.ref b260), .val (.ref a_FORCE)] [])
          refine Goes.by (g' := (mkF m 210 #[.val (.int p0), .val (.int (1 : Int32)), .val (.int (1 : Int32)), .val (.int (0 : Int32)), .val (.int (1 : Int32)), .val (.ref b255), .val (.ref b260), .val (.ref b263), .val (.ref mu), .val (.int (1 : Int32)), .val (.ref b260), .val (.ref b260), .val (.ref a_FORCE)] [(.ref b255)])) (fun _ q => XS.aload X.here X.hx rfl (hb hby at_208) rfl rfl q) ?_
          have X_o := X
          refine X.callV E_b255 (hw _ (List.mem_of_getElem? (i := 124) rfl)) (hw _ (List.mem_of_getElem? (i := 125) rfl)) (hw _ (List.mem_of_getElem? (i := 127) rfl)) (hw _ (List.mem_of_getElem? (i := 103) rfl)) rfl (hw _ (List.mem_of_getElem? (i := 126) rfl)) (hw _ (List.mem_of_getElem? (i := 2) rfl)) (hw _ (List.mem_of_getElem? (i := 128) rfl)) (by decide) pd_193422000 (argsL := []) rfl (rm_getAllowCreate l Z a0 hw n0 h267 X.n0le b255 (1 : Int32) (by decide) F_b255_allowCreate) (by rw [hml]; rfl) rfl (by decide) (leB rfl) (hb hby at_210) (by decide) (by decide) (fun T h269 v X hQ => ?_)
          obtain ⟨rfl, hh⟩ := hQ
          rw [hh] at X
          clear hh
          show Goes _ _ _ _ _ _ _ _ T (mkF m 213 #[.val (.int p0), .val (.int (1 : Int32)), .val (.int (1 : Int32)), .val (.int (0 : Int32)), .val (.int (1 : Int32)), .val (.ref b255), .val (.ref b260), .val (.ref b263), .val (.ref mu), .val (.int (1 : Int32)), .val (.ref b260), .val (.ref b260), .val (.ref a_FORCE)] [(.int (1 : Int32))])
          refine Goes.by (g' := (mkF m 214 #[.val (.int p0), .val (.int (1 : Int32)), .val (.int (1 : Int32)), .val (.int (0 : Int32)), .val (.int (1 : Int32)), .val (.ref b255), .val (.ref b260), .val (.ref b263), .val (.ref mu), .val (.int (1 : Int32)), .val (.ref b260), .val (.ref b260), .val (.ref a_FORCE)] [(.int (1 : Int32)), (.int (1 : Int32))])) (fun _ q => XS.iloadN X.here X.hx rfl (hb hby at_213) rfl q) ?_
          refine Goes.by (g' := (mkF m 217 #[.val (.int p0), .val (.int (1 : Int32)), .val (.int (1 : Int32)), .val (.int (0 : Int32)), .val (.int (1 : Int32)), .val (.ref b255), .val (.ref b260), .val (.ref b263), .val (.ref mu), .val (.int (1 : Int32)), .val (.ref b260), .val (.ref b260), .val (.ref a_FORCE)] [])) (fun _ q => XS.icmpNo X.here X.hx rfl (hb hby at_214) rfl (teq (show (1 : Int32) = (1 : Int32) from (by decide))).2 q) ?_
          refine Goes.by (g' := (mkF m 219 #[.val (.int p0), .val (.int (1 : Int32)), .val (.int (1 : Int32)), .val (.int (0 : Int32)), .val (.int (1 : Int32)), .val (.ref b255), .val (.ref b260), .val (.ref b263), .val (.ref mu), .val (.int (1 : Int32)), .val (.ref b260), .val (.ref b260), .val (.ref a_FORCE)] [(.ref b255)])) (fun _ q => XS.aload X.here X.hx rfl (hb hby at_217) rfl rfl q) ?_
          have X_o := X
          refine X.callV E_b255 (hw _ (List.mem_of_getElem? (i := 131) rfl)) (hw _ (List.mem_of_getElem? (i := 132) rfl)) (hw _ (List.mem_of_getElem? (i := 134) rfl)) (hw _ (List.mem_of_getElem? (i := 103) rfl)) rfl (hw _ (List.mem_of_getElem? (i := 133) rfl)) (hw _ (List.mem_of_getElem? (i := 2) rfl)) (hw _ (List.mem_of_getElem? (i := 135) rfl)) (by decide) pd_2323304547 (argsL := []) rfl (rm_getDurability l Z a0 hw n0 h267 X.n0le b255 a_FORCE  F_b255_durability) (by rw [hml]; rfl) rfl (by decide) (leB rfl) (hb hby at_219) (by decide) (by decide) (fun T h270 v X hQ => ?_)
          obtain ⟨rfl, hh⟩ := hQ
          rw [hh] at X
          clear hh
          show Goes _ _ _ _ _ _ _ _ T (mkF m 222 #[.val (.int p0), .val (.int (1 : Int32)), .val (.int (1 : Int32)), .val (.int (0 : Int32)), .val (.int (1 : Int32)), .val (.ref b255), .val (.ref b260), .val (.ref b263), .val (.ref mu), .val (.int (1 : Int32)), .val (.ref b260), .val (.ref b260), .val (.ref a_FORCE)] [(.ref a_FORCE)])
          refine Goes.by (g' := (mkF m 224 #[.val (.int p0), .val (.int (1 : Int32)), .val (.int (1 : Int32)), .val (.int (0 : Int32)), .val (.int (1 : Int32)), .val (.ref b255), .val (.ref b260), .val (.ref b263), .val (.ref mu), .val (.int (1 : Int32)), .val (.ref b260), .val (.ref b260), .val (.ref a_FORCE)] [(.ref a_FORCE), (.ref a_FORCE)])) (fun _ q => XS.aload X.here X.hx rfl (hb hby at_222) rfl rfl q) ?_
          refine X.acmp rfl rfl (cd := .ne) (x := (.ref a_FORCE)) (y := (.ref a_FORCE)) (same := true) (pc' := 227) (hb hby at_224) (decide_eq_true rfl) (by decide) (by decide) ?_
          show Goes _ _ _ _ _ _ _ _ T (mkF m 227 #[.val (.int p0), .val (.int (1 : Int32)), .val (.int (1 : Int32)), .val (.int (0 : Int32)), .val (.int (1 : Int32)), .val (.ref b255), .val (.ref b260), .val (.ref b263), .val (.ref mu), .val (.int (1 : Int32)), .val (.ref b260), .val (.ref b260), .val (.ref a_FORCE)] [])
          refine Goes.by (g' := (mkF m 228 #[.val (.int p0), .val (.int (1 : Int32)), .val (.int (1 : Int32)), .val (.int (0 : Int32)), .val (.int (1 : Int32)), .val (.ref b255), .val (.ref b260), .val (.ref b263), .val (.ref mu), .val (.int (1 : Int32)), .val (.ref b260), .val (.ref b260), .val (.ref a_FORCE)] [(.int (1 : Int32))])) (fun _ q => XS.iconst X.here X.hx rfl (hb hby at_227) q) ?_
          refine Goes.by (g' := (mkF m 232 #[.val (.int p0), .val (.int (1 : Int32)), .val (.int (1 : Int32)), .val (.int (0 : Int32)), .val (.int (1 : Int32)), .val (.ref b255), .val (.ref b260), .val (.ref b263), .val (.ref mu), .val (.int (1 : Int32)), .val (.ref b260), .val (.ref b260), .val (.ref a_FORCE)] [(.int (1 : Int32))])) (fun _ q => XS.goto X.here X.hx rfl (pc0 := 228) (pc' := 232) rfl (hb hby at_228) (by decide) (by decide) q) ?_
          exact X.retZ hret (hb hby at_232) (by decide) (by decide) rfl
      · skip
        refine Goes.by (g' := (mkF m 30 #[.val (.int p0), .val (.int (1 : Int32)), .val (.int (1 : Int32)), .unset, .unset, .unset, .unset, .unset, .unset, .unset, .unset, .unset, .unset] [])) (fun _ q => XS.ifNo X.here X.hx rfl (hb hby at_27) rfl ((if0 _ _).trans (feq hB237).1) q) ?_
        refine Goes.by (g' := (mkF m 31 #[.val (.int p0), .val (.int (1 : Int32)), .val (.int (1 : Int32)), .unset, .unset, .unset, .unset, .unset, .unset, .unset, .unset, .unset, .unset] [(.int (1 : Int32))])) (fun _ q => XS.iconst X.here X.hx rfl (hb hby at_30) q) ?_
        refine Goes.by (g' := (mkF m 35 #[.val (.int p0), .val (.int (1 : Int32)), .val (.int (1 : Int32)), .unset, .unset, .unset, .unset, .unset, .unset, .unset, .unset, .unset, .unset] [(.int (1 : Int32))])) (fun _ q => XS.goto X.here X.hx rfl (pc0 := 31) (pc' := 35) rfl (hb hby at_31) (by decide) (by decide) q) ?_
        refine Goes.by (g' := (mkF m 36 #[.val (.int p0), .val (.int (1 : Int32)), .val (.int (1 : Int32)), .val (.int (1 : Int32)), .unset, .unset, .unset, .unset, .unset, .unset, .unset, .unset, .unset] [])) (fun _ q => XS.istoreN X.here X.hx rfl (hb hby at_35) rfl (l' := #[.val (.int p0), .val (.int (1 : Int32)), .val (.int (1 : Int32)), .val (.int (1 : Int32)), .unset, .unset, .unset, .unset, .unset, .unset, .unset, .unset, .unset]) rfl q) ?_
        refine Goes.by (g' := (mkF m 37 #[.val (.int p0), .val (.int (1 : Int32)), .val (.int (1 : Int32)), .val (.int (1 : Int32)), .unset, .unset, .unset, .unset, .unset, .unset, .unset, .unset, .unset] [(.int p0)])) (fun _ q => XS.iloadN X.here X.hx rfl (hb hby at_36) rfl q) ?_
        refine Goes.by (g' := (mkF m 39 #[.val (.int p0), .val (.int (1 : Int32)), .val (.int (1 : Int32)), .val (.int (1 : Int32)), .unset, .unset, .unset, .unset, .unset, .unset, .unset, .unset, .unset] [(.int (8 : Int32)), (.int p0)])) (fun _ q => XS.bipush X.here X.hx rfl (hb hby at_37) q) ?_
        refine Goes.by (g' := (mkF m 40 #[.val (.int p0), .val (.int (1 : Int32)), .val (.int (1 : Int32)), .val (.int (1 : Int32)), .unset, .unset, .unset, .unset, .unset, .unset, .unset, .unset, .unset] [(.int (p0 &&& (8 : Int32)))])) (fun _ q => XS.iand X.here X.hx rfl (hb hby at_39) rfl q) ?_
        by_cases hB271 : (p0 &&& (8 : Int32)) = (0 : Int32)
        · skip
          refine Goes.by (g' := (mkF m 47 #[.val (.int p0), .val (.int (1 : Int32)), .val (.int (1 : Int32)), .val (.int (1 : Int32)), .unset, .unset, .unset, .unset, .unset, .unset, .unset, .unset, .unset] [])) (fun _ q => XS.ifYes X.here X.hx rfl (pc0 := 40) (pc' := 47) rfl (hb hby at_40) rfl ((if0 _ _).trans (teq hB271).1) (by decide) (by decide) q) ?_
          refine Goes.by (g' := (mkF m 48 #[.val (.int p0), .val (.int (1 : Int32)), .val (.int (1 : Int32)), .val (.int (1 : Int32)), .unset, .unset, .unset, .unset, .unset, .unset, .unset, .unset, .unset] [(.int (0 : Int32))])) (fun _ q => XS.iconst X.here X.hx rfl (hb hby at_47) q) ?_
          refine Goes.by (g' := (mkF m 50 #[.val (.int p0), .val (.int (1 : Int32)), .val (.int (1 : Int32)), .val (.int (1 : Int32)), .val (.int (0 : Int32)), .unset, .unset, .unset, .unset, .unset, .unset, .unset, .unset] [])) (fun _ q => XS.istore X.here X.hx rfl (hb hby at_48) rfl (l' := #[.val (.int p0), .val (.int (1 : Int32)), .val (.int (1 : Int32)), .val (.int (1 : Int32)), .val (.int (0 : Int32)), .unset, .unset, .unset, .unset, .unset, .unset, .unset, .unset]) rfl q) ?_
          refine X.newO (hw _ (List.mem_of_getElem? (i := 0) rfl)) (hw _ (List.mem_of_getElem? (i := 1) rfl)) (hw _ (List.mem_of_getElem? (i := 2) rfl)) (hb hby at_50) (by decide) (by decide) (fun T h273 b272 X g_b272 ga_b272 E E_b272 D_b272 => ?_)
          have O_ := O_.ext E
          have F_b272_mutations : Fld Z h273 b272 "com/example/hafiza/hafiza/StoreConfig" "mutations" "Lcom/example/hafiza/hafiza/Mutations;" .null := D_b272 (Or.inl (hw _ (List.mem_of_getElem? (i := 92) rfl))) (ty := (.object "com/example/hafiza/hafiza/Mutations")) (by decide)
          have F_b272_durability : Fld Z h273 b272 "com/example/hafiza/hafiza/StoreConfig" "durability" "Lcom/example/hafiza/hafiza/Durability;" .null := D_b272 (Or.inl (hw _ (List.mem_of_getElem? (i := 97) rfl))) (ty := (.object "com/example/hafiza/hafiza/Durability")) (by decide)
          have F_b272_allowCreate : Fld Z h273 b272 "com/example/hafiza/hafiza/StoreConfig" "allowCreate" "Z" (.int (0 : Int32)) := D_b272 (Or.inl (hw _ (List.mem_of_getElem? (i := 130) rfl))) (ty := .boolean) (by decide)
          show Goes _ _ _ _ _ _ _ _ T (mkF m 53 #[.val (.int p0), .val (.int (1 : Int32)), .val (.int (1 : Int32)), .val (.int (1 : Int32)), .val (.int (0 : Int32)), .unset, .unset, .unset, .unset, .unset, .unset, .unset, .unset] [(.ref b272)])
          refine Goes.by (g' := (mkF m 54 #[.val (.int p0), .val (.int (1 : Int32)), .val (.int (1 : Int32)), .val (.int (1 : Int32)), .val (.int (0 : Int32)), .unset, .unset, .unset, .unset, .unset, .unset, .unset, .unset] [(.ref b272), (.ref b272)])) (fun _ q => XS.dup X.here X.hx rfl (hb hby at_53) rfl rfl q) ?_
          have X_o := X
          refine X.callN rfl (hw _ (List.mem_of_getElem? (i := 3) rfl)) (hw _ (List.mem_of_getElem? (i := 4) rfl)) (hw _ (List.mem_of_getElem? (i := 2) rfl)) (hw _ (List.mem_of_getElem? (i := 5) rfl)) (by decide) pd_193421996 (argsL := []) rfl (rmSC l Z a0 hw n0 h273 X.n0le b272 ga_b272 E_b272 F_b272_mutations F_b272_durability F_b272_allowCreate a_WRITE S_WRITE O_) (by rw [hml]; rfl) rfl (by decide) (leB rfl) (hb hby at_54) (by decide) (by decide) (fun T h274 v X hQ => ?_)
          obtain ⟨rfl, K, mu, gz, E_mu, F_b272_mutations, F_b272_durability, F_b272_allowCreate⟩ := hQ
          have ga_mu : n0 ≤ mu := Nat.le_trans X_o.n0le gz
          have ne_b272_mu : b272 ≠ mu := Nat.ne_of_lt (Nat.lt_of_lt_of_le E_b272.lt gz)
          have O_ := O_.keep K (allS ga_b272 all0)
          have E_b272 := E_b272.keep K
          show Goes _ _ _ _ _ _ _ _ T (mkF m 57 #[.val (.int p0), .val (.int (1 : Int32)), .val (.int (1 : Int32)), .val (.int (1 : Int32)), .val (.int (0 : Int32)), .unset, .unset, .unset, .unset, .unset, .unset, .unset, .unset] [(.ref b272)])
          refine Goes.by (g' := (mkF m 59 #[.val (.int p0), .val (.int (1 : Int32)), .val (.int (1 : Int32)), .val (.int (1 : Int32)), .val (.int (0 : Int32)), .val (.ref b272), .unset, .unset, .unset, .unset, .unset, .unset, .unset] [])) (fun _ q => XS.astore X.here X.hx rfl (hb hby at_57) rfl rfl (l' := #[.val (.int p0), .val (.int (1 : Int32)), .val (.int (1 : Int32)), .val (.int (1 : Int32)), .val (.int (0 : Int32)), .val (.ref b272), .unset, .unset, .unset, .unset, .unset, .unset, .unset]) rfl q) ?_
          refine Goes.by (g' := (mkF m 60 #[.val (.int p0), .val (.int (1 : Int32)), .val (.int (1 : Int32)), .val (.int (1 : Int32)), .val (.int (0 : Int32)), .val (.ref b272), .unset, .unset, .unset, .unset, .unset, .unset, .unset] [(.int (1 : Int32))])) (fun _ q => XS.iloadN X.here X.hx rfl (hb hby at_59) rfl q) ?_
          refine Goes.by (g' := (mkF m 63 #[.val (.int p0), .val (.int (1 : Int32)), .val (.int (1 : Int32)), .val (.int (1 : Int32)), .val (.int (0 : Int32)), .val (.ref b272), .unset, .unset, .unset, .unset, .unset, .unset, .unset] [])) (fun _ q => XS.ifNo X.here X.hx rfl (hb hby at_60) rfl ((if0 _ _).trans (feq (show ¬ (1 : Int32) = (0 : Int32) from (by decide))).1) q) ?_
          refine Goes.by (g' := (mkF m 65 #[.val (.int p0), .val (.int (1 : Int32)), .val (.int (1 : Int32)), .val (.int (1 : Int32)), .val (.int (0 : Int32)), .val (.ref b272), .unset, .unset, .unset, .unset, .unset, .unset, .unset] [(.ref b272)])) (fun _ q => XS.aload X.here X.hx rfl (hb hby at_63) rfl rfl q) ?_
          refine Goes.by (g' := (mkF m 66 #[.val (.int p0), .val (.int (1 : Int32)), .val (.int (1 : Int32)), .val (.int (1 : Int32)), .val (.int (0 : Int32)), .val (.ref b272), .unset, .unset, .unset, .unset, .unset, .unset, .unset] [(.int (1 : Int32)), (.ref b272)])) (fun _ q => XS.iconst X.here X.hx rfl (hb hby at_65) q) ?_
          have X_o := X
          refine X.callV E_b272 (hw _ (List.mem_of_getElem? (i := 136) rfl)) (hw _ (List.mem_of_getElem? (i := 137) rfl)) (hw _ (List.mem_of_getElem? (i := 139) rfl)) (hw _ (List.mem_of_getElem? (i := 103) rfl)) rfl (hw _ (List.mem_of_getElem? (i := 138) rfl)) (hw _ (List.mem_of_getElem? (i := 2) rfl)) (hw _ (List.mem_of_getElem? (i := 140) rfl)) (by decide) pd_2088010534 (argsL := [(.int (1 : Int32))]) rfl (rm_setAllowCreate l Z a0 hw n0 h274 X.n0le b272  (.int (0 : Int32)) ga_b272 E_b272  F_b272_allowCreate (.ref mu) F_b272_mutations (.ref a_WRITE) F_b272_durability) (by rw [hml]; rfl) rfl (by decide) (leB rfl) (hb hby at_66) (by decide) (by decide) (fun T h275 v X hQ => ?_)
          obtain ⟨rfl, K, F_b272_allowCreate, F_b272_mutations, F_b272_durability⟩ := hQ
          have O_ := O_.keep K (allS ga_b272 all0)
          have E_b272 := E_b272.keep K
          have E_mu := E_mu.keep K
          show Goes _ _ _ _ _ _ _ _ T (mkF m 69 #[.val (.int p0), .val (.int (1 : Int32)), .val (.int (1 : Int32)), .val (.int (1 : Int32)), .val (.int (0 : Int32)), .val (.ref b272), .unset, .unset, .unset, .unset, .unset, .unset, .unset] [])
          refine Goes.by (g' := (mkF m 70 #[.val (.int p0), .val (.int (1 : Int32)), .val (.int (1 : Int32)), .val (.int (1 : Int32)), .val (.int (0 : Int32)), .val (.ref b272), .unset, .unset, .unset, .unset, .unset, .unset, .unset] [(.int (1 : Int32))])) (fun _ q => XS.iloadN X.here X.hx rfl (hb hby at_69) rfl q) ?_
          refine Goes.by (g' := (mkF m 73 #[.val (.int p0), .val (.int (1 : Int32)), .val (.int (1 : Int32)), .val (.int (1 : Int32)), .val (.int (0 : Int32)), .val (.ref b272), .unset, .unset, .unset, .unset, .unset, .unset, .unset] [])) (fun _ q => XS.ifNo X.here X.hx rfl (hb hby at_70) rfl ((if0 _ _).trans (feq (show ¬ (1 : Int32) = (0 : Int32) from (by decide))).1) q) ?_
          refine Goes.by (g' := (mkF m 75 #[.val (.int p0), .val (.int (1 : Int32)), .val (.int (1 : Int32)), .val (.int (1 : Int32)), .val (.int (0 : Int32)), .val (.ref b272), .unset, .unset, .unset, .unset, .unset, .unset, .unset] [(.ref b272)])) (fun _ q => XS.aload X.here X.hx rfl (hb hby at_73) rfl rfl q) ?_
          refine X.getS (Or.inl (hw _ (List.mem_of_getElem? (i := 141) rfl))) (host := "") Via.refl (S_FORCE.ext O_.2) (hb hby at_75) (fun T X => ?_)
          show Goes _ _ _ _ _ _ _ _ T (mkF m 78 #[.val (.int p0), .val (.int (1 : Int32)), .val (.int (1 : Int32)), .val (.int (1 : Int32)), .val (.int (0 : Int32)), .val (.ref b272), .unset, .unset, .unset, .unset, .unset, .unset, .unset] [(.ref a_FORCE), (.ref b272)])
          have X_o := X
          refine X.callV E_b272 (hw _ (List.mem_of_getElem? (i := 143) rfl)) (hw _ (List.mem_of_getElem? (i := 144) rfl)) (hw _ (List.mem_of_getElem? (i := 146) rfl)) (hw _ (List.mem_of_getElem? (i := 103) rfl)) rfl (hw _ (List.mem_of_getElem? (i := 145) rfl)) (hw _ (List.mem_of_getElem? (i := 2) rfl)) (hw _ (List.mem_of_getElem? (i := 147) rfl)) (by decide) pd_2427134969 (argsL := [(.ref a_FORCE)]) rfl (rm_setDurability l Z a0 hw n0 h275 X.n0le b272 a_FORCE (.ref a_WRITE) ga_b272 E_b272 (E_FORCE.ext O_.2) F_b272_durability (.ref mu) F_b272_mutations (.int (1 : Int32)) F_b272_allowCreate) (by rw [hml]; rfl) rfl (by decide) (leB rfl) (hb hby at_78) (by decide) (by decide) (fun T h276 v X hQ => ?_)
          obtain ⟨rfl, K, F_b272_durability, F_b272_mutations, F_b272_allowCreate⟩ := hQ
          have O_ := O_.keep K (allS ga_b272 all0)
          have E_b272 := E_b272.keep K
          have E_mu := E_mu.keep K
          show Goes _ _ _ _ _ _ _ _ T (mkF m 81 #[.val (.int p0), .val (.int (1 : Int32)), .val (.int (1 : Int32)), .val (.int (1 : Int32)), .val (.int (0 : Int32)), .val (.ref b272), .unset, .unset, .unset, .unset, .unset, .unset, .unset] [])
          refine X.newO (hw _ (List.mem_of_getElem? (i := 98) rfl)) (hw _ (List.mem_of_getElem? (i := 10) rfl)) (hw _ (List.mem_of_getElem? (i := 11) rfl)) (hb hby at_81) (by decide) (by decide) (fun T h278 b277 X g_b277 ga_b277 E E_b277 D_b277 => ?_)
          have ne_b272_b277 : b272 ≠ b277 := by rw [g_b277]; exact Nat.ne_of_lt E_b272.lt
          have ne_mu_b277 : mu ≠ b277 := by rw [g_b277]; exact Nat.ne_of_lt E_mu.lt
          have O_ := O_.ext E
          have E_b272 := E_b272.ext E
          have E_mu := E_mu.ext E
          have F_b272_durability := F_b272_durability.ext E
          have F_b272_mutations := F_b272_mutations.ext E
          have F_b272_allowCreate := F_b272_allowCreate.ext E
          have F_b277_renamers : Fld Z h278 b277 "com/example/hafiza/hafiza/Mutations" "renamers" "Ljava/util/Set;" .null := D_b277 (Or.inr (hw _ (List.mem_of_getElem? (i := 86) rfl))) (ty := (.object "java/util/Set")) (by decide)
          have F_b277_deleters : Fld Z h278 b277 "com/example/hafiza/hafiza/Mutations" "deleters" "Ljava/util/Set;" .null := D_b277 (Or.inr (hw _ (List.mem_of_getElem? (i := 88) rfl))) (ty := (.object "java/util/Set")) (by decide)
          have F_b277_converters : Fld Z h278 b277 "com/example/hafiza/hafiza/Mutations" "converters" "Ljava/util/Set;" .null := D_b277 (Or.inr (hw _ (List.mem_of_getElem? (i := 90) rfl))) (ty := (.object "java/util/Set")) (by decide)
          show Goes _ _ _ _ _ _ _ _ T (mkF m 84 #[.val (.int p0), .val (.int (1 : Int32)), .val (.int (1 : Int32)), .val (.int (1 : Int32)), .val (.int (0 : Int32)), .val (.ref b272), .unset, .unset, .unset, .unset, .unset, .unset, .unset] [(.ref b277)])
          refine Goes.by (g' := (mkF m 85 #[.val (.int p0), .val (.int (1 : Int32)), .val (.int (1 : Int32)), .val (.int (1 : Int32)), .val (.int (0 : Int32)), .val (.ref b272), .unset, .unset, .unset, .unset, .unset, .unset, .unset] [(.ref b277), (.ref b277)])) (fun _ q => XS.dup X.here X.hx rfl (hb hby at_84) rfl rfl q) ?_
          have X_o := X
          refine X.callN rfl (hw _ (List.mem_of_getElem? (i := 99) rfl)) (hw _ (List.mem_of_getElem? (i := 13) rfl)) (hw _ (List.mem_of_getElem? (i := 11) rfl)) (hw _ (List.mem_of_getElem? (i := 14) rfl)) (by decide) pd_193421996 (argsL := []) rfl (rmMU l Z a0 hw n0 h278 X.n0le b277 ga_b277 E_b277 F_b277_renamers F_b277_deleters F_b277_converters) (by rw [hml]; rfl) rfl (by decide) (leB rfl) (hb hby at_85) (by decide) (by decide) (fun T h279 v X hQ => ?_)
          obtain ⟨rfl, K⟩ := hQ
          have O_ := O_.keep K (allS ga_b277 all0)
          have E_b272 := E_b272.keep K
          have E_mu := E_mu.keep K
          have F_b272_durability := F_b272_durability.keep K (ninS ne_b272_b277 nin0)
          have F_b272_mutations := F_b272_mutations.keep K (ninS ne_b272_b277 nin0)
          have F_b272_allowCreate := F_b272_allowCreate.keep K (ninS ne_b272_b277 nin0)
          have E_b277 := E_b277.keep K
          show Goes _ _ _ _ _ _ _ _ T (mkF m 88 #[.val (.int p0), .val (.int (1 : Int32)), .val (.int (1 : Int32)), .val (.int (1 : Int32)), .val (.int (0 : Int32)), .val (.ref b272), .unset, .unset, .unset, .unset, .unset, .unset, .unset] [(.ref b277)])
          refine Goes.by (g' := (mkF m 90 #[.val (.int p0), .val (.int (1 : Int32)), .val (.int (1 : Int32)), .val (.int (1 : Int32)), .val (.int (0 : Int32)), .val (.ref b272), .val (.ref b277), .unset, .unset, .unset, .unset, .unset, .unset] [])) (fun _ q => XS.astore X.here X.hx rfl (hb hby at_88) rfl rfl (l' := #[.val (.int p0), .val (.int (1 : Int32)), .val (.int (1 : Int32)), .val (.int (1 : Int32)), .val (.int (0 : Int32)), .val (.ref b272), .val (.ref b277), .unset, .unset, .unset, .unset, .unset, .unset]) rfl q) ?_
          refine X.newO (hw _ (List.mem_of_getElem? (i := 98) rfl)) (hw _ (List.mem_of_getElem? (i := 10) rfl)) (hw _ (List.mem_of_getElem? (i := 11) rfl)) (hb hby at_90) (by decide) (by decide) (fun T h281 b280 X g_b280 ga_b280 E E_b280 D_b280 => ?_)
          have ne_b272_b280 : b272 ≠ b280 := by rw [g_b280]; exact Nat.ne_of_lt E_b272.lt
          have ne_mu_b280 : mu ≠ b280 := by rw [g_b280]; exact Nat.ne_of_lt E_mu.lt
          have ne_b277_b280 : b277 ≠ b280 := by rw [g_b280]; exact Nat.ne_of_lt E_b277.lt
          have O_ := O_.ext E
          have E_b272 := E_b272.ext E
          have E_mu := E_mu.ext E
          have F_b272_durability := F_b272_durability.ext E
          have F_b272_mutations := F_b272_mutations.ext E
          have F_b272_allowCreate := F_b272_allowCreate.ext E
          have E_b277 := E_b277.ext E
          have F_b280_renamers : Fld Z h281 b280 "com/example/hafiza/hafiza/Mutations" "renamers" "Ljava/util/Set;" .null := D_b280 (Or.inr (hw _ (List.mem_of_getElem? (i := 86) rfl))) (ty := (.object "java/util/Set")) (by decide)
          have F_b280_deleters : Fld Z h281 b280 "com/example/hafiza/hafiza/Mutations" "deleters" "Ljava/util/Set;" .null := D_b280 (Or.inr (hw _ (List.mem_of_getElem? (i := 88) rfl))) (ty := (.object "java/util/Set")) (by decide)
          have F_b280_converters : Fld Z h281 b280 "com/example/hafiza/hafiza/Mutations" "converters" "Ljava/util/Set;" .null := D_b280 (Or.inr (hw _ (List.mem_of_getElem? (i := 90) rfl))) (ty := (.object "java/util/Set")) (by decide)
          show Goes _ _ _ _ _ _ _ _ T (mkF m 93 #[.val (.int p0), .val (.int (1 : Int32)), .val (.int (1 : Int32)), .val (.int (1 : Int32)), .val (.int (0 : Int32)), .val (.ref b272), .val (.ref b277), .unset, .unset, .unset, .unset, .unset, .unset] [(.ref b280)])
          refine Goes.by (g' := (mkF m 94 #[.val (.int p0), .val (.int (1 : Int32)), .val (.int (1 : Int32)), .val (.int (1 : Int32)), .val (.int (0 : Int32)), .val (.ref b272), .val (.ref b277), .unset, .unset, .unset, .unset, .unset, .unset] [(.ref b280), (.ref b280)])) (fun _ q => XS.dup X.here X.hx rfl (hb hby at_93) rfl rfl q) ?_
          have X_o := X
          refine X.callN rfl (hw _ (List.mem_of_getElem? (i := 99) rfl)) (hw _ (List.mem_of_getElem? (i := 13) rfl)) (hw _ (List.mem_of_getElem? (i := 11) rfl)) (hw _ (List.mem_of_getElem? (i := 14) rfl)) (by decide) pd_193421996 (argsL := []) rfl (rmMU l Z a0 hw n0 h281 X.n0le b280 ga_b280 E_b280 F_b280_renamers F_b280_deleters F_b280_converters) (by rw [hml]; rfl) rfl (by decide) (leB rfl) (hb hby at_94) (by decide) (by decide) (fun T h282 v X hQ => ?_)
          obtain ⟨rfl, K⟩ := hQ
          have O_ := O_.keep K (allS ga_b280 all0)
          have E_b272 := E_b272.keep K
          have E_mu := E_mu.keep K
          have F_b272_durability := F_b272_durability.keep K (ninS ne_b272_b280 nin0)
          have F_b272_mutations := F_b272_mutations.keep K (ninS ne_b272_b280 nin0)
          have F_b272_allowCreate := F_b272_allowCreate.keep K (ninS ne_b272_b280 nin0)
          have E_b277 := E_b277.keep K
          have E_b280 := E_b280.keep K
          show Goes _ _ _ _ _ _ _ _ T (mkF m 97 #[.val (.int p0), .val (.int (1 : Int32)), .val (.int (1 : Int32)), .val (.int (1 : Int32)), .val (.int (0 : Int32)), .val (.ref b272), .val (.ref b277), .unset, .unset, .unset, .unset, .unset, .unset] [(.ref b280)])
          refine Goes.by (g' := (mkF m 99 #[.val (.int p0), .val (.int (1 : Int32)), .val (.int (1 : Int32)), .val (.int (1 : Int32)), .val (.int (0 : Int32)), .val (.ref b272), .val (.ref b277), .val (.ref b280), .unset, .unset, .unset, .unset, .unset] [])) (fun _ q => XS.astore X.here X.hx rfl (hb hby at_97) rfl rfl (l' := #[.val (.int p0), .val (.int (1 : Int32)), .val (.int (1 : Int32)), .val (.int (1 : Int32)), .val (.int (0 : Int32)), .val (.ref b272), .val (.ref b277), .val (.ref b280), .unset, .unset, .unset, .unset, .unset]) rfl q) ?_
          refine Goes.by (g' := (mkF m 101 #[.val (.int p0), .val (.int (1 : Int32)), .val (.int (1 : Int32)), .val (.int (1 : Int32)), .val (.int (0 : Int32)), .val (.ref b272), .val (.ref b277), .val (.ref b280), .unset, .unset, .unset, .unset, .unset] [(.ref b272)])) (fun _ q => XS.aload X.here X.hx rfl (hb hby at_99) rfl rfl q) ?_
          have X_o := X
          refine X.callV E_b272 (hw _ (List.mem_of_getElem? (i := 100) rfl)) (hw _ (List.mem_of_getElem? (i := 101) rfl)) (hw _ (List.mem_of_getElem? (i := 103) rfl)) (hw _ (List.mem_of_getElem? (i := 103) rfl)) rfl (hw _ (List.mem_of_getElem? (i := 102) rfl)) (hw _ (List.mem_of_getElem? (i := 2) rfl)) (hw _ (List.mem_of_getElem? (i := 104) rfl)) (by decide) pd_2544813166 (argsL := []) rfl (rm_getMutations l Z a0 hw n0 h282 X.n0le b272 mu  F_b272_mutations) (by rw [hml]; rfl) rfl (by decide) (leB rfl) (hb hby at_101) (by decide) (by decide) (fun T h283 v X hQ => ?_)
          obtain ⟨rfl, hh⟩ := hQ
          rw [hh] at X
          clear hh
          show Goes _ _ _ _ _ _ _ _ T (mkF m 104 #[.val (.int p0), .val (.int (1 : Int32)), .val (.int (1 : Int32)), .val (.int (1 : Int32)), .val (.int (0 : Int32)), .val (.ref b272), .val (.ref b277), .val (.ref b280), .unset, .unset, .unset, .unset, .unset] [(.ref mu)])
          refine Goes.by (g' := (mkF m 106 #[.val (.int p0), .val (.int (1 : Int32)), .val (.int (1 : Int32)), .val (.int (1 : Int32)), .val (.int (0 : Int32)), .val (.ref b272), .val (.ref b277), .val (.ref b280), .val (.ref mu), .unset, .unset, .unset, .unset] [])) (fun _ q => XS.astore X.here X.hx rfl (hb hby at_104) rfl rfl (l' := #[.val (.int p0), .val (.int (1 : Int32)), .val (.int (1 : Int32)), .val (.int (1 : Int32)), .val (.int (0 : Int32)), .val (.ref b272), .val (.ref b277), .val (.ref b280), .val (.ref mu), .unset, .unset, .unset, .unset]) rfl q) ?_
          refine Goes.by (g' := (mkF m 108 #[.val (.int p0), .val (.int (1 : Int32)), .val (.int (1 : Int32)), .val (.int (1 : Int32)), .val (.int (0 : Int32)), .val (.ref b272), .val (.ref b277), .val (.ref b280), .val (.ref mu), .unset, .unset, .unset, .unset] [(.ref mu)])) (fun _ q => XS.aload X.here X.hx rfl (hb hby at_106) rfl rfl q) ?_
          refine Goes.by (g' := (mkF m 111 #[.val (.int p0), .val (.int (1 : Int32)), .val (.int (1 : Int32)), .val (.int (1 : Int32)), .val (.int (0 : Int32)), .val (.ref b272), .val (.ref b277), .val (.ref b280), .val (.ref mu), .unset, .unset, .unset, .unset] [])) (fun _ q => XS.ifnullNo X.here X.hx rfl (hb hby at_108) rfl q) ?_
          refine Goes.by (g' := (mkF m 113 #[.val (.int p0), .val (.int (1 : Int32)), .val (.int (1 : Int32)), .val (.int (1 : Int32)), .val (.int (0 : Int32)), .val (.ref b272), .val (.ref b277), .val (.ref b280), .val (.ref mu), .unset, .unset, .unset, .unset] [(.ref mu)])) (fun _ q => XS.aload X.here X.hx rfl (hb hby at_111) rfl rfl q) ?_
          refine Goes.by (g' := (mkF m 115 #[.val (.int p0), .val (.int (1 : Int32)), .val (.int (1 : Int32)), .val (.int (1 : Int32)), .val (.int (0 : Int32)), .val (.ref b272), .val (.ref b277), .val (.ref b280), .val (.ref mu), .unset, .unset, .unset, .unset] [(.ref b277), (.ref mu)])) (fun _ q => XS.aload X.here X.hx rfl (hb hby at_113) rfl rfl q) ?_
          refine X.acmp rfl rfl (cd := .eq) (x := (.ref mu)) (y := (.ref b277)) (same := false) (pc' := 118) (hb hby at_115) (decide_eq_false fun q => ne_mu_b277 (Value.ref.inj q)) (by decide) (by decide) ?_
          show Goes _ _ _ _ _ _ _ _ T (mkF m 118 #[.val (.int p0), .val (.int (1 : Int32)), .val (.int (1 : Int32)), .val (.int (1 : Int32)), .val (.int (0 : Int32)), .val (.ref b272), .val (.ref b277), .val (.ref b280), .val (.ref mu), .unset, .unset, .unset, .unset] [])
          refine Goes.by (g' := (mkF m 120 #[.val (.int p0), .val (.int (1 : Int32)), .val (.int (1 : Int32)), .val (.int (1 : Int32)), .val (.int (0 : Int32)), .val (.ref b272), .val (.ref b277), .val (.ref b280), .val (.ref mu), .unset, .unset, .unset, .unset] [(.ref mu)])) (fun _ q => XS.aload X.here X.hx rfl (hb hby at_118) rfl rfl q) ?_
          refine Goes.by (g' := (mkF m 122 #[.val (.int p0), .val (.int (1 : Int32)), .val (.int (1 : Int32)), .val (.int (1 : Int32)), .val (.int (0 : Int32)), .val (.ref b272), .val (.ref b277), .val (.ref b280), .val (.ref mu), .unset, .unset, .unset, .unset] [(.ref b280), (.ref mu)])) (fun _ q => XS.aload X.here X.hx rfl (hb hby at_120) rfl rfl q) ?_
          refine X.acmp rfl rfl (cd := .eq) (x := (.ref mu)) (y := (.ref b280)) (same := false) (pc' := 125) (hb hby at_122) (decide_eq_false fun q => ne_mu_b280 (Value.ref.inj q)) (by decide) (by decide) ?_
          show Goes _ _ _ _ _ _ _ _ T (mkF m 125 #[.val (.int p0), .val (.int (1 : Int32)), .val (.int (1 : Int32)), .val (.int (1 : Int32)), .val (.int (0 : Int32)), .val (.ref b272), .val (.ref b277), .val (.ref b280), .val (.ref mu), .unset, .unset, .unset, .unset] [])
          refine Goes.by (g' := (mkF m 126 #[.val (.int p0), .val (.int (1 : Int32)), .val (.int (1 : Int32)), .val (.int (1 : Int32)), .val (.int (0 : Int32)), .val (.ref b272), .val (.ref b277), .val (.ref b280), .val (.ref mu), .unset, .unset, .unset, .unset] [(.int (1 : Int32))])) (fun _ q => XS.iconst X.here X.hx rfl (hb hby at_125) q) ?_
          refine Goes.by (g' := (mkF m 130 #[.val (.int p0), .val (.int (1 : Int32)), .val (.int (1 : Int32)), .val (.int (1 : Int32)), .val (.int (0 : Int32)), .val (.ref b272), .val (.ref b277), .val (.ref b280), .val (.ref mu), .unset, .unset, .unset, .unset] [(.int (1 : Int32))])) (fun _ q => XS.goto X.here X.hx rfl (pc0 := 126) (pc' := 130) rfl (hb hby at_126) (by decide) (by decide) q) ?_
          refine Goes.by (g' := (mkF m 132 #[.val (.int p0), .val (.int (1 : Int32)), .val (.int (1 : Int32)), .val (.int (1 : Int32)), .val (.int (0 : Int32)), .val (.ref b272), .val (.ref b277), .val (.ref b280), .val (.ref mu), .val (.int (1 : Int32)), .unset, .unset, .unset] [])) (fun _ q => XS.istore X.here X.hx rfl (hb hby at_130) rfl (l' := #[.val (.int p0), .val (.int (1 : Int32)), .val (.int (1 : Int32)), .val (.int (1 : Int32)), .val (.int (0 : Int32)), .val (.ref b272), .val (.ref b277), .val (.ref b280), .val (.ref mu), .val (.int (1 : Int32)), .unset, .unset, .unset]) rfl q) ?_
          refine Goes.by (g' := (mkF m 133 #[.val (.int p0), .val (.int (1 : Int32)), .val (.int (1 : Int32)), .val (.int (1 : Int32)), .val (.int (0 : Int32)), .val (.ref b272), .val (.ref b277), .val (.ref b280), .val (.ref mu), .val (.int (1 : Int32)), .unset, .unset, .unset] [(.int (1 : Int32))])) (fun _ q => XS.iloadN X.here X.hx rfl (hb hby at_132) rfl q) ?_
          refine Goes.by (g' := (mkF m 136 #[.val (.int p0), .val (.int (1 : Int32)), .val (.int (1 : Int32)), .val (.int (1 : Int32)), .val (.int (0 : Int32)), .val (.ref b272), .val (.ref b277), .val (.ref b280), .val (.ref mu), .val (.int (1 : Int32)), .unset, .unset, .unset] [])) (fun _ q => XS.ifNo X.here X.hx rfl (hb hby at_133) rfl ((if0 _ _).trans (feq (show ¬ (1 : Int32) = (0 : Int32) from (by decide))).1) q) ?_
          refine Goes.by (g' := (mkF m 138 #[.val (.int p0), .val (.int (1 : Int32)), .val (.int (1 : Int32)), .val (.int (1 : Int32)), .val (.int (0 : Int32)), .val (.ref b272), .val (.ref b277), .val (.ref b280), .val (.ref mu), .val (.int (1 : Int32)), .unset, .unset, .unset] [(.ref b272)])) (fun _ q => XS.aload X.here X.hx rfl (hb hby at_136) rfl rfl q) ?_
          refine Goes.by (g' := (mkF m 140 #[.val (.int p0), .val (.int (1 : Int32)), .val (.int (1 : Int32)), .val (.int (1 : Int32)), .val (.int (0 : Int32)), .val (.ref b272), .val (.ref b277), .val (.ref b280), .val (.ref mu), .val (.int (1 : Int32)), .unset, .unset, .unset] [(.int (0 : Int32)), (.ref b272)])) (fun _ q => XS.iload X.here X.hx rfl (hb hby at_138) rfl q) ?_
          refine Goes.by (g' := (mkF m 148 #[.val (.int p0), .val (.int (1 : Int32)), .val (.int (1 : Int32)), .val (.int (1 : Int32)), .val (.int (0 : Int32)), .val (.ref b272), .val (.ref b277), .val (.ref b280), .val (.ref mu), .val (.int (1 : Int32)), .unset, .unset, .unset] [(.ref b272)])) (fun _ q => XS.ifYes X.here X.hx rfl (pc0 := 140) (pc' := 148) rfl (hb hby at_140) rfl ((if0 _ _).trans (teq (show (0 : Int32) = (0 : Int32) from (by decide))).1) (by decide) (by decide) q) ?_
          refine Goes.by (g' := (mkF m 150 #[.val (.int p0), .val (.int (1 : Int32)), .val (.int (1 : Int32)), .val (.int (1 : Int32)), .val (.int (0 : Int32)), .val (.ref b272), .val (.ref b277), .val (.ref b280), .val (.ref mu), .val (.int (1 : Int32)), .unset, .unset, .unset] [(.ref b277), (.ref b272)])) (fun _ q => XS.aload X.here X.hx rfl (hb hby at_148) rfl rfl q) ?_
          have X_o := X
          refine X.callV E_b272 (hw _ (List.mem_of_getElem? (i := 105) rfl)) (hw _ (List.mem_of_getElem? (i := 106) rfl)) (hw _ (List.mem_of_getElem? (i := 108) rfl)) (hw _ (List.mem_of_getElem? (i := 103) rfl)) rfl (hw _ (List.mem_of_getElem? (i := 107) rfl)) (hw _ (List.mem_of_getElem? (i := 2) rfl)) (hw _ (List.mem_of_getElem? (i := 109) rfl)) (by decide) pd_2932898788 (argsL := [(.ref b277)]) rfl (rm_setMutations l Z a0 hw n0 h282 X.n0le b272 b277 (.ref mu) ga_b272 E_b272 E_b277 F_b272_mutations (.ref a_FORCE) F_b272_durability (.int (1 : Int32)) F_b272_allowCreate) (by rw [hml]; rfl) rfl (by decide) (leB rfl) (hb hby at_150) (by decide) (by decide) (fun T h284 v X hQ => ?_)
          obtain ⟨rfl, K, F_b272_mutations, F_b272_durability, F_b272_allowCreate⟩ := hQ
          have O_ := O_.keep K (allS ga_b272 all0)
          have E_b272 := E_b272.keep K
          have E_mu := E_mu.keep K
          have E_b277 := E_b277.keep K
          have E_b280 := E_b280.keep K
          show Goes _ _ _ _ _ _ _ _ T (mkF m 153 #[.val (.int p0), .val (.int (1 : Int32)), .val (.int (1 : Int32)), .val (.int (1 : Int32)), .val (.int (0 : Int32)), .val (.ref b272), .val (.ref b277), .val (.ref b280), .val (.ref mu), .val (.int (1 : Int32)), .unset, .unset, .unset] [])
          refine Goes.by (g' := (mkF m 155 #[.val (.int p0), .val (.int (1 : Int32)), .val (.int (1 : Int32)), .val (.int (1 : Int32)), .val (.int (0 : Int32)), .val (.ref b272), .val (.ref b277), .val (.ref b280), .val (.ref mu), .val (.int (1 : Int32)), .unset, .unset, .unset] [(.int (0 : Int32))])) (fun _ q => XS.iload X.here X.hx rfl (hb hby at_153) rfl q) ?_
          refine Goes.by (g' := (mkF m 163 #[.val (.int p0), .val (.int (1 : Int32)), .val (.int (1 : Int32)), .val (.int (1 : Int32)), .val (.int (0 : Int32)), .val (.ref b272), .val (.ref b277), .val (.ref b280), .val (.ref mu), .val (.int (1 : Int32)), .unset, .unset, .unset] [])) (fun _ q => XS.ifYes X.here X.hx rfl (pc0 := 155) (pc' := 163) rfl (hb hby at_155) rfl ((if0 _ _).trans (teq (show (0 : Int32) = (0 : Int32) from (by decide))).1) (by decide) (by decide) q) ?_
          refine Goes.by (g' := (mkF m 165 #[.val (.int p0), .val (.int (1 : Int32)), .val (.int (1 : Int32)), .val (.int (1 : Int32)), .val (.int (0 : Int32)), .val (.ref b272), .val (.ref b277), .val (.ref b280), .val (.ref mu), .val (.int (1 : Int32)), .unset, .unset, .unset] [(.ref b280)])) (fun _ q => XS.aload X.here X.hx rfl (hb hby at_163) rfl rfl q) ?_
          refine Goes.by (g' := (mkF m 167 #[.val (.int p0), .val (.int (1 : Int32)), .val (.int (1 : Int32)), .val (.int (1 : Int32)), .val (.int (0 : Int32)), .val (.ref b272), .val (.ref b277), .val (.ref b280), .val (.ref mu), .val (.int (1 : Int32)), .val (.ref b280), .unset, .unset] [])) (fun _ q => XS.astore X.here X.hx rfl (hb hby at_165) rfl rfl (l' := #[.val (.int p0), .val (.int (1 : Int32)), .val (.int (1 : Int32)), .val (.int (1 : Int32)), .val (.int (0 : Int32)), .val (.ref b272), .val (.ref b277), .val (.ref b280), .val (.ref mu), .val (.int (1 : Int32)), .val (.ref b280), .unset, .unset]) rfl q) ?_
          refine Goes.by (g' := (mkF m 169 #[.val (.int p0), .val (.int (1 : Int32)), .val (.int (1 : Int32)), .val (.int (1 : Int32)), .val (.int (0 : Int32)), .val (.ref b272), .val (.ref b277), .val (.ref b280), .val (.ref mu), .val (.int (1 : Int32)), .val (.ref b280), .unset, .unset] [(.ref b272)])) (fun _ q => XS.aload X.here X.hx rfl (hb hby at_167) rfl rfl q) ?_
          refine Goes.by (g' := (mkF m 171 #[.val (.int p0), .val (.int (1 : Int32)), .val (.int (1 : Int32)), .val (.int (1 : Int32)), .val (.int (0 : Int32)), .val (.ref b272), .val (.ref b277), .val (.ref b280), .val (.ref mu), .val (.int (1 : Int32)), .val (.ref b280), .unset, .unset] [(.ref b280), (.ref b272)])) (fun _ q => XS.aload X.here X.hx rfl (hb hby at_169) rfl rfl q) ?_
          have X_o := X
          refine X.callV E_b272 (hw _ (List.mem_of_getElem? (i := 105) rfl)) (hw _ (List.mem_of_getElem? (i := 106) rfl)) (hw _ (List.mem_of_getElem? (i := 108) rfl)) (hw _ (List.mem_of_getElem? (i := 103) rfl)) rfl (hw _ (List.mem_of_getElem? (i := 107) rfl)) (hw _ (List.mem_of_getElem? (i := 2) rfl)) (hw _ (List.mem_of_getElem? (i := 109) rfl)) (by decide) pd_2932898788 (argsL := [(.ref b280)]) rfl (rm_setMutations l Z a0 hw n0 h284 X.n0le b272 b280 (.ref b277) ga_b272 E_b272 E_b280 F_b272_mutations (.ref a_FORCE) F_b272_durability (.int (1 : Int32)) F_b272_allowCreate) (by rw [hml]; rfl) rfl (by decide) (leB rfl) (hb hby at_171) (by decide) (by decide) (fun T h285 v X hQ => ?_)
          obtain ⟨rfl, K, F_b272_mutations, F_b272_durability, F_b272_allowCreate⟩ := hQ
          have O_ := O_.keep K (allS ga_b272 all0)
          have E_b272 := E_b272.keep K
          have E_mu := E_mu.keep K
          have E_b277 := E_b277.keep K
          have E_b280 := E_b280.keep K
          show Goes _ _ _ _ _ _ _ _ T (mkF m 174 #[.val (.int p0), .val (.int (1 : Int32)), .val (.int (1 : Int32)), .val (.int (1 : Int32)), .val (.int (0 : Int32)), .val (.ref b272), .val (.ref b277), .val (.ref b280), .val (.ref mu), .val (.int (1 : Int32)), .val (.ref b280), .unset, .unset] [])
          refine Goes.by (g' := (mkF m 176 #[.val (.int p0), .val (.int (1 : Int32)), .val (.int (1 : Int32)), .val (.int (1 : Int32)), .val (.int (0 : Int32)), .val (.ref b272), .val (.ref b277), .val (.ref b280), .val (.ref mu), .val (.int (1 : Int32)), .val (.ref b280), .unset, .unset] [(.ref b272)])) (fun _ q => XS.aload X.here X.hx rfl (hb hby at_174) rfl rfl q) ?_
          have X_o := X
          refine X.callV E_b272 (hw _ (List.mem_of_getElem? (i := 100) rfl)) (hw _ (List.mem_of_getElem? (i := 101) rfl)) (hw _ (List.mem_of_getElem? (i := 103) rfl)) (hw _ (List.mem_of_getElem? (i := 103) rfl)) rfl (hw _ (List.mem_of_getElem? (i := 102) rfl)) (hw _ (List.mem_of_getElem? (i := 2) rfl)) (hw _ (List.mem_of_getElem? (i := 104) rfl)) (by decide) pd_2544813166 (argsL := []) rfl (rm_getMutations l Z a0 hw n0 h285 X.n0le b272 b280  F_b272_mutations) (by rw [hml]; rfl) rfl (by decide) (leB rfl) (hb hby at_176) (by decide) (by decide) (fun T h286 v X hQ => ?_)
          obtain ⟨rfl, hh⟩ := hQ
          rw [hh] at X
          clear hh
          show Goes _ _ _ _ _ _ _ _ T (mkF m 179 #[.val (.int p0), .val (.int (1 : Int32)), .val (.int (1 : Int32)), .val (.int (1 : Int32)), .val (.int (0 : Int32)), .val (.ref b272), .val (.ref b277), .val (.ref b280), .val (.ref mu), .val (.int (1 : Int32)), .val (.ref b280), .unset, .unset] [(.ref b280)])
          refine Goes.by (g' := (mkF m 181 #[.val (.int p0), .val (.int (1 : Int32)), .val (.int (1 : Int32)), .val (.int (1 : Int32)), .val (.int (0 : Int32)), .val (.ref b272), .val (.ref b277), .val (.ref b280), .val (.ref mu), .val (.int (1 : Int32)), .val (.ref b280), .val (.ref b280), .unset] [])) (fun _ q => XS.astore X.here X.hx rfl (hb hby at_179) rfl rfl (l' := #[.val (.int p0), .val (.int (1 : Int32)), .val (.int (1 : Int32)), .val (.int (1 : Int32)), .val (.int (0 : Int32)), .val (.ref b272), .val (.ref b277), .val (.ref b280), .val (.ref mu), .val (.int (1 : Int32)), .val (.ref b280), .val (.ref b280), .unset]) rfl q) ?_
          refine Goes.by (g' := (mkF m 182 #[.val (.int p0), .val (.int (1 : Int32)), .val (.int (1 : Int32)), .val (.int (1 : Int32)), .val (.int (0 : Int32)), .val (.ref b272), .val (.ref b277), .val (.ref b280), .val (.ref mu), .val (.int (1 : Int32)), .val (.ref b280), .val (.ref b280), .unset] [(.int (1 : Int32))])) (fun _ q => XS.iloadN X.here X.hx rfl (hb hby at_181) rfl q) ?_
          refine Goes.by (g' := (mkF m 185 #[.val (.int p0), .val (.int (1 : Int32)), .val (.int (1 : Int32)), .val (.int (1 : Int32)), .val (.int (0 : Int32)), .val (.ref b272), .val (.ref b277), .val (.ref b280), .val (.ref mu), .val (.int (1 : Int32)), .val (.ref b280), .val (.ref b280), .unset] [])) (fun _ q => XS.ifNo X.here X.hx rfl (hb hby at_182) rfl ((if0 _ _).trans (feq (show ¬ (1 : Int32) = (0 : Int32) from (by decide))).1) q) ?_
          refine X.getS (Or.inl (hw _ (List.mem_of_getElem? (i := 141) rfl))) (host := "") Via.refl (S_FORCE.ext O_.2) (hb hby at_185) (fun T X => ?_)
          show Goes _ _ _ _ _ _ _ _ T (mkF m 188 #[.val (.int p0), .val (.int (1 : Int32)), .val (.int (1 : Int32)), .val (.int (1 : Int32)), .val (.int (0 : Int32)), .val (.ref b272), .val (.ref b277), .val (.ref b280), .val (.ref mu), .val (.int (1 : Int32)), .val (.ref b280), .val (.ref b280), .unset] [(.ref a_FORCE)])
          refine Goes.by (g' := (mkF m 194 #[.val (.int p0), .val (.int (1 : Int32)), .val (.int (1 : Int32)), .val (.int (1 : Int32)), .val (.int (0 : Int32)), .val (.ref b272), .val (.ref b277), .val (.ref b280), .val (.ref mu), .val (.int (1 : Int32)), .val (.ref b280), .val (.ref b280), .unset] [(.ref a_FORCE)])) (fun _ q => XS.goto X.here X.hx rfl (pc0 := 188) (pc' := 194) rfl (hb hby at_188) (by decide) (by decide) q) ?_
          refine Goes.by (g' := (mkF m 196 #[.val (.int p0), .val (.int (1 : Int32)), .val (.int (1 : Int32)), .val (.int (1 : Int32)), .val (.int (0 : Int32)), .val (.ref b272), .val (.ref b277), .val (.ref b280), .val (.ref mu), .val (.int (1 : Int32)), .val (.ref b280), .val (.ref b280), .val (.ref a_FORCE)] [])) (fun _ q => XS.astore X.here X.hx rfl (hb hby at_194) rfl rfl (l' := #[.val (.int p0), .val (.int (1 : Int32)), .val (.int (1 : Int32)), .val (.int (1 : Int32)), .val (.int (0 : Int32)), .val (.ref b272), .val (.ref b277), .val (.ref b280), .val (.ref mu), .val (.int (1 : Int32)), .val (.ref b280), .val (.ref b280), .val (.ref a_FORCE)]) rfl q) ?_
          refine Goes.by (g' := (mkF m 198 #[.val (.int p0), .val (.int (1 : Int32)), .val (.int (1 : Int32)), .val (.int (1 : Int32)), .val (.int (0 : Int32)), .val (.ref b272), .val (.ref b277), .val (.ref b280), .val (.ref mu), .val (.int (1 : Int32)), .val (.ref b280), .val (.ref b280), .val (.ref a_FORCE)] [(.int (1 : Int32))])) (fun _ q => XS.iload X.here X.hx rfl (hb hby at_196) rfl q) ?_
          refine Goes.by (g' := (mkF m 201 #[.val (.int p0), .val (.int (1 : Int32)), .val (.int (1 : Int32)), .val (.int (1 : Int32)), .val (.int (0 : Int32)), .val (.ref b272), .val (.ref b277), .val (.ref b280), .val (.ref mu), .val (.int (1 : Int32)), .val (.ref b280), .val (.ref b280), .val (.ref a_FORCE)] [])) (fun _ q => XS.ifNo X.here X.hx rfl (hb hby at_198) rfl ((if0 _ _).trans (feq (show ¬ (1 : Int32) = (0 : Int32) from (by decide))).1) q) ?_
          refine Goes.by (g' := (mkF m 203 #[.val (.int p0), .val (.int (1 : Int32)), .val (.int (1 : Int32)), .val (.int (1 : Int32)), .val (.int (0 : Int32)), .val (.ref b272), .val (.ref b277), .val (.ref b280), .val (.ref mu), .val (.int (1 : Int32)), .val (.ref b280), .val (.ref b280), .val (.ref a_FORCE)] [(.ref b280)])) (fun _ q => XS.aload X.here X.hx rfl (hb hby at_201) rfl rfl q) ?_
          refine Goes.by (g' := (mkF m 205 #[.val (.int p0), .val (.int (1 : Int32)), .val (.int (1 : Int32)), .val (.int (1 : Int32)), .val (.int (0 : Int32)), .val (.ref b272), .val (.ref b277), .val (.ref b280), .val (.ref mu), .val (.int (1 : Int32)), .val (.ref b280), .val (.ref b280), .val (.ref a_FORCE)] [(.ref b280), (.ref b280)])) (fun _ q => XS.aload X.here X.hx rfl (hb hby at_203) rfl rfl q) ?_
          refine X.acmp rfl rfl (cd := .ne) (x := (.ref b280)) (y := (.ref b280)) (same := true) (pc' := 208) (hb hby at_205) (decide_eq_true rfl) (by decide) (by decide) ?_
          show Goes _ _ _ _ _ _ _ _ T (mkF m 208 #[.val (.int p0), .val (.int (1 : Int32)), .val (.int (1 : Int32)), .val (.int (1 : Int32)), .val (.int (0 : Int32)), .val (.ref b272), .val (.ref b277), .val (.ref b280), .val (.ref mu), .val (.int (1 : Int32)), .val (.ref b280), .val (.ref b280), .val (.ref a_FORCE)] [])
          refine Goes.by (g' := (mkF m 210 #[.val (.int p0), .val (.int (1 : Int32)), .val (.int (1 : Int32)), .val (.int (1 : Int32)), .val (.int (0 : Int32)), .val (.ref b272), .val (.ref b277), .val (.ref b280), .val (.ref mu), .val (.int (1 : Int32)), .val (.ref b280), .val (.ref b280), .val (.ref a_FORCE)] [(.ref b272)])) (fun _ q => XS.aload X.here X.hx rfl (hb hby at_208) rfl rfl q) ?_
          have X_o := X
          refine X.callV E_b272 (hw _ (List.mem_of_getElem? (i := 124) rfl)) (hw _ (List.mem_of_getElem? (i := 125) rfl)) (hw _ (List.mem_of_getElem? (i := 127) rfl)) (hw _ (List.mem_of_getElem? (i := 103) rfl)) rfl (hw _ (List.mem_of_getElem? (i := 126) rfl)) (hw _ (List.mem_of_getElem? (i := 2) rfl)) (hw _ (List.mem_of_getElem? (i := 128) rfl)) (by decide) pd_193422000 (argsL := []) rfl (rm_getAllowCreate l Z a0 hw n0 h285 X.n0le b272 (1 : Int32) (by decide) F_b272_allowCreate) (by rw [hml]; rfl) rfl (by decide) (leB rfl) (hb hby at_210) (by decide) (by decide) (fun T h287 v X hQ => ?_)
          obtain ⟨rfl, hh⟩ := hQ
          rw [hh] at X
          clear hh
          show Goes _ _ _ _ _ _ _ _ T (mkF m 213 #[.val (.int p0), .val (.int (1 : Int32)), .val (.int (1 : Int32)), .val (.int (1 : Int32)), .val (.int (0 : Int32)), .val (.ref b272), .val (.ref b277), .val (.ref b280), .val (.ref mu), .val (.int (1 : Int32)), .val (.ref b280), .val (.ref b280), .val (.ref a_FORCE)] [(.int (1 : Int32))])
          refine Goes.by (g' := (mkF m 214 #[.val (.int p0), .val (.int (1 : Int32)), .val (.int (1 : Int32)), .val (.int (1 : Int32)), .val (.int (0 : Int32)), .val (.ref b272), .val (.ref b277), .val (.ref b280), .val (.ref mu), .val (.int (1 : Int32)), .val (.ref b280), .val (.ref b280), .val (.ref a_FORCE)] [(.int (1 : Int32)), (.int (1 : Int32))])) (fun _ q => XS.iloadN X.here X.hx rfl (hb hby at_213) rfl q) ?_
          refine Goes.by (g' := (mkF m 217 #[.val (.int p0), .val (.int (1 : Int32)), .val (.int (1 : Int32)), .val (.int (1 : Int32)), .val (.int (0 : Int32)), .val (.ref b272), .val (.ref b277), .val (.ref b280), .val (.ref mu), .val (.int (1 : Int32)), .val (.ref b280), .val (.ref b280), .val (.ref a_FORCE)] [])) (fun _ q => XS.icmpNo X.here X.hx rfl (hb hby at_214) rfl (teq (show (1 : Int32) = (1 : Int32) from (by decide))).2 q) ?_
          refine Goes.by (g' := (mkF m 219 #[.val (.int p0), .val (.int (1 : Int32)), .val (.int (1 : Int32)), .val (.int (1 : Int32)), .val (.int (0 : Int32)), .val (.ref b272), .val (.ref b277), .val (.ref b280), .val (.ref mu), .val (.int (1 : Int32)), .val (.ref b280), .val (.ref b280), .val (.ref a_FORCE)] [(.ref b272)])) (fun _ q => XS.aload X.here X.hx rfl (hb hby at_217) rfl rfl q) ?_
          have X_o := X
          refine X.callV E_b272 (hw _ (List.mem_of_getElem? (i := 131) rfl)) (hw _ (List.mem_of_getElem? (i := 132) rfl)) (hw _ (List.mem_of_getElem? (i := 134) rfl)) (hw _ (List.mem_of_getElem? (i := 103) rfl)) rfl (hw _ (List.mem_of_getElem? (i := 133) rfl)) (hw _ (List.mem_of_getElem? (i := 2) rfl)) (hw _ (List.mem_of_getElem? (i := 135) rfl)) (by decide) pd_2323304547 (argsL := []) rfl (rm_getDurability l Z a0 hw n0 h285 X.n0le b272 a_FORCE  F_b272_durability) (by rw [hml]; rfl) rfl (by decide) (leB rfl) (hb hby at_219) (by decide) (by decide) (fun T h288 v X hQ => ?_)
          obtain ⟨rfl, hh⟩ := hQ
          rw [hh] at X
          clear hh
          show Goes _ _ _ _ _ _ _ _ T (mkF m 222 #[.val (.int p0), .val (.int (1 : Int32)), .val (.int (1 : Int32)), .val (.int (1 : Int32)), .val (.int (0 : Int32)), .val (.ref b272), .val (.ref b277), .val (.ref b280), .val (.ref mu), .val (.int (1 : Int32)), .val (.ref b280), .val (.ref b280), .val (.ref a_FORCE)] [(.ref a_FORCE)])
          refine Goes.by (g' := (mkF m 224 #[.val (.int p0), .val (.int (1 : Int32)), .val (.int (1 : Int32)), .val (.int (1 : Int32)), .val (.int (0 : Int32)), .val (.ref b272), .val (.ref b277), .val (.ref b280), .val (.ref mu), .val (.int (1 : Int32)), .val (.ref b280), .val (.ref b280), .val (.ref a_FORCE)] [(.ref a_FORCE), (.ref a_FORCE)])) (fun _ q => XS.aload X.here X.hx rfl (hb hby at_222) rfl rfl q) ?_
          refine X.acmp rfl rfl (cd := .ne) (x := (.ref a_FORCE)) (y := (.ref a_FORCE)) (same := true) (pc' := 227) (hb hby at_224) (decide_eq_true rfl) (by decide) (by decide) ?_
          show Goes _ _ _ _ _ _ _ _ T (mkF m 227 #[.val (.int p0), .val (.int (1 : Int32)), .val (.int (1 : Int32)), .val (.int (1 : Int32)), .val (.int (0 : Int32)), .val (.ref b272), .val (.ref b277), .val (.ref b280), .val (.ref mu), .val (.int (1 : Int32)), .val (.ref b280), .val (.ref b280), .val (.ref a_FORCE)] [])
          refine Goes.by (g' := (mkF m 228 #[.val (.int p0), .val (.int (1 : Int32)), .val (.int (1 : Int32)), .val (.int (1 : Int32)), .val (.int (0 : Int32)), .val (.ref b272), .val (.ref b277), .val (.ref b280), .val (.ref mu), .val (.int (1 : Int32)), .val (.ref b280), .val (.ref b280), .val (.ref a_FORCE)] [(.int (1 : Int32))])) (fun _ q => XS.iconst X.here X.hx rfl (hb hby at_227) q) ?_
          refine Goes.by (g' := (mkF m 232 #[.val (.int p0), .val (.int (1 : Int32)), .val (.int (1 : Int32)), .val (.int (1 : Int32)), .val (.int (0 : Int32)), .val (.ref b272), .val (.ref b277), .val (.ref b280), .val (.ref mu), .val (.int (1 : Int32)), .val (.ref b280), .val (.ref b280), .val (.ref a_FORCE)] [(.int (1 : Int32))])) (fun _ q => XS.goto X.here X.hx rfl (pc0 := 228) (pc' := 232) rfl (hb hby at_228) (by decide) (by decide) q) ?_
          exact X.retZ hret (hb hby at_232) (by decide) (by decide) rfl
        · skip
          refine Goes.by (g' := (mkF m 43 #[.val (.int p0), .val (.int (1 : Int32)), .val (.int (1 : Int32)), .val (.int (1 : Int32)), .unset, .unset, .unset, .unset, .unset, .unset, .unset, .unset, .unset] [])) (fun _ q => XS.ifNo X.here X.hx rfl (hb hby at_40) rfl ((if0 _ _).trans (feq hB271).1) q) ?_
          refine Goes.by (g' := (mkF m 44 #[.val (.int p0), .val (.int (1 : Int32)), .val (.int (1 : Int32)), .val (.int (1 : Int32)), .unset, .unset, .unset, .unset, .unset, .unset, .unset, .unset, .unset] [(.int (1 : Int32))])) (fun _ q => XS.iconst X.here X.hx rfl (hb hby at_43) q) ?_
          refine Goes.by (g' := (mkF m 48 #[.val (.int p0), .val (.int (1 : Int32)), .val (.int (1 : Int32)), .val (.int (1 : Int32)), .unset, .unset, .unset, .unset, .unset, .unset, .unset, .unset, .unset] [(.int (1 : Int32))])) (fun _ q => XS.goto X.here X.hx rfl (pc0 := 44) (pc' := 48) rfl (hb hby at_44) (by decide) (by decide) q) ?_
          refine Goes.by (g' := (mkF m 50 #[.val (.int p0), .val (.int (1 : Int32)), .val (.int (1 : Int32)), .val (.int (1 : Int32)), .val (.int (1 : Int32)), .unset, .unset, .unset, .unset, .unset, .unset, .unset, .unset] [])) (fun _ q => XS.istore X.here X.hx rfl (hb hby at_48) rfl (l' := #[.val (.int p0), .val (.int (1 : Int32)), .val (.int (1 : Int32)), .val (.int (1 : Int32)), .val (.int (1 : Int32)), .unset, .unset, .unset, .unset, .unset, .unset, .unset, .unset]) rfl q) ?_
          refine X.newO (hw _ (List.mem_of_getElem? (i := 0) rfl)) (hw _ (List.mem_of_getElem? (i := 1) rfl)) (hw _ (List.mem_of_getElem? (i := 2) rfl)) (hb hby at_50) (by decide) (by decide) (fun T h290 b289 X g_b289 ga_b289 E E_b289 D_b289 => ?_)
          have O_ := O_.ext E
          have F_b289_mutations : Fld Z h290 b289 "com/example/hafiza/hafiza/StoreConfig" "mutations" "Lcom/example/hafiza/hafiza/Mutations;" .null := D_b289 (Or.inl (hw _ (List.mem_of_getElem? (i := 92) rfl))) (ty := (.object "com/example/hafiza/hafiza/Mutations")) (by decide)
          have F_b289_durability : Fld Z h290 b289 "com/example/hafiza/hafiza/StoreConfig" "durability" "Lcom/example/hafiza/hafiza/Durability;" .null := D_b289 (Or.inl (hw _ (List.mem_of_getElem? (i := 97) rfl))) (ty := (.object "com/example/hafiza/hafiza/Durability")) (by decide)
          have F_b289_allowCreate : Fld Z h290 b289 "com/example/hafiza/hafiza/StoreConfig" "allowCreate" "Z" (.int (0 : Int32)) := D_b289 (Or.inl (hw _ (List.mem_of_getElem? (i := 130) rfl))) (ty := .boolean) (by decide)
          show Goes _ _ _ _ _ _ _ _ T (mkF m 53 #[.val (.int p0), .val (.int (1 : Int32)), .val (.int (1 : Int32)), .val (.int (1 : Int32)), .val (.int (1 : Int32)), .unset, .unset, .unset, .unset, .unset, .unset, .unset, .unset] [(.ref b289)])
          refine Goes.by (g' := (mkF m 54 #[.val (.int p0), .val (.int (1 : Int32)), .val (.int (1 : Int32)), .val (.int (1 : Int32)), .val (.int (1 : Int32)), .unset, .unset, .unset, .unset, .unset, .unset, .unset, .unset] [(.ref b289), (.ref b289)])) (fun _ q => XS.dup X.here X.hx rfl (hb hby at_53) rfl rfl q) ?_
          have X_o := X
          refine X.callN rfl (hw _ (List.mem_of_getElem? (i := 3) rfl)) (hw _ (List.mem_of_getElem? (i := 4) rfl)) (hw _ (List.mem_of_getElem? (i := 2) rfl)) (hw _ (List.mem_of_getElem? (i := 5) rfl)) (by decide) pd_193421996 (argsL := []) rfl (rmSC l Z a0 hw n0 h290 X.n0le b289 ga_b289 E_b289 F_b289_mutations F_b289_durability F_b289_allowCreate a_WRITE S_WRITE O_) (by rw [hml]; rfl) rfl (by decide) (leB rfl) (hb hby at_54) (by decide) (by decide) (fun T h291 v X hQ => ?_)
          obtain ⟨rfl, K, mu, gz, E_mu, F_b289_mutations, F_b289_durability, F_b289_allowCreate⟩ := hQ
          have ga_mu : n0 ≤ mu := Nat.le_trans X_o.n0le gz
          have ne_b289_mu : b289 ≠ mu := Nat.ne_of_lt (Nat.lt_of_lt_of_le E_b289.lt gz)
          have O_ := O_.keep K (allS ga_b289 all0)
          have E_b289 := E_b289.keep K
          show Goes _ _ _ _ _ _ _ _ T (mkF m 57 #[.val (.int p0), .val (.int (1 : Int32)), .val (.int (1 : Int32)), .val (.int (1 : Int32)), .val (.int (1 : Int32)), .unset, .unset, .unset, .unset, .unset, .unset, .unset, .unset] [(.ref b289)])
          refine Goes.by (g' := (mkF m 59 #[.val (.int p0), .val (.int (1 : Int32)), .val (.int (1 : Int32)), .val (.int (1 : Int32)), .val (.int (1 : Int32)), .val (.ref b289), .unset, .unset, .unset, .unset, .unset, .unset, .unset] [])) (fun _ q => XS.astore X.here X.hx rfl (hb hby at_57) rfl rfl (l' := #[.val (.int p0), .val (.int (1 : Int32)), .val (.int (1 : Int32)), .val (.int (1 : Int32)), .val (.int (1 : Int32)), .val (.ref b289), .unset, .unset, .unset, .unset, .unset, .unset, .unset]) rfl q) ?_
          refine Goes.by (g' := (mkF m 60 #[.val (.int p0), .val (.int (1 : Int32)), .val (.int (1 : Int32)), .val (.int (1 : Int32)), .val (.int (1 : Int32)), .val (.ref b289), .unset, .unset, .unset, .unset, .unset, .unset, .unset] [(.int (1 : Int32))])) (fun _ q => XS.iloadN X.here X.hx rfl (hb hby at_59) rfl q) ?_
          refine Goes.by (g' := (mkF m 63 #[.val (.int p0), .val (.int (1 : Int32)), .val (.int (1 : Int32)), .val (.int (1 : Int32)), .val (.int (1 : Int32)), .val (.ref b289), .unset, .unset, .unset, .unset, .unset, .unset, .unset] [])) (fun _ q => XS.ifNo X.here X.hx rfl (hb hby at_60) rfl ((if0 _ _).trans (feq (show ¬ (1 : Int32) = (0 : Int32) from (by decide))).1) q) ?_
          refine Goes.by (g' := (mkF m 65 #[.val (.int p0), .val (.int (1 : Int32)), .val (.int (1 : Int32)), .val (.int (1 : Int32)), .val (.int (1 : Int32)), .val (.ref b289), .unset, .unset, .unset, .unset, .unset, .unset, .unset] [(.ref b289)])) (fun _ q => XS.aload X.here X.hx rfl (hb hby at_63) rfl rfl q) ?_
          refine Goes.by (g' := (mkF m 66 #[.val (.int p0), .val (.int (1 : Int32)), .val (.int (1 : Int32)), .val (.int (1 : Int32)), .val (.int (1 : Int32)), .val (.ref b289), .unset, .unset, .unset, .unset, .unset, .unset, .unset] [(.int (1 : Int32)), (.ref b289)])) (fun _ q => XS.iconst X.here X.hx rfl (hb hby at_65) q) ?_
          have X_o := X
          refine X.callV E_b289 (hw _ (List.mem_of_getElem? (i := 136) rfl)) (hw _ (List.mem_of_getElem? (i := 137) rfl)) (hw _ (List.mem_of_getElem? (i := 139) rfl)) (hw _ (List.mem_of_getElem? (i := 103) rfl)) rfl (hw _ (List.mem_of_getElem? (i := 138) rfl)) (hw _ (List.mem_of_getElem? (i := 2) rfl)) (hw _ (List.mem_of_getElem? (i := 140) rfl)) (by decide) pd_2088010534 (argsL := [(.int (1 : Int32))]) rfl (rm_setAllowCreate l Z a0 hw n0 h291 X.n0le b289  (.int (0 : Int32)) ga_b289 E_b289  F_b289_allowCreate (.ref mu) F_b289_mutations (.ref a_WRITE) F_b289_durability) (by rw [hml]; rfl) rfl (by decide) (leB rfl) (hb hby at_66) (by decide) (by decide) (fun T h292 v X hQ => ?_)
          obtain ⟨rfl, K, F_b289_allowCreate, F_b289_mutations, F_b289_durability⟩ := hQ
          have O_ := O_.keep K (allS ga_b289 all0)
          have E_b289 := E_b289.keep K
          have E_mu := E_mu.keep K
          show Goes _ _ _ _ _ _ _ _ T (mkF m 69 #[.val (.int p0), .val (.int (1 : Int32)), .val (.int (1 : Int32)), .val (.int (1 : Int32)), .val (.int (1 : Int32)), .val (.ref b289), .unset, .unset, .unset, .unset, .unset, .unset, .unset] [])
          refine Goes.by (g' := (mkF m 70 #[.val (.int p0), .val (.int (1 : Int32)), .val (.int (1 : Int32)), .val (.int (1 : Int32)), .val (.int (1 : Int32)), .val (.ref b289), .unset, .unset, .unset, .unset, .unset, .unset, .unset] [(.int (1 : Int32))])) (fun _ q => XS.iloadN X.here X.hx rfl (hb hby at_69) rfl q) ?_
          refine Goes.by (g' := (mkF m 73 #[.val (.int p0), .val (.int (1 : Int32)), .val (.int (1 : Int32)), .val (.int (1 : Int32)), .val (.int (1 : Int32)), .val (.ref b289), .unset, .unset, .unset, .unset, .unset, .unset, .unset] [])) (fun _ q => XS.ifNo X.here X.hx rfl (hb hby at_70) rfl ((if0 _ _).trans (feq (show ¬ (1 : Int32) = (0 : Int32) from (by decide))).1) q) ?_
          refine Goes.by (g' := (mkF m 75 #[.val (.int p0), .val (.int (1 : Int32)), .val (.int (1 : Int32)), .val (.int (1 : Int32)), .val (.int (1 : Int32)), .val (.ref b289), .unset, .unset, .unset, .unset, .unset, .unset, .unset] [(.ref b289)])) (fun _ q => XS.aload X.here X.hx rfl (hb hby at_73) rfl rfl q) ?_
          refine X.getS (Or.inl (hw _ (List.mem_of_getElem? (i := 141) rfl))) (host := "") Via.refl (S_FORCE.ext O_.2) (hb hby at_75) (fun T X => ?_)
          show Goes _ _ _ _ _ _ _ _ T (mkF m 78 #[.val (.int p0), .val (.int (1 : Int32)), .val (.int (1 : Int32)), .val (.int (1 : Int32)), .val (.int (1 : Int32)), .val (.ref b289), .unset, .unset, .unset, .unset, .unset, .unset, .unset] [(.ref a_FORCE), (.ref b289)])
          have X_o := X
          refine X.callV E_b289 (hw _ (List.mem_of_getElem? (i := 143) rfl)) (hw _ (List.mem_of_getElem? (i := 144) rfl)) (hw _ (List.mem_of_getElem? (i := 146) rfl)) (hw _ (List.mem_of_getElem? (i := 103) rfl)) rfl (hw _ (List.mem_of_getElem? (i := 145) rfl)) (hw _ (List.mem_of_getElem? (i := 2) rfl)) (hw _ (List.mem_of_getElem? (i := 147) rfl)) (by decide) pd_2427134969 (argsL := [(.ref a_FORCE)]) rfl (rm_setDurability l Z a0 hw n0 h292 X.n0le b289 a_FORCE (.ref a_WRITE) ga_b289 E_b289 (E_FORCE.ext O_.2) F_b289_durability (.ref mu) F_b289_mutations (.int (1 : Int32)) F_b289_allowCreate) (by rw [hml]; rfl) rfl (by decide) (leB rfl) (hb hby at_78) (by decide) (by decide) (fun T h293 v X hQ => ?_)
          obtain ⟨rfl, K, F_b289_durability, F_b289_mutations, F_b289_allowCreate⟩ := hQ
          have O_ := O_.keep K (allS ga_b289 all0)
          have E_b289 := E_b289.keep K
          have E_mu := E_mu.keep K
          show Goes _ _ _ _ _ _ _ _ T (mkF m 81 #[.val (.int p0), .val (.int (1 : Int32)), .val (.int (1 : Int32)), .val (.int (1 : Int32)), .val (.int (1 : Int32)), .val (.ref b289), .unset, .unset, .unset, .unset, .unset, .unset, .unset] [])
          refine X.newO (hw _ (List.mem_of_getElem? (i := 98) rfl)) (hw _ (List.mem_of_getElem? (i := 10) rfl)) (hw _ (List.mem_of_getElem? (i := 11) rfl)) (hb hby at_81) (by decide) (by decide) (fun T h295 b294 X g_b294 ga_b294 E E_b294 D_b294 => ?_)
          have ne_b289_b294 : b289 ≠ b294 := by rw [g_b294]; exact Nat.ne_of_lt E_b289.lt
          have ne_mu_b294 : mu ≠ b294 := by rw [g_b294]; exact Nat.ne_of_lt E_mu.lt
          have O_ := O_.ext E
          have E_b289 := E_b289.ext E
          have E_mu := E_mu.ext E
          have F_b289_durability := F_b289_durability.ext E
          have F_b289_mutations := F_b289_mutations.ext E
          have F_b289_allowCreate := F_b289_allowCreate.ext E
          have F_b294_renamers : Fld Z h295 b294 "com/example/hafiza/hafiza/Mutations" "renamers" "Ljava/util/Set;" .null := D_b294 (Or.inr (hw _ (List.mem_of_getElem? (i := 86) rfl))) (ty := (.object "java/util/Set")) (by decide)
          have F_b294_deleters : Fld Z h295 b294 "com/example/hafiza/hafiza/Mutations" "deleters" "Ljava/util/Set;" .null := D_b294 (Or.inr (hw _ (List.mem_of_getElem? (i := 88) rfl))) (ty := (.object "java/util/Set")) (by decide)
          have F_b294_converters : Fld Z h295 b294 "com/example/hafiza/hafiza/Mutations" "converters" "Ljava/util/Set;" .null := D_b294 (Or.inr (hw _ (List.mem_of_getElem? (i := 90) rfl))) (ty := (.object "java/util/Set")) (by decide)
          show Goes _ _ _ _ _ _ _ _ T (mkF m 84 #[.val (.int p0), .val (.int (1 : Int32)), .val (.int (1 : Int32)), .val (.int (1 : Int32)), .val (.int (1 : Int32)), .val (.ref b289), .unset, .unset, .unset, .unset, .unset, .unset, .unset] [(.ref b294)])
          refine Goes.by (g' := (mkF m 85 #[.val (.int p0), .val (.int (1 : Int32)), .val (.int (1 : Int32)), .val (.int (1 : Int32)), .val (.int (1 : Int32)), .val (.ref b289), .unset, .unset, .unset, .unset, .unset, .unset, .unset] [(.ref b294), (.ref b294)])) (fun _ q => XS.dup X.here X.hx rfl (hb hby at_84) rfl rfl q) ?_
          have X_o := X
          refine X.callN rfl (hw _ (List.mem_of_getElem? (i := 99) rfl)) (hw _ (List.mem_of_getElem? (i := 13) rfl)) (hw _ (List.mem_of_getElem? (i := 11) rfl)) (hw _ (List.mem_of_getElem? (i := 14) rfl)) (by decide) pd_193421996 (argsL := []) rfl (rmMU l Z a0 hw n0 h295 X.n0le b294 ga_b294 E_b294 F_b294_renamers F_b294_deleters F_b294_converters) (by rw [hml]; rfl) rfl (by decide) (leB rfl) (hb hby at_85) (by decide) (by decide) (fun T h296 v X hQ => ?_)
          obtain ⟨rfl, K⟩ := hQ
          have O_ := O_.keep K (allS ga_b294 all0)
          have E_b289 := E_b289.keep K
          have E_mu := E_mu.keep K
          have F_b289_durability := F_b289_durability.keep K (ninS ne_b289_b294 nin0)
          have F_b289_mutations := F_b289_mutations.keep K (ninS ne_b289_b294 nin0)
          have F_b289_allowCreate := F_b289_allowCreate.keep K (ninS ne_b289_b294 nin0)
          have E_b294 := E_b294.keep K
          show Goes _ _ _ _ _ _ _ _ T (mkF m 88 #[.val (.int p0), .val (.int (1 : Int32)), .val (.int (1 : Int32)), .val (.int (1 : Int32)), .val (.int (1 : Int32)), .val (.ref b289), .unset, .unset, .unset, .unset, .unset, .unset, .unset] [(.ref b294)])
          refine Goes.by (g' := (mkF m 90 #[.val (.int p0), .val (.int (1 : Int32)), .val (.int (1 : Int32)), .val (.int (1 : Int32)), .val (.int (1 : Int32)), .val (.ref b289), .val (.ref b294), .unset, .unset, .unset, .unset, .unset, .unset] [])) (fun _ q => XS.astore X.here X.hx rfl (hb hby at_88) rfl rfl (l' := #[.val (.int p0), .val (.int (1 : Int32)), .val (.int (1 : Int32)), .val (.int (1 : Int32)), .val (.int (1 : Int32)), .val (.ref b289), .val (.ref b294), .unset, .unset, .unset, .unset, .unset, .unset]) rfl q) ?_
          refine X.newO (hw _ (List.mem_of_getElem? (i := 98) rfl)) (hw _ (List.mem_of_getElem? (i := 10) rfl)) (hw _ (List.mem_of_getElem? (i := 11) rfl)) (hb hby at_90) (by decide) (by decide) (fun T h298 b297 X g_b297 ga_b297 E E_b297 D_b297 => ?_)
          have ne_b289_b297 : b289 ≠ b297 := by rw [g_b297]; exact Nat.ne_of_lt E_b289.lt
          have ne_mu_b297 : mu ≠ b297 := by rw [g_b297]; exact Nat.ne_of_lt E_mu.lt
          have ne_b294_b297 : b294 ≠ b297 := by rw [g_b297]; exact Nat.ne_of_lt E_b294.lt
          have O_ := O_.ext E
          have E_b289 := E_b289.ext E
          have E_mu := E_mu.ext E
          have F_b289_durability := F_b289_durability.ext E
          have F_b289_mutations := F_b289_mutations.ext E
          have F_b289_allowCreate := F_b289_allowCreate.ext E
          have E_b294 := E_b294.ext E
          have F_b297_renamers : Fld Z h298 b297 "com/example/hafiza/hafiza/Mutations" "renamers" "Ljava/util/Set;" .null := D_b297 (Or.inr (hw _ (List.mem_of_getElem? (i := 86) rfl))) (ty := (.object "java/util/Set")) (by decide)
          have F_b297_deleters : Fld Z h298 b297 "com/example/hafiza/hafiza/Mutations" "deleters" "Ljava/util/Set;" .null := D_b297 (Or.inr (hw _ (List.mem_of_getElem? (i := 88) rfl))) (ty := (.object "java/util/Set")) (by decide)
          have F_b297_converters : Fld Z h298 b297 "com/example/hafiza/hafiza/Mutations" "converters" "Ljava/util/Set;" .null := D_b297 (Or.inr (hw _ (List.mem_of_getElem? (i := 90) rfl))) (ty := (.object "java/util/Set")) (by decide)
          show Goes _ _ _ _ _ _ _ _ T (mkF m 93 #[.val (.int p0), .val (.int (1 : Int32)), .val (.int (1 : Int32)), .val (.int (1 : Int32)), .val (.int (1 : Int32)), .val (.ref b289), .val (.ref b294), .unset, .unset, .unset, .unset, .unset, .unset] [(.ref b297)])
          refine Goes.by (g' := (mkF m 94 #[.val (.int p0), .val (.int (1 : Int32)), .val (.int (1 : Int32)), .val (.int (1 : Int32)), .val (.int (1 : Int32)), .val (.ref b289), .val (.ref b294), .unset, .unset, .unset, .unset, .unset, .unset] [(.ref b297), (.ref b297)])) (fun _ q => XS.dup X.here X.hx rfl (hb hby at_93) rfl rfl q) ?_
          have X_o := X
          refine X.callN rfl (hw _ (List.mem_of_getElem? (i := 99) rfl)) (hw _ (List.mem_of_getElem? (i := 13) rfl)) (hw _ (List.mem_of_getElem? (i := 11) rfl)) (hw _ (List.mem_of_getElem? (i := 14) rfl)) (by decide) pd_193421996 (argsL := []) rfl (rmMU l Z a0 hw n0 h298 X.n0le b297 ga_b297 E_b297 F_b297_renamers F_b297_deleters F_b297_converters) (by rw [hml]; rfl) rfl (by decide) (leB rfl) (hb hby at_94) (by decide) (by decide) (fun T h299 v X hQ => ?_)
          obtain ⟨rfl, K⟩ := hQ
          have O_ := O_.keep K (allS ga_b297 all0)
          have E_b289 := E_b289.keep K
          have E_mu := E_mu.keep K
          have F_b289_durability := F_b289_durability.keep K (ninS ne_b289_b297 nin0)
          have F_b289_mutations := F_b289_mutations.keep K (ninS ne_b289_b297 nin0)
          have F_b289_allowCreate := F_b289_allowCreate.keep K (ninS ne_b289_b297 nin0)
          have E_b294 := E_b294.keep K
          have E_b297 := E_b297.keep K
          show Goes _ _ _ _ _ _ _ _ T (mkF m 97 #[.val (.int p0), .val (.int (1 : Int32)), .val (.int (1 : Int32)), .val (.int (1 : Int32)), .val (.int (1 : Int32)), .val (.ref b289), .val (.ref b294), .unset, .unset, .unset, .unset, .unset, .unset] [(.ref b297)])
          refine Goes.by (g' := (mkF m 99 #[.val (.int p0), .val (.int (1 : Int32)), .val (.int (1 : Int32)), .val (.int (1 : Int32)), .val (.int (1 : Int32)), .val (.ref b289), .val (.ref b294), .val (.ref b297), .unset, .unset, .unset, .unset, .unset] [])) (fun _ q => XS.astore X.here X.hx rfl (hb hby at_97) rfl rfl (l' := #[.val (.int p0), .val (.int (1 : Int32)), .val (.int (1 : Int32)), .val (.int (1 : Int32)), .val (.int (1 : Int32)), .val (.ref b289), .val (.ref b294), .val (.ref b297), .unset, .unset, .unset, .unset, .unset]) rfl q) ?_
          refine Goes.by (g' := (mkF m 101 #[.val (.int p0), .val (.int (1 : Int32)), .val (.int (1 : Int32)), .val (.int (1 : Int32)), .val (.int (1 : Int32)), .val (.ref b289), .val (.ref b294), .val (.ref b297), .unset, .unset, .unset, .unset, .unset] [(.ref b289)])) (fun _ q => XS.aload X.here X.hx rfl (hb hby at_99) rfl rfl q) ?_
          have X_o := X
          refine X.callV E_b289 (hw _ (List.mem_of_getElem? (i := 100) rfl)) (hw _ (List.mem_of_getElem? (i := 101) rfl)) (hw _ (List.mem_of_getElem? (i := 103) rfl)) (hw _ (List.mem_of_getElem? (i := 103) rfl)) rfl (hw _ (List.mem_of_getElem? (i := 102) rfl)) (hw _ (List.mem_of_getElem? (i := 2) rfl)) (hw _ (List.mem_of_getElem? (i := 104) rfl)) (by decide) pd_2544813166 (argsL := []) rfl (rm_getMutations l Z a0 hw n0 h299 X.n0le b289 mu  F_b289_mutations) (by rw [hml]; rfl) rfl (by decide) (leB rfl) (hb hby at_101) (by decide) (by decide) (fun T h300 v X hQ => ?_)
          obtain ⟨rfl, hh⟩ := hQ
          rw [hh] at X
          clear hh
          show Goes _ _ _ _ _ _ _ _ T (mkF m 104 #[.val (.int p0), .val (.int (1 : Int32)), .val (.int (1 : Int32)), .val (.int (1 : Int32)), .val (.int (1 : Int32)), .val (.ref b289), .val (.ref b294), .val (.ref b297), .unset, .unset, .unset, .unset, .unset] [(.ref mu)])
          refine Goes.by (g' := (mkF m 106 #[.val (.int p0), .val (.int (1 : Int32)), .val (.int (1 : Int32)), .val (.int (1 : Int32)), .val (.int (1 : Int32)), .val (.ref b289), .val (.ref b294), .val (.ref b297), .val (.ref mu), .unset, .unset, .unset, .unset] [])) (fun _ q => XS.astore X.here X.hx rfl (hb hby at_104) rfl rfl (l' := #[.val (.int p0), .val (.int (1 : Int32)), .val (.int (1 : Int32)), .val (.int (1 : Int32)), .val (.int (1 : Int32)), .val (.ref b289), .val (.ref b294), .val (.ref b297), .val (.ref mu), .unset, .unset, .unset, .unset]) rfl q) ?_
          refine Goes.by (g' := (mkF m 108 #[.val (.int p0), .val (.int (1 : Int32)), .val (.int (1 : Int32)), .val (.int (1 : Int32)), .val (.int (1 : Int32)), .val (.ref b289), .val (.ref b294), .val (.ref b297), .val (.ref mu), .unset, .unset, .unset, .unset] [(.ref mu)])) (fun _ q => XS.aload X.here X.hx rfl (hb hby at_106) rfl rfl q) ?_
          refine Goes.by (g' := (mkF m 111 #[.val (.int p0), .val (.int (1 : Int32)), .val (.int (1 : Int32)), .val (.int (1 : Int32)), .val (.int (1 : Int32)), .val (.ref b289), .val (.ref b294), .val (.ref b297), .val (.ref mu), .unset, .unset, .unset, .unset] [])) (fun _ q => XS.ifnullNo X.here X.hx rfl (hb hby at_108) rfl q) ?_
          refine Goes.by (g' := (mkF m 113 #[.val (.int p0), .val (.int (1 : Int32)), .val (.int (1 : Int32)), .val (.int (1 : Int32)), .val (.int (1 : Int32)), .val (.ref b289), .val (.ref b294), .val (.ref b297), .val (.ref mu), .unset, .unset, .unset, .unset] [(.ref mu)])) (fun _ q => XS.aload X.here X.hx rfl (hb hby at_111) rfl rfl q) ?_
          refine Goes.by (g' := (mkF m 115 #[.val (.int p0), .val (.int (1 : Int32)), .val (.int (1 : Int32)), .val (.int (1 : Int32)), .val (.int (1 : Int32)), .val (.ref b289), .val (.ref b294), .val (.ref b297), .val (.ref mu), .unset, .unset, .unset, .unset] [(.ref b294), (.ref mu)])) (fun _ q => XS.aload X.here X.hx rfl (hb hby at_113) rfl rfl q) ?_
          refine X.acmp rfl rfl (cd := .eq) (x := (.ref mu)) (y := (.ref b294)) (same := false) (pc' := 118) (hb hby at_115) (decide_eq_false fun q => ne_mu_b294 (Value.ref.inj q)) (by decide) (by decide) ?_
          show Goes _ _ _ _ _ _ _ _ T (mkF m 118 #[.val (.int p0), .val (.int (1 : Int32)), .val (.int (1 : Int32)), .val (.int (1 : Int32)), .val (.int (1 : Int32)), .val (.ref b289), .val (.ref b294), .val (.ref b297), .val (.ref mu), .unset, .unset, .unset, .unset] [])
          refine Goes.by (g' := (mkF m 120 #[.val (.int p0), .val (.int (1 : Int32)), .val (.int (1 : Int32)), .val (.int (1 : Int32)), .val (.int (1 : Int32)), .val (.ref b289), .val (.ref b294), .val (.ref b297), .val (.ref mu), .unset, .unset, .unset, .unset] [(.ref mu)])) (fun _ q => XS.aload X.here X.hx rfl (hb hby at_118) rfl rfl q) ?_
          refine Goes.by (g' := (mkF m 122 #[.val (.int p0), .val (.int (1 : Int32)), .val (.int (1 : Int32)), .val (.int (1 : Int32)), .val (.int (1 : Int32)), .val (.ref b289), .val (.ref b294), .val (.ref b297), .val (.ref mu), .unset, .unset, .unset, .unset] [(.ref b297), (.ref mu)])) (fun _ q => XS.aload X.here X.hx rfl (hb hby at_120) rfl rfl q) ?_
          refine X.acmp rfl rfl (cd := .eq) (x := (.ref mu)) (y := (.ref b297)) (same := false) (pc' := 125) (hb hby at_122) (decide_eq_false fun q => ne_mu_b297 (Value.ref.inj q)) (by decide) (by decide) ?_
          show Goes _ _ _ _ _ _ _ _ T (mkF m 125 #[.val (.int p0), .val (.int (1 : Int32)), .val (.int (1 : Int32)), .val (.int (1 : Int32)), .val (.int (1 : Int32)), .val (.ref b289), .val (.ref b294), .val (.ref b297), .val (.ref mu), .unset, .unset, .unset, .unset] [])
          refine Goes.by (g' := (mkF m 126 #[.val (.int p0), .val (.int (1 : Int32)), .val (.int (1 : Int32)), .val (.int (1 : Int32)), .val (.int (1 : Int32)), .val (.ref b289), .val (.ref b294), .val (.ref b297), .val (.ref mu), .unset, .unset, .unset, .unset] [(.int (1 : Int32))])) (fun _ q => XS.iconst X.here X.hx rfl (hb hby at_125) q) ?_
          refine Goes.by (g' := (mkF m 130 #[.val (.int p0), .val (.int (1 : Int32)), .val (.int (1 : Int32)), .val (.int (1 : Int32)), .val (.int (1 : Int32)), .val (.ref b289), .val (.ref b294), .val (.ref b297), .val (.ref mu), .unset, .unset, .unset, .unset] [(.int (1 : Int32))])) (fun _ q => XS.goto X.here X.hx rfl (pc0 := 126) (pc' := 130) rfl (hb hby at_126) (by decide) (by decide) q) ?_
          refine Goes.by (g' := (mkF m 132 #[.val (.int p0), .val (.int (1 : Int32)), .val (.int (1 : Int32)), .val (.int (1 : Int32)), .val (.int (1 : Int32)), .val (.ref b289), .val (.ref b294), .val (.ref b297), .val (.ref mu), .val (.int (1 : Int32)), .unset, .unset, .unset] [])) (fun _ q => XS.istore X.here X.hx rfl (hb hby at_130) rfl (l' := #[.val (.int p0), .val (.int (1 : Int32)), .val (.int (1 : Int32)), .val (.int (1 : Int32)), .val (.int (1 : Int32)), .val (.ref b289), .val (.ref b294), .val (.ref b297), .val (.ref mu), .val (.int (1 : Int32)), .unset, .unset, .unset]) rfl q) ?_
          refine Goes.by (g' := (mkF m 133 #[.val (.int p0), .val (.int (1 : Int32)), .val (.int (1 : Int32)), .val (.int (1 : Int32)), .val (.int (1 : Int32)), .val (.ref b289), .val (.ref b294), .val (.ref b297), .val (.ref mu), .val (.int (1 : Int32)), .unset, .unset, .unset] [(.int (1 : Int32))])) (fun _ q => XS.iloadN X.here X.hx rfl (hb hby at_132) rfl q) ?_
          refine Goes.by (g' := (mkF m 136 #[.val (.int p0), .val (.int (1 : Int32)), .val (.int (1 : Int32)), .val (.int (1 : Int32)), .val (.int (1 : Int32)), .val (.ref b289), .val (.ref b294), .val (.ref b297), .val (.ref mu), .val (.int (1 : Int32)), .unset, .unset, .unset] [])) (fun _ q => XS.ifNo X.here X.hx rfl (hb hby at_133) rfl ((if0 _ _).trans (feq (show ¬ (1 : Int32) = (0 : Int32) from (by decide))).1) q) ?_
          refine Goes.by (g' := (mkF m 138 #[.val (.int p0), .val (.int (1 : Int32)), .val (.int (1 : Int32)), .val (.int (1 : Int32)), .val (.int (1 : Int32)), .val (.ref b289), .val (.ref b294), .val (.ref b297), .val (.ref mu), .val (.int (1 : Int32)), .unset, .unset, .unset] [(.ref b289)])) (fun _ q => XS.aload X.here X.hx rfl (hb hby at_136) rfl rfl q) ?_
          refine Goes.by (g' := (mkF m 140 #[.val (.int p0), .val (.int (1 : Int32)), .val (.int (1 : Int32)), .val (.int (1 : Int32)), .val (.int (1 : Int32)), .val (.ref b289), .val (.ref b294), .val (.ref b297), .val (.ref mu), .val (.int (1 : Int32)), .unset, .unset, .unset] [(.int (1 : Int32)), (.ref b289)])) (fun _ q => XS.iload X.here X.hx rfl (hb hby at_138) rfl q) ?_
          refine Goes.by (g' := (mkF m 143 #[.val (.int p0), .val (.int (1 : Int32)), .val (.int (1 : Int32)), .val (.int (1 : Int32)), .val (.int (1 : Int32)), .val (.ref b289), .val (.ref b294), .val (.ref b297), .val (.ref mu), .val (.int (1 : Int32)), .unset, .unset, .unset] [(.ref b289)])) (fun _ q => XS.ifNo X.here X.hx rfl (hb hby at_140) rfl ((if0 _ _).trans (feq (show ¬ (1 : Int32) = (0 : Int32) from (by decide))).1) q) ?_
          refine Goes.by (g' := (mkF m 145 #[.val (.int p0), .val (.int (1 : Int32)), .val (.int (1 : Int32)), .val (.int (1 : Int32)), .val (.int (1 : Int32)), .val (.ref b289), .val (.ref b294), .val (.ref b297), .val (.ref mu), .val (.int (1 : Int32)), .unset, .unset, .unset] [(.ref b297), (.ref b289)])) (fun _ q => XS.aload X.here X.hx rfl (hb hby at_143) rfl rfl q) ?_
          refine Goes.by (g' := (mkF m 150 #[.val (.int p0), .val (.int (1 : Int32)), .val (.int (1 : Int32)), .val (.int (1 : Int32)), .val (.int (1 : Int32)), .val (.ref b289), .val (.ref b294), .val (.ref b297), .val (.ref mu), .val (.int (1 : Int32)), .unset, .unset, .unset] [(.ref b297), (.ref b289)])) (fun _ q => XS.goto X.here X.hx rfl (pc0 := 145) (pc' := 150) rfl (hb hby at_145) (by decide) (by decide) q) ?_
          have X_o := X
          refine X.callV E_b289 (hw _ (List.mem_of_getElem? (i := 105) rfl)) (hw _ (List.mem_of_getElem? (i := 106) rfl)) (hw _ (List.mem_of_getElem? (i := 108) rfl)) (hw _ (List.mem_of_getElem? (i := 103) rfl)) rfl (hw _ (List.mem_of_getElem? (i := 107) rfl)) (hw _ (List.mem_of_getElem? (i := 2) rfl)) (hw _ (List.mem_of_getElem? (i := 109) rfl)) (by decide) pd_2932898788 (argsL := [(.ref b297)]) rfl (rm_setMutations l Z a0 hw n0 h299 X.n0le b289 b297 (.ref mu) ga_b289 E_b289 E_b297 F_b289_mutations (.ref a_FORCE) F_b289_durability (.int (1 : Int32)) F_b289_allowCreate) (by rw [hml]; rfl) rfl (by decide) (leB rfl) (hb hby at_150) (by decide) (by decide) (fun T h301 v X hQ => ?_)
          obtain ⟨rfl, K, F_b289_mutations, F_b289_durability, F_b289_allowCreate⟩ := hQ
          have O_ := O_.keep K (allS ga_b289 all0)
          have E_b289 := E_b289.keep K
          have E_mu := E_mu.keep K
          have E_b294 := E_b294.keep K
          have E_b297 := E_b297.keep K
          show Goes _ _ _ _ _ _ _ _ T (mkF m 153 #[.val (.int p0), .val (.int (1 : Int32)), .val (.int (1 : Int32)), .val (.int (1 : Int32)), .val (.int (1 : Int32)), .val (.ref b289), .val (.ref b294), .val (.ref b297), .val (.ref mu), .val (.int (1 : Int32)), .unset, .unset, .unset] [])
          refine Goes.by (g' := (mkF m 155 #[.val (.int p0), .val (.int (1 : Int32)), .val (.int (1 : Int32)), .val (.int (1 : Int32)), .val (.int (1 : Int32)), .val (.ref b289), .val (.ref b294), .val (.ref b297), .val (.ref mu), .val (.int (1 : Int32)), .unset, .unset, .unset] [(.int (1 : Int32))])) (fun _ q => XS.iload X.here X.hx rfl (hb hby at_153) rfl q) ?_
          refine Goes.by (g' := (mkF m 158 #[.val (.int p0), .val (.int (1 : Int32)), .val (.int (1 : Int32)), .val (.int (1 : Int32)), .val (.int (1 : Int32)), .val (.ref b289), .val (.ref b294), .val (.ref b297), .val (.ref mu), .val (.int (1 : Int32)), .unset, .unset, .unset] [])) (fun _ q => XS.ifNo X.here X.hx rfl (hb hby at_155) rfl ((if0 _ _).trans (feq (show ¬ (1 : Int32) = (0 : Int32) from (by decide))).1) q) ?_
          refine Goes.by (g' := (mkF m 160 #[.val (.int p0), .val (.int (1 : Int32)), .val (.int (1 : Int32)), .val (.int (1 : Int32)), .val (.int (1 : Int32)), .val (.ref b289), .val (.ref b294), .val (.ref b297), .val (.ref mu), .val (.int (1 : Int32)), .unset, .unset, .unset] [(.ref b294)])) (fun _ q => XS.aload X.here X.hx rfl (hb hby at_158) rfl rfl q) ?_
          refine Goes.by (g' := (mkF m 165 #[.val (.int p0), .val (.int (1 : Int32)), .val (.int (1 : Int32)), .val (.int (1 : Int32)), .val (.int (1 : Int32)), .val (.ref b289), .val (.ref b294), .val (.ref b297), .val (.ref mu), .val (.int (1 : Int32)), .unset, .unset, .unset] [(.ref b294)])) (fun _ q => XS.goto X.here X.hx rfl (pc0 := 160) (pc' := 165) rfl (hb hby at_160) (by decide) (by decide) q) ?_
          refine Goes.by (g' := (mkF m 167 #[.val (.int p0), .val (.int (1 : Int32)), .val (.int (1 : Int32)), .val (.int (1 : Int32)), .val (.int (1 : Int32)), .val (.ref b289), .val (.ref b294), .val (.ref b297), .val (.ref mu), .val (.int (1 : Int32)), .val (.ref b294), .unset, .unset] [])) (fun _ q => XS.astore X.here X.hx rfl (hb hby at_165) rfl rfl (l' := #[.val (.int p0), .val (.int (1 : Int32)), .val (.int (1 : Int32)), .val (.int (1 : Int32)), .val (.int (1 : Int32)), .val (.ref b289), .val (.ref b294), .val (.ref b297), .val (.ref mu), .val (.int (1 : Int32)), .val (.ref b294), .unset, .unset]) rfl q) ?_
          refine Goes.by (g' := (mkF m 169 #[.val (.int p0), .val (.int (1 : Int32)), .val (.int (1 : Int32)), .val (.int (1 : Int32)), .val (.int (1 : Int32)), .val (.ref b289), .val (.ref b294), .val (.ref b297), .val (.ref mu), .val (.int (1 : Int32)), .val (.ref b294), .unset, .unset] [(.ref b289)])) (fun _ q => XS.aload X.here X.hx rfl (hb hby at_167) rfl rfl q) ?_
          refine Goes.by (g' := (mkF m 171 #[.val (.int p0), .val (.int (1 : Int32)), .val (.int (1 : Int32)), .val (.int (1 : Int32)), .val (.int (1 : Int32)), .val (.ref b289), .val (.ref b294), .val (.ref b297), .val (.ref mu), .val (.int (1 : Int32)), .val (.ref b294), .unset, .unset] [(.ref b294), (.ref b289)])) (fun _ q => XS.aload X.here X.hx rfl (hb hby at_169) rfl rfl q) ?_
          have X_o := X
          refine X.callV E_b289 (hw _ (List.mem_of_getElem? (i := 105) rfl)) (hw _ (List.mem_of_getElem? (i := 106) rfl)) (hw _ (List.mem_of_getElem? (i := 108) rfl)) (hw _ (List.mem_of_getElem? (i := 103) rfl)) rfl (hw _ (List.mem_of_getElem? (i := 107) rfl)) (hw _ (List.mem_of_getElem? (i := 2) rfl)) (hw _ (List.mem_of_getElem? (i := 109) rfl)) (by decide) pd_2932898788 (argsL := [(.ref b294)]) rfl (rm_setMutations l Z a0 hw n0 h301 X.n0le b289 b294 (.ref b297) ga_b289 E_b289 E_b294 F_b289_mutations (.ref a_FORCE) F_b289_durability (.int (1 : Int32)) F_b289_allowCreate) (by rw [hml]; rfl) rfl (by decide) (leB rfl) (hb hby at_171) (by decide) (by decide) (fun T h302 v X hQ => ?_)
          obtain ⟨rfl, K, F_b289_mutations, F_b289_durability, F_b289_allowCreate⟩ := hQ
          have O_ := O_.keep K (allS ga_b289 all0)
          have E_b289 := E_b289.keep K
          have E_mu := E_mu.keep K
          have E_b294 := E_b294.keep K
          have E_b297 := E_b297.keep K
          show Goes _ _ _ _ _ _ _ _ T (mkF m 174 #[.val (.int p0), .val (.int (1 : Int32)), .val (.int (1 : Int32)), .val (.int (1 : Int32)), .val (.int (1 : Int32)), .val (.ref b289), .val (.ref b294), .val (.ref b297), .val (.ref mu), .val (.int (1 : Int32)), .val (.ref b294), .unset, .unset] [])
          refine Goes.by (g' := (mkF m 176 #[.val (.int p0), .val (.int (1 : Int32)), .val (.int (1 : Int32)), .val (.int (1 : Int32)), .val (.int (1 : Int32)), .val (.ref b289), .val (.ref b294), .val (.ref b297), .val (.ref mu), .val (.int (1 : Int32)), .val (.ref b294), .unset, .unset] [(.ref b289)])) (fun _ q => XS.aload X.here X.hx rfl (hb hby at_174) rfl rfl q) ?_
          have X_o := X
          refine X.callV E_b289 (hw _ (List.mem_of_getElem? (i := 100) rfl)) (hw _ (List.mem_of_getElem? (i := 101) rfl)) (hw _ (List.mem_of_getElem? (i := 103) rfl)) (hw _ (List.mem_of_getElem? (i := 103) rfl)) rfl (hw _ (List.mem_of_getElem? (i := 102) rfl)) (hw _ (List.mem_of_getElem? (i := 2) rfl)) (hw _ (List.mem_of_getElem? (i := 104) rfl)) (by decide) pd_2544813166 (argsL := []) rfl (rm_getMutations l Z a0 hw n0 h302 X.n0le b289 b294  F_b289_mutations) (by rw [hml]; rfl) rfl (by decide) (leB rfl) (hb hby at_176) (by decide) (by decide) (fun T h303 v X hQ => ?_)
          obtain ⟨rfl, hh⟩ := hQ
          rw [hh] at X
          clear hh
          show Goes _ _ _ _ _ _ _ _ T (mkF m 179 #[.val (.int p0), .val (.int (1 : Int32)), .val (.int (1 : Int32)), .val (.int (1 : Int32)), .val (.int (1 : Int32)), .val (.ref b289), .val (.ref b294), .val (.ref b297), .val (.ref mu), .val (.int (1 : Int32)), .val (.ref b294), .unset, .unset] [(.ref b294)])
          refine Goes.by (g' := (mkF m 181 #[.val (.int p0), .val (.int (1 : Int32)), .val (.int (1 : Int32)), .val (.int (1 : Int32)), .val (.int (1 : Int32)), .val (.ref b289), .val (.ref b294), .val (.ref b297), .val (.ref mu), .val (.int (1 : Int32)), .val (.ref b294), .val (.ref b294), .unset] [])) (fun _ q => XS.astore X.here X.hx rfl (hb hby at_179) rfl rfl (l' := #[.val (.int p0), .val (.int (1 : Int32)), .val (.int (1 : Int32)), .val (.int (1 : Int32)), .val (.int (1 : Int32)), .val (.ref b289), .val (.ref b294), .val (.ref b297), .val (.ref mu), .val (.int (1 : Int32)), .val (.ref b294), .val (.ref b294), .unset]) rfl q) ?_
          refine Goes.by (g' := (mkF m 182 #[.val (.int p0), .val (.int (1 : Int32)), .val (.int (1 : Int32)), .val (.int (1 : Int32)), .val (.int (1 : Int32)), .val (.ref b289), .val (.ref b294), .val (.ref b297), .val (.ref mu), .val (.int (1 : Int32)), .val (.ref b294), .val (.ref b294), .unset] [(.int (1 : Int32))])) (fun _ q => XS.iloadN X.here X.hx rfl (hb hby at_181) rfl q) ?_
          refine Goes.by (g' := (mkF m 185 #[.val (.int p0), .val (.int (1 : Int32)), .val (.int (1 : Int32)), .val (.int (1 : Int32)), .val (.int (1 : Int32)), .val (.ref b289), .val (.ref b294), .val (.ref b297), .val (.ref mu), .val (.int (1 : Int32)), .val (.ref b294), .val (.ref b294), .unset] [])) (fun _ q => XS.ifNo X.here X.hx rfl (hb hby at_182) rfl ((if0 _ _).trans (feq (show ¬ (1 : Int32) = (0 : Int32) from (by decide))).1) q) ?_
          refine X.getS (Or.inl (hw _ (List.mem_of_getElem? (i := 141) rfl))) (host := "") Via.refl (S_FORCE.ext O_.2) (hb hby at_185) (fun T X => ?_)
          show Goes _ _ _ _ _ _ _ _ T (mkF m 188 #[.val (.int p0), .val (.int (1 : Int32)), .val (.int (1 : Int32)), .val (.int (1 : Int32)), .val (.int (1 : Int32)), .val (.ref b289), .val (.ref b294), .val (.ref b297), .val (.ref mu), .val (.int (1 : Int32)), .val (.ref b294), .val (.ref b294), .unset] [(.ref a_FORCE)])
          refine Goes.by (g' := (mkF m 194 #[.val (.int p0), .val (.int (1 : Int32)), .val (.int (1 : Int32)), .val (.int (1 : Int32)), .val (.int (1 : Int32)), .val (.ref b289), .val (.ref b294), .val (.ref b297), .val (.ref mu), .val (.int (1 : Int32)), .val (.ref b294), .val (.ref b294), .unset] [(.ref a_FORCE)])) (fun _ q => XS.goto X.here X.hx rfl (pc0 := 188) (pc' := 194) rfl (hb hby at_188) (by decide) (by decide) q) ?_
          refine Goes.by (g' := (mkF m 196 #[.val (.int p0), .val (.int (1 : Int32)), .val (.int (1 : Int32)), .val (.int (1 : Int32)), .val (.int (1 : Int32)), .val (.ref b289), .val (.ref b294), .val (.ref b297), .val (.ref mu), .val (.int (1 : Int32)), .val (.ref b294), .val (.ref b294), .val (.ref a_FORCE)] [])) (fun _ q => XS.astore X.here X.hx rfl (hb hby at_194) rfl rfl (l' := #[.val (.int p0), .val (.int (1 : Int32)), .val (.int (1 : Int32)), .val (.int (1 : Int32)), .val (.int (1 : Int32)), .val (.ref b289), .val (.ref b294), .val (.ref b297), .val (.ref mu), .val (.int (1 : Int32)), .val (.ref b294), .val (.ref b294), .val (.ref a_FORCE)]) rfl q) ?_
          refine Goes.by (g' := (mkF m 198 #[.val (.int p0), .val (.int (1 : Int32)), .val (.int (1 : Int32)), .val (.int (1 : Int32)), .val (.int (1 : Int32)), .val (.ref b289), .val (.ref b294), .val (.ref b297), .val (.ref mu), .val (.int (1 : Int32)), .val (.ref b294), .val (.ref b294), .val (.ref a_FORCE)] [(.int (1 : Int32))])) (fun _ q => XS.iload X.here X.hx rfl (hb hby at_196) rfl q) ?_
          refine Goes.by (g' := (mkF m 201 #[.val (.int p0), .val (.int (1 : Int32)), .val (.int (1 : Int32)), .val (.int (1 : Int32)), .val (.int (1 : Int32)), .val (.ref b289), .val (.ref b294), .val (.ref b297), .val (.ref mu), .val (.int (1 : Int32)), .val (.ref b294), .val (.ref b294), .val (.ref a_FORCE)] [])) (fun _ q => XS.ifNo X.here X.hx rfl (hb hby at_198) rfl ((if0 _ _).trans (feq (show ¬ (1 : Int32) = (0 : Int32) from (by decide))).1) q) ?_
          refine Goes.by (g' := (mkF m 203 #[.val (.int p0), .val (.int (1 : Int32)), .val (.int (1 : Int32)), .val (.int (1 : Int32)), .val (.int (1 : Int32)), .val (.ref b289), .val (.ref b294), .val (.ref b297), .val (.ref mu), .val (.int (1 : Int32)), .val (.ref b294), .val (.ref b294), .val (.ref a_FORCE)] [(.ref b294)])) (fun _ q => XS.aload X.here X.hx rfl (hb hby at_201) rfl rfl q) ?_
          refine Goes.by (g' := (mkF m 205 #[.val (.int p0), .val (.int (1 : Int32)), .val (.int (1 : Int32)), .val (.int (1 : Int32)), .val (.int (1 : Int32)), .val (.ref b289), .val (.ref b294), .val (.ref b297), .val (.ref mu), .val (.int (1 : Int32)), .val (.ref b294), .val (.ref b294), .val (.ref a_FORCE)] [(.ref b294), (.ref b294)])) (fun _ q => XS.aload X.here X.hx rfl (hb hby at_203) rfl rfl q) ?_
          refine X.acmp rfl rfl (cd := .ne) (x := (.ref b294)) (y := (.ref b294)) (same := true) (pc' := 208) (hb hby at_205) (decide_eq_true rfl) (by decide) (by decide) ?_
          show Goes _ _ _ _ _ _ _ _ T (mkF m 208 #[.val (.int p0), .val (.int (1 : Int32)), .val (.int (1 : Int32)), .val (.int (1 : Int32)), .val (.int (1 : Int32)), .val (.ref b289), .val (.ref b294), .val (.ref b297), .val (.ref mu), .val (.int (1 : Int32)), .val (.ref b294), .val (.ref b294), .val (.ref a_FORCE)] [])
          refine Goes.by (g' := (mkF m 210 #[.val (.int p0), .val (.int (1 : Int32)), .val (.int (1 : Int32)), .val (.int (1 : Int32)), .val (.int (1 : Int32)), .val (.ref b289), .val (.ref b294), .val (.ref b297), .val (.ref mu), .val (.int (1 : Int32)), .val (.ref b294), .val (.ref b294), .val (.ref a_FORCE)] [(.ref b289)])) (fun _ q => XS.aload X.here X.hx rfl (hb hby at_208) rfl rfl q) ?_
          have X_o := X
          refine X.callV E_b289 (hw _ (List.mem_of_getElem? (i := 124) rfl)) (hw _ (List.mem_of_getElem? (i := 125) rfl)) (hw _ (List.mem_of_getElem? (i := 127) rfl)) (hw _ (List.mem_of_getElem? (i := 103) rfl)) rfl (hw _ (List.mem_of_getElem? (i := 126) rfl)) (hw _ (List.mem_of_getElem? (i := 2) rfl)) (hw _ (List.mem_of_getElem? (i := 128) rfl)) (by decide) pd_193422000 (argsL := []) rfl (rm_getAllowCreate l Z a0 hw n0 h302 X.n0le b289 (1 : Int32) (by decide) F_b289_allowCreate) (by rw [hml]; rfl) rfl (by decide) (leB rfl) (hb hby at_210) (by decide) (by decide) (fun T h304 v X hQ => ?_)
          obtain ⟨rfl, hh⟩ := hQ
          rw [hh] at X
          clear hh
          show Goes _ _ _ _ _ _ _ _ T (mkF m 213 #[.val (.int p0), .val (.int (1 : Int32)), .val (.int (1 : Int32)), .val (.int (1 : Int32)), .val (.int (1 : Int32)), .val (.ref b289), .val (.ref b294), .val (.ref b297), .val (.ref mu), .val (.int (1 : Int32)), .val (.ref b294), .val (.ref b294), .val (.ref a_FORCE)] [(.int (1 : Int32))])
          refine Goes.by (g' := (mkF m 214 #[.val (.int p0), .val (.int (1 : Int32)), .val (.int (1 : Int32)), .val (.int (1 : Int32)), .val (.int (1 : Int32)), .val (.ref b289), .val (.ref b294), .val (.ref b297), .val (.ref mu), .val (.int (1 : Int32)), .val (.ref b294), .val (.ref b294), .val (.ref a_FORCE)] [(.int (1 : Int32)), (.int (1 : Int32))])) (fun _ q => XS.iloadN X.here X.hx rfl (hb hby at_213) rfl q) ?_
          refine Goes.by (g' := (mkF m 217 #[.val (.int p0), .val (.int (1 : Int32)), .val (.int (1 : Int32)), .val (.int (1 : Int32)), .val (.int (1 : Int32)), .val (.ref b289), .val (.ref b294), .val (.ref b297), .val (.ref mu), .val (.int (1 : Int32)), .val (.ref b294), .val (.ref b294), .val (.ref a_FORCE)] [])) (fun _ q => XS.icmpNo X.here X.hx rfl (hb hby at_214) rfl (teq (show (1 : Int32) = (1 : Int32) from (by decide))).2 q) ?_
          refine Goes.by (g' := (mkF m 219 #[.val (.int p0), .val (.int (1 : Int32)), .val (.int (1 : Int32)), .val (.int (1 : Int32)), .val (.int (1 : Int32)), .val (.ref b289), .val (.ref b294), .val (.ref b297), .val (.ref mu), .val (.int (1 : Int32)), .val (.ref b294), .val (.ref b294), .val (.ref a_FORCE)] [(.ref b289)])) (fun _ q => XS.aload X.here X.hx rfl (hb hby at_217) rfl rfl q) ?_
          have X_o := X
          refine X.callV E_b289 (hw _ (List.mem_of_getElem? (i := 131) rfl)) (hw _ (List.mem_of_getElem? (i := 132) rfl)) (hw _ (List.mem_of_getElem? (i := 134) rfl)) (hw _ (List.mem_of_getElem? (i := 103) rfl)) rfl (hw _ (List.mem_of_getElem? (i := 133) rfl)) (hw _ (List.mem_of_getElem? (i := 2) rfl)) (hw _ (List.mem_of_getElem? (i := 135) rfl)) (by decide) pd_2323304547 (argsL := []) rfl (rm_getDurability l Z a0 hw n0 h302 X.n0le b289 a_FORCE  F_b289_durability) (by rw [hml]; rfl) rfl (by decide) (leB rfl) (hb hby at_219) (by decide) (by decide) (fun T h305 v X hQ => ?_)
          obtain ⟨rfl, hh⟩ := hQ
          rw [hh] at X
          clear hh
          show Goes _ _ _ _ _ _ _ _ T (mkF m 222 #[.val (.int p0), .val (.int (1 : Int32)), .val (.int (1 : Int32)), .val (.int (1 : Int32)), .val (.int (1 : Int32)), .val (.ref b289), .val (.ref b294), .val (.ref b297), .val (.ref mu), .val (.int (1 : Int32)), .val (.ref b294), .val (.ref b294), .val (.ref a_FORCE)] [(.ref a_FORCE)])
          refine Goes.by (g' := (mkF m 224 #[.val (.int p0), .val (.int (1 : Int32)), .val (.int (1 : Int32)), .val (.int (1 : Int32)), .val (.int (1 : Int32)), .val (.ref b289), .val (.ref b294), .val (.ref b297), .val (.ref mu), .val (.int (1 : Int32)), .val (.ref b294), .val (.ref b294), .val (.ref a_FORCE)] [(.ref a_FORCE), (.ref a_FORCE)])) (fun _ q => XS.aload X.here X.hx rfl (hb hby at_222) rfl rfl q) ?_
          refine X.acmp rfl rfl (cd := .ne) (x := (.ref a_FORCE)) (y := (.ref a_FORCE)) (same := true) (pc' := 227) (hb hby at_224) (decide_eq_true rfl) (by decide) (by decide) ?_
          show Goes _ _ _ _ _ _ _ _ T (mkF m 227 #[.val (.int p0), .val (.int (1 : Int32)), .val (.int (1 : Int32)), .val (.int (1 : Int32)), .val (.int (1 : Int32)), .val (.ref b289), .val (.ref b294), .val (.ref b297), .val (.ref mu), .val (.int (1 : Int32)), .val (.ref b294), .val (.ref b294), .val (.ref a_FORCE)] [])
          refine Goes.by (g' := (mkF m 228 #[.val (.int p0), .val (.int (1 : Int32)), .val (.int (1 : Int32)), .val (.int (1 : Int32)), .val (.int (1 : Int32)), .val (.ref b289), .val (.ref b294), .val (.ref b297), .val (.ref mu), .val (.int (1 : Int32)), .val (.ref b294), .val (.ref b294), .val (.ref a_FORCE)] [(.int (1 : Int32))])) (fun _ q => XS.iconst X.here X.hx rfl (hb hby at_227) q) ?_
          refine Goes.by (g' := (mkF m 232 #[.val (.int p0), .val (.int (1 : Int32)), .val (.int (1 : Int32)), .val (.int (1 : Int32)), .val (.int (1 : Int32)), .val (.ref b289), .val (.ref b294), .val (.ref b297), .val (.ref mu), .val (.int (1 : Int32)), .val (.ref b294), .val (.ref b294), .val (.ref a_FORCE)] [(.int (1 : Int32))])) (fun _ q => XS.goto X.here X.hx rfl (pc0 := 228) (pc' := 232) rfl (hb hby at_228) (by decide) (by decide) q) ?_
          exact X.retZ hret (hb hby at_232) (by decide) (by decide) rfl
set_option maxRecDepth 65536 in
set_option maxHeartbeats 40000000 in
theorem comes_1 {Post : Tables → Env → Array Value → State → Outcome → State → Prop} (hpost : ∀ tb e args s v u, (limb_1_1.after args s (.returned v) u = true ∧ limb_1_2.after args s (.returned v) u = true ∧ True) → EndF s (.returned v) u (Jvm.fieldLocs frame_1_writes args s ++ Jvm.arrayLocs frame_1_arrays args s ++ Jvm.staticLocs frame_1_statics s) 56 2432 → Post tb e args s (.returned v) u) :
    ArmFor flags0 classFile x code maxLocals ret World_1 tables_1 room_1 Calls_1 rest_1 Pre_1 Post := by
  intro l hfl _ _ p e ha hc hk s m args below hf hA hF happ hP
  obtain ⟨hcalls, hrest, hpre⟩ := hP
  obtain ⟨-, -, -, hnamed, -, -, -, hat⟩ := (Spec.applies_iff hf).mp happ
  obtain ⟨hg, hn⟩ := and_e (Cond.before_iff.mp (show (Jvm.Cond.and given_1 narrow_1).before args s = true from hpre))
  obtain ⟨hcount, hg⟩ := and_e hg
  obtain ⟨w0, rfl⟩ : ∃ w0 : Value, args = #[w0] := by
    have hs : args.size = 1 := by simpa [Cond.value, given_1] using hcount
    obtain ⟨L⟩ := args
    match L, hs with
    | [w0], _ => exact ⟨w0, rfl⟩
  have hg0 := hg
  obtain ⟨p0, ep0⟩ := is_v hg0
  obtain rfl : w0 = (.int p0) := Option.some.inj ep0
  have hw := fun d (hd : d ∈ tables_1) => atoms_spec (ws := Jvm.Cond.code x code maxLocals ret :: tables_1) hat d (List.mem_cons_of_mem _ hd)
  have hfit : Fit s := fun {y c} hc i hi => by
    obtain ⟨ha, rfl⟩ := Array.getElem?_eq_some_iff.mp hc
    have q := List.all_eq_true.mp ((Array.all_eq_true_iff_forall_mem.mp hF) _ (Array.getElem_mem ha)) i (List.mem_range.mpr hi)
    simpa [Array.getElem?_eq_getElem hi] using q
  obtain ⟨c0, hn⟩ := and_e hn
  have c1 := hn
  obtain ⟨a_WRITE, e_WRITE⟩ := exa_v c0
  have E_WRITE := Exa.start e_WRITE c0
  have S_WRITE : Sta s s.heap "com/example/hafiza/hafiza/Durability" "WRITE" "Lcom/example/hafiza/hafiza/Durability;" (.ref a_WRITE) := Sta.start e_WRITE (Or.inr ⟨(hw _ (List.mem_of_getElem? (i := 94) rfl)), (hw _ (List.mem_of_getElem? (i := 95) rfl))⟩)
  obtain ⟨a_FORCE, e_FORCE⟩ := exa_v c1
  have E_FORCE := Exa.start e_FORCE c1
  have S_FORCE : Sta s s.heap "com/example/hafiza/hafiza/Durability" "FORCE" "Lcom/example/hafiza/hafiza/Durability;" (.ref a_FORCE) := Sta.start e_FORCE (Or.inr ⟨(hw _ (List.mem_of_getElem? (i := 94) rfl)), (hw _ (List.mem_of_getElem? (i := 142) rfl))⟩)
  obtain ⟨n, o, h1, h2, h3, _, L, rfl, ⟨N, rfl⟩, hq⟩ := rm0 l s _ hw s.heap.size s.heap (Nat.le_refl _) tables_1 p0 a_WRITE S_WRITE E_WRITE a_FORCE S_FORCE E_FORCE (Old.start s) p e ha hc hk s m _ below hf ((Spec.applies_iff_loose hf).mp happ).1 ⟨rfl, State.Warmed39.refl s, rfl⟩ trivial
  refine ⟨n, _, h1, h2, h3, hpost _ _ _ _ _ _ ⟨Cond.after_iff.mpr rfl, Cond.after_iff.mpr (eq_i res_at (Term.int_eval (1)) rfl), trivial⟩ ⟨hq.1, hq.2.1, hq.2.2.1, (hq.2.2.2.sift fun y hy => Or.inr (N y hy)).mono (by decide) (by decide)⟩⟩
theorem main_1_1 : Claimed_1_1 := comes_1 fun _ _ _ _ _ _ h hF => ⟨h.1, hF⟩
theorem main_1_2 : Claimed_1_2 := comes_1 fun _ _ _ _ _ _ h hF => ⟨h.2.1, hF⟩
end Jvm.Pilot.@@N@@
namespace Jvm.Pilot.@@N@@
open Jvm Jvm.ClassFile Sem Op Lib Jvm.Free Jvm.Stand Jvm.Pilot.@@N@@.Jvm.D
/-! MADE BY PROGRAM (witnessworld.py) out of the Statement's table words and the real class files: 35 classes; the members and pool entries that the words name. The judged class is class 1, her method 1. -/
namespace start1
open Jvm.ClassFile
def u (s : String) : CpInfo := .utf8 (stringToUtf16 s)
/-- a pool by its gaps: so many unusable entries, then the entry; so many at the end -/
def gap : Nat → List CpInfo → List CpInfo
  | 0, r => r
  | n + 1, r => .unusable :: gap n r
def poolList (es : List (Nat × CpInfo)) (last : Nat) : List CpInfo := es.foldr (fun e r => gap e.1 (e.2 :: r)) (gap last [])
def pool (es : List (Nat × CpInfo)) (last : Nat) : Array CpInfo := ⟨poolList es last⟩
def fileOf (pool : Array CpInfo) (this : Nat) (attrs : Array Attribute := #[]) (ms : Array MethodInfo := #[]) (fl : Nat := 33) (sup : Nat := 0) (ifs : Array Nat := #[]) (fds : Array FieldInfo := #[]) : ClassFile where
  minorVersion := 0
  majorVersion := 65
  constantPool := pool
  accessFlags := fl
  thisClass := this
  superClass := sup
  interfaces := ifs
  fields := fds
  methods := ms
  attributes := attrs
def plain (name : String) (sup : Option ClassId) : Class where
  name := name
  kind := .ordinary
  loader := none
  accessFlags := 33
  super := sup
  interfaces := #[]
  cf := none
  fields := #[]
  methods := #[]
  instanceTypes := #[]
  staticTypes := #[]
  resolved := #[]
  callSites := []
  init := .initialized
  statics := none
  mirror := none

def pool0 : Array CpInfo := pool [(5, u "<init>"), (0, u "()V"), (1, .class_ 10), (1, u "java/lang/Object")] 113

def k0c0 : Code := { maxStack := 0, maxLocals := 1, code := object_method_1_code, exceptionTable := #[], attributes := #[] }
def k0m0 : Method := { name := "<init>", desc := "()V", sig := { parameters := [], returnType := none }, accessFlags := 1, code := some k0c0 }
/-- java/lang/Object -/
def k0 : Class := { plain "java/lang/Object" none with
  accessFlags := 33
  interfaces := #[]
  cf := some (fileOf pool0 8 #[] #[{ accessFlags := 1, nameIndex := 5, descriptorIndex := 6, attributes := #[] }] 33 0 #[] #[])
  fields := #[]
  methods := #[k0m0]
  instanceTypes := #[]
  staticTypes := #[]
  resolved := Array.replicate 124 none
  statics := none }

def pool1 : Array CpInfo := pool [(2, .class_ 4), (0, .nameAndType 5 6), (0, u "java/lang/Object"), (0, u "<init>"), (0, u "()V"), (0, .class_ 8), (0, u "com/example/hafiza/hafiza/StoreConfig"), (0, .methodref 7 3), (0, .methodref 7 11), (0, .nameAndType 12 13), (0, u "setAllowCreate"), (0, u "(Z)V"), (0, .fieldref 15 16), (0, .class_ 17), (0, .nameAndType 18 19), (0, u "com/example/hafiza/hafiza/Durability"), (0, u "FORCE"), (0, u "Lcom/example/hafiza/hafiza/Durability;"), (0, .methodref 7 21), (0, .nameAndType 22 23), (0, u "setDurability"), (0, u "(Lcom/example/hafiza/hafiza/Durability;)V"), (0, .class_ 25), (0, u "com/example/hafiza/hafiza/Mutations"), (0, .methodref 24 3), (0, .methodref 7 28), (0, .nameAndType 29 30), (0, u "getMutations"), (0, u "()Lcom/example/hafiza/hafiza/Mutations;"), (0, .methodref 7 32), (0, .nameAndType 33 34), (0, u "setMutations"), (0, u "(Lcom/example/hafiza/hafiza/Mutations;)V"), (0, .fieldref 15 36), (0, .nameAndType 37 19), (0, u "WRITE"), (0, .methodref 7 39), (0, .nameAndType 40 41), (0, u "getAllowCreate"), (0, u "()Z"), (0, .methodref 7 43), (0, .nameAndType 44 45), (0, u "getDurability"), (0, u "()Lcom/example/hafiza/hafiza/Durability;"), (0, .class_ 47), (0, u "com/example/hafiza/hafiza/StoreConfigSetMutationsPinLaw"), (2, u "law"), (0, u "(I)Z")] 3

def k1m0 : Method := { name := "<init>", desc := "()V", sig := { parameters := [], returnType := none }, accessFlags := 1, code := none }
def k1c1 : Code := { maxStack := 2, maxLocals := 13, code := code, exceptionTable := #[], attributes := #[] }
def k1m1 : Method := { name := "law", desc := "(I)Z", sig := { parameters := [.int], returnType := some .boolean }, accessFlags := 9, code := some k1c1 }
/-- com/example/hafiza/hafiza/StoreConfigSetMutationsPinLaw -/
def k1 : Class := { plain "com/example/hafiza/hafiza/StoreConfigSetMutationsPinLaw" (some 0) with
  accessFlags := 49
  interfaces := #[]
  cf := some (fileOf pool1 46 #[] #[{ accessFlags := 1, nameIndex := 5, descriptorIndex := 6, attributes := #[] }, { accessFlags := 9, nameIndex := 50, descriptorIndex := 51, attributes := #[] }] 49 2 #[] #[])
  fields := #[]
  methods := #[k1m0, k1m1]
  instanceTypes := #[]
  staticTypes := #[]
  resolved := Array.replicate 55 none
  statics := none }

def pool2 : Array CpInfo := pool [(1, .methodref 2 3), (0, .class_ 4), (0, .nameAndType 5 6), (0, u "java/lang/Object"), (0, u "<init>"), (0, u "()V"), (0, .class_ 8), (0, u "com/example/hafiza/hafiza/Mutations"), (0, .methodref 7 3), (0, .fieldref 11 12), (0, .class_ 13), (0, .nameAndType 14 15), (0, u "com/example/hafiza/hafiza/StoreConfig"), (0, u "mutations"), (0, u "Lcom/example/hafiza/hafiza/Mutations;"), (0, .fieldref 17 18), (0, .class_ 19), (0, .nameAndType 20 21), (0, u "com/example/hafiza/hafiza/Durability"), (0, u "WRITE"), (0, u "Lcom/example/hafiza/hafiza/Durability;"), (0, .fieldref 11 23), (0, .nameAndType 24 21), (0, u "durability"), (0, .fieldref 11 26), (0, .nameAndType 27 28), (0, u "allowCreate"), (0, u "Z"), (2, u "readOnly"), (0, .string 14), (0, .methodref 34 35), (0, .class_ 36), (0, .nameAndType 37 38), (0, u "java/util/Objects"), (0, u "requireNonNull"), (0, u "(Ljava/lang/Object;Ljava/lang/String;)Ljava/lang/Object;"), (0, .string 24), (2, u "classLoader"), (0, u "Ljava/lang/ClassLoader;"), (2, u "setAllowCreate"), (0, u "(Z)V"), (0, u "getAllowCreate"), (0, u "()Z"), (2, u "setMutations"), (0, u "(Lcom/example/hafiza/hafiza/Mutations;)V"), (0, u "getMutations"), (0, u "()Lcom/example/hafiza/hafiza/Mutations;"), (0, u "setDurability"), (0, u "(Lcom/example/hafiza/hafiza/Durability;)V"), (0, u "getDurability"), (0, u "()Lcom/example/hafiza/hafiza/Durability;")] 6

def k2c0 : Code := { maxStack := 3, maxLocals := 1, code := prog_24_method_1_code, exceptionTable := #[], attributes := #[] }
def k2m0 : Method := { name := "<init>", desc := "()V", sig := { parameters := [], returnType := none }, accessFlags := 1, code := some k2c0 }
def k2c1 : Code := { maxStack := 2, maxLocals := 2, code := prog_24_method_2_code, exceptionTable := #[], attributes := #[] }
def k2m1 : Method := { name := "setAllowCreate", desc := "(Z)V", sig := { parameters := [.boolean], returnType := none }, accessFlags := 1, code := some k2c1 }
def k2c2 : Code := { maxStack := 1, maxLocals := 1, code := prog_24_method_3_code, exceptionTable := #[], attributes := #[] }
def k2m2 : Method := { name := "getAllowCreate", desc := "()Z", sig := { parameters := [], returnType := some .boolean }, accessFlags := 1, code := some k2c2 }
def k2c3 : Code := { maxStack := 3, maxLocals := 2, code := prog_24_method_6_code, exceptionTable := #[], attributes := #[] }
def k2m3 : Method := { name := "setMutations", desc := "(Lcom/example/hafiza/hafiza/Mutations;)V", sig := { parameters := [(.object "com/example/hafiza/hafiza/Mutations")], returnType := none }, accessFlags := 1, code := some k2c3 }
def k2c4 : Code := { maxStack := 1, maxLocals := 1, code := prog_24_method_7_code, exceptionTable := #[], attributes := #[] }
def k2m4 : Method := { name := "getMutations", desc := "()Lcom/example/hafiza/hafiza/Mutations;", sig := { parameters := [], returnType := some (.object "com/example/hafiza/hafiza/Mutations") }, accessFlags := 1, code := some k2c4 }
def k2c5 : Code := { maxStack := 3, maxLocals := 2, code := prog_24_method_8_code, exceptionTable := #[], attributes := #[] }
def k2m5 : Method := { name := "setDurability", desc := "(Lcom/example/hafiza/hafiza/Durability;)V", sig := { parameters := [(.object "com/example/hafiza/hafiza/Durability")], returnType := none }, accessFlags := 1, code := some k2c5 }
def k2c6 : Code := { maxStack := 1, maxLocals := 1, code := prog_24_method_9_code, exceptionTable := #[], attributes := #[] }
def k2m6 : Method := { name := "getDurability", desc := "()Lcom/example/hafiza/hafiza/Durability;", sig := { parameters := [], returnType := some (.object "com/example/hafiza/hafiza/Durability") }, accessFlags := 1, code := some k2c6 }
/-- com/example/hafiza/hafiza/StoreConfig -/
def k2 : Class := { plain "com/example/hafiza/hafiza/StoreConfig" (some 0) with
  accessFlags := 33
  interfaces := #[]
  cf := some (fileOf pool2 11 #[] #[{ accessFlags := 1, nameIndex := 5, descriptorIndex := 6, attributes := #[] }, { accessFlags := 1, nameIndex := 46, descriptorIndex := 47, attributes := #[] }, { accessFlags := 1, nameIndex := 48, descriptorIndex := 49, attributes := #[] }, { accessFlags := 1, nameIndex := 52, descriptorIndex := 53, attributes := #[] }, { accessFlags := 1, nameIndex := 54, descriptorIndex := 55, attributes := #[] }, { accessFlags := 1, nameIndex := 56, descriptorIndex := 57, attributes := #[] }, { accessFlags := 1, nameIndex := 58, descriptorIndex := 59, attributes := #[] }] 33 2 #[] #[{ accessFlags := 2, nameIndex := 27, descriptorIndex := 28, attributes := #[] }, { accessFlags := 2, nameIndex := 31, descriptorIndex := 28, attributes := #[] }, { accessFlags := 2, nameIndex := 14, descriptorIndex := 15, attributes := #[] }, { accessFlags := 2, nameIndex := 24, descriptorIndex := 21, attributes := #[] }, { accessFlags := 2, nameIndex := 42, descriptorIndex := 43, attributes := #[] }])
  fields := #[{ name := "allowCreate", type := .boolean, accessFlags := 2, slot := 0, constantValue := 0 }, { name := "readOnly", type := .boolean, accessFlags := 2, slot := 1, constantValue := 0 }, { name := "mutations", type := (.object "com/example/hafiza/hafiza/Mutations"), accessFlags := 2, slot := 2, constantValue := 0 }, { name := "durability", type := (.object "com/example/hafiza/hafiza/Durability"), accessFlags := 2, slot := 3, constantValue := 0 }, { name := "classLoader", type := (.object "java/lang/ClassLoader"), accessFlags := 2, slot := 4, constantValue := 0 }]
  methods := #[k2m0, k2m1, k2m2, k2m3, k2m4, k2m5, k2m6]
  instanceTypes := #[.boolean, .boolean, (.object "com/example/hafiza/hafiza/Mutations"), (.object "com/example/hafiza/hafiza/Durability"), (.object "java/lang/ClassLoader")]
  staticTypes := #[]
  resolved := Array.replicate 66 none
  statics := none }

def pool3 : Array CpInfo := pool [(1, .methodref 2 3), (0, .class_ 4), (0, .nameAndType 5 6), (0, u "java/lang/Object"), (0, u "<init>"), (0, u "()V"), (0, .class_ 8), (0, u "java/util/LinkedHashSet"), (0, .methodref 7 3), (0, .fieldref 11 12), (0, .class_ 13), (0, .nameAndType 14 15), (0, u "com/example/hafiza/hafiza/Mutations"), (0, u "renamers"), (0, u "Ljava/util/Set;"), (0, .fieldref 11 17), (0, .nameAndType 18 15), (0, u "deleters"), (0, .fieldref 11 20), (0, .nameAndType 21 15), (0, u "converters")] 111

def k3c0 : Code := { maxStack := 3, maxLocals := 1, code := prog_16_method_1_code, exceptionTable := #[], attributes := #[] }
def k3m0 : Method := { name := "<init>", desc := "()V", sig := { parameters := [], returnType := none }, accessFlags := 1, code := some k3c0 }
/-- com/example/hafiza/hafiza/Mutations -/
def k3 : Class := { plain "com/example/hafiza/hafiza/Mutations" (some 0) with
  accessFlags := 49
  interfaces := #[]
  cf := some (fileOf pool3 11 #[] #[{ accessFlags := 1, nameIndex := 5, descriptorIndex := 6, attributes := #[] }] 49 2 #[] #[{ accessFlags := 18, nameIndex := 14, descriptorIndex := 15, attributes := #[] }, { accessFlags := 18, nameIndex := 18, descriptorIndex := 15, attributes := #[] }, { accessFlags := 18, nameIndex := 21, descriptorIndex := 15, attributes := #[] }])
  fields := #[{ name := "renamers", type := (.object "java/util/Set"), accessFlags := 18, slot := 0, constantValue := 0 }, { name := "deleters", type := (.object "java/util/Set"), accessFlags := 18, slot := 1, constantValue := 0 }, { name := "converters", type := (.object "java/util/Set"), accessFlags := 18, slot := 2, constantValue := 0 }]
  methods := #[k3m0]
  instanceTypes := #[(.object "java/util/Set"), (.object "java/util/Set"), (.object "java/util/Set")]
  staticTypes := #[]
  resolved := Array.replicate 133 none
  statics := none }

def pool4 : Array CpInfo := pool [(8, .class_ 10), (1, u "java/lang/Iterable"), (24, .class_ 36), (0, u "java/lang/Object")] 25

/-- java/lang/Iterable -/
def k4 : Class := { plain "java/lang/Iterable" (some 0) with
  accessFlags := 1537
  interfaces := #[]
  cf := some (fileOf pool4 8 #[] #[] 1537 35 #[] #[])
  fields := #[]
  methods := #[]
  instanceTypes := #[]
  staticTypes := #[]
  resolved := Array.replicate 62 none
  statics := none }

def pool5 : Array CpInfo := pool [(10, .class_ 12), (1, u "java/util/Collection"), (47, .class_ 61), (0, u "java/lang/Object"), (0, .class_ 63), (0, u "java/lang/Iterable")] 51

/-- java/util/Collection -/
def k5 : Class := { plain "java/util/Collection" (some 0) with
  accessFlags := 1537
  interfaces := #[4]
  cf := some (fileOf pool5 10 #[] #[] 1537 60 #[62] #[])
  fields := #[]
  methods := #[]
  instanceTypes := #[]
  staticTypes := #[]
  resolved := Array.replicate 115 none
  statics := none }

def pool6 : Array CpInfo := pool [(1, .methodref 2 3), (0, .class_ 4), (0, .nameAndType 5 6), (0, u "java/lang/Object"), (0, u "<init>"), (0, u "()V"), (1, .class_ 10), (1, u "java/util/AbstractCollection"), (66, .class_ 78), (0, u "java/util/Collection")] 81

def k6c0 : Code := { maxStack := 1, maxLocals := 1, code := jdk_22_method_1_code, exceptionTable := #[], attributes := #[] }
def k6m0 : Method := { name := "<init>", desc := "()V", sig := { parameters := [], returnType := none }, accessFlags := 4, code := some k6c0 }
/-- java/util/AbstractCollection -/
def k6 : Class := { plain "java/util/AbstractCollection" (some 0) with
  accessFlags := 1057
  interfaces := #[5]
  cf := some (fileOf pool6 8 #[] #[{ accessFlags := 4, nameIndex := 5, descriptorIndex := 6, attributes := #[] }] 1057 2 #[77] #[])
  fields := #[]
  methods := #[k6m0]
  instanceTypes := #[]
  staticTypes := #[]
  resolved := Array.replicate 160 none
  statics := none }

def pool7 : Array CpInfo := pool [(26, .class_ 27), (0, u "java/lang/Object"), (5, .class_ 34), (0, u "java/util/Set"), (1, .class_ 38), (1, u "java/util/Collection")] 105

/-- java/util/Set -/
def k7 : Class := { plain "java/util/Set" (some 0) with
  accessFlags := 1537
  interfaces := #[5]
  cf := some (fileOf pool7 33 #[] #[] 1537 26 #[36] #[])
  fields := #[]
  methods := #[]
  instanceTypes := #[]
  staticTypes := #[]
  resolved := Array.replicate 144 none
  statics := none }

def pool8 : Array CpInfo := pool [(1, .methodref 2 3), (0, .class_ 4), (0, .nameAndType 5 6), (0, u "java/util/AbstractCollection"), (0, u "<init>"), (0, u "()V"), (0, .class_ 8), (0, u "java/util/Set"), (7, .class_ 17), (0, u "java/util/AbstractSet")] 78

def k8c0 : Code := { maxStack := 1, maxLocals := 1, code := jdk_91_method_1_code, exceptionTable := #[], attributes := #[] }
def k8m0 : Method := { name := "<init>", desc := "()V", sig := { parameters := [], returnType := none }, accessFlags := 4, code := some k8c0 }
/-- java/util/AbstractSet -/
def k8 : Class := { plain "java/util/AbstractSet" (some 6) with
  accessFlags := 1057
  interfaces := #[7]
  cf := some (fileOf pool8 16 #[] #[{ accessFlags := 4, nameIndex := 5, descriptorIndex := 6, attributes := #[] }] 1057 2 #[7] #[])
  fields := #[]
  methods := #[k8m0]
  instanceTypes := #[]
  staticTypes := #[]
  resolved := Array.replicate 96 none
  statics := none }

def pool9 : Array CpInfo := pool [(1, .class_ 2), (0, u "java/lang/Cloneable"), (0, .class_ 4), (0, u "java/lang/Object")] 2

/-- java/lang/Cloneable -/
def k9 : Class := { plain "java/lang/Cloneable" (some 0) with
  accessFlags := 1537
  interfaces := #[]
  cf := some (fileOf pool9 1 #[] #[] 1537 3 #[] #[])
  fields := #[]
  methods := #[]
  instanceTypes := #[]
  staticTypes := #[]
  resolved := Array.replicate 7 none
  statics := none }

def pool10 : Array CpInfo := pool [(1, .class_ 2), (0, u "java/io/Serializable"), (0, .class_ 4), (0, u "java/lang/Object")] 2

/-- java/io/Serializable -/
def k10 : Class := { plain "java/io/Serializable" (some 0) with
  accessFlags := 1537
  interfaces := #[]
  cf := some (fileOf pool10 1 #[] #[] 1537 3 #[] #[])
  fields := #[]
  methods := #[]
  instanceTypes := #[]
  staticTypes := #[]
  resolved := Array.replicate 7 none
  statics := none }

def pool11 : Array CpInfo := pool [(1, .methodref 2 3), (0, .class_ 4), (0, .nameAndType 5 6), (0, u "java/util/AbstractSet"), (0, u "<init>"), (0, u "()V"), (3, .fieldref 11 12), (0, .class_ 13), (0, .nameAndType 14 15), (0, u "java/util/HashSet"), (0, u "map"), (0, u "Ljava/util/HashMap;"), (21, .nameAndType 5 38), (0, u "(IF)V"), (3, .class_ 43), (0, u "java/util/LinkedHashMap"), (0, .methodref 42 37), (5, .class_ 52), (1, u "java/util/Set"), (13, u "PRESENT"), (0, u "Ljava/lang/Object;"), (158, .class_ 227), (0, u "java/lang/Cloneable"), (0, .class_ 229), (0, u "java/io/Serializable"), (0, u "serialVersionUID"), (0, u "J"), (20, u "(IFZ)V")] 50

def k11m0 : Method := { name := "<init>", desc := "()V", sig := { parameters := [], returnType := none }, accessFlags := 1, code := none }
def k11c1 : Code := { maxStack := 5, maxLocals := 4, code := jdk_93_method_5_code, exceptionTable := #[], attributes := #[] }
def k11m1 : Method := { name := "<init>", desc := "(IFZ)V", sig := { parameters := [.int, .float, .boolean], returnType := none }, accessFlags := 0, code := some k11c1 }
/-- java/util/HashSet -/
def k11 : Class := { plain "java/util/HashSet" (some 8) with
  accessFlags := 33
  interfaces := #[7, 9, 10]
  cf := some (fileOf pool11 11 #[] #[{ accessFlags := 1, nameIndex := 5, descriptorIndex := 6, attributes := #[] }, { accessFlags := 0, nameIndex := 5, descriptorIndex := 252, attributes := #[] }] 33 2 #[50, 226, 228] #[{ accessFlags := 24, nameIndex := 230, descriptorIndex := 231, attributes := #[] }, { accessFlags := 128, nameIndex := 14, descriptorIndex := 15, attributes := #[] }, { accessFlags := 24, nameIndex := 66, descriptorIndex := 67, attributes := #[] }])
  fields := #[{ name := "serialVersionUID", type := .long, accessFlags := 24, slot := 0, constantValue := 0 }, { name := "map", type := (.object "java/util/HashMap"), accessFlags := 128, slot := 0, constantValue := 0 }, { name := "PRESENT", type := (.object "java/lang/Object"), accessFlags := 24, slot := 1, constantValue := 0 }]
  methods := #[k11m0, k11m1]
  instanceTypes := #[(.object "java/util/HashMap")]
  staticTypes := #[.long, (.object "java/lang/Object")]
  resolved := Array.replicate 303 none
  statics := none }

def pool12 : Array CpInfo := pool [(8, .class_ 10), (1, u "java/util/SequencedCollection"), (15, .class_ 27), (0, u "java/lang/Object"), (0, .class_ 29), (0, u "java/util/Collection")] 27

/-- java/util/SequencedCollection -/
def k12 : Class := { plain "java/util/SequencedCollection" (some 0) with
  accessFlags := 1537
  interfaces := #[5]
  cf := some (fileOf pool12 8 #[] #[] 1537 26 #[28] #[])
  fields := #[]
  methods := #[]
  instanceTypes := #[]
  staticTypes := #[]
  resolved := Array.replicate 57 none
  statics := none }

def pool13 : Array CpInfo := pool [(2, .class_ 4), (1, u "java/util/SequencedSet"), (2, .class_ 8), (0, u "java/lang/Object"), (0, .class_ 10), (0, u "java/util/SequencedCollection"), (0, .class_ 12), (0, u "java/util/Set")] 13

/-- java/util/SequencedSet -/
def k13 : Class := { plain "java/util/SequencedSet" (some 0) with
  accessFlags := 1537
  interfaces := #[12, 7]
  cf := some (fileOf pool13 2 #[] #[] 1537 7 #[9, 11] #[])
  fields := #[]
  methods := #[]
  instanceTypes := #[]
  staticTypes := #[]
  resolved := Array.replicate 26 none
  statics := none }

def pool14 : Array CpInfo := pool [(1, .methodref 2 3), (0, .class_ 4), (0, .nameAndType 5 6), (0, u "java/util/HashSet"), (0, u "<init>"), (0, u "(IFZ)V"), (0, .float 1061158912), (19, .class_ 29), (1, u "java/util/LinkedHashSet"), (16, u "()V"), (44, .class_ 93), (1, u "java/util/SequencedSet"), (11, .class_ 106), (0, u "java/util/LinkedHashSet$1ReverseLinkedHashSetView"), (6, .class_ 114), (0, u "java/lang/Cloneable"), (0, .class_ 116), (0, u "java/io/Serializable"), (0, u "serialVersionUID"), (0, u "J")] 44

def k14c0 : Code := { maxStack := 4, maxLocals := 1, code := jdk_2620_method_3_code, exceptionTable := #[], attributes := #[] }
def k14m0 : Method := { name := "<init>", desc := "()V", sig := { parameters := [], returnType := none }, accessFlags := 1, code := some k14c0 }
/-- java/util/LinkedHashSet -/
def k14 : Class := { plain "java/util/LinkedHashSet" (some 11) with
  accessFlags := 33
  interfaces := #[13, 9, 10]
  cf := some (fileOf pool14 27 #[.nestMembers #[105]] #[{ accessFlags := 1, nameIndex := 5, descriptorIndex := 46, attributes := #[] }] 33 2 #[91, 113, 115] #[{ accessFlags := 26, nameIndex := 117, descriptorIndex := 118, attributes := #[] }])
  fields := #[{ name := "serialVersionUID", type := .long, accessFlags := 26, slot := 0, constantValue := 0 }]
  methods := #[k14m0]
  instanceTypes := #[(.object "java/util/HashMap")]
  staticTypes := #[.long]
  resolved := Array.replicate 163 none
  statics := none }

def pool15 : Array CpInfo := pool [(2, .class_ 4), (1, u "java/util/Map"), (31, .class_ 37), (0, u "java/util/Map$Entry"), (55, .class_ 94), (0, u "java/lang/Object")] 168

/-- java/util/Map -/
def k15 : Class := { plain "java/util/Map" (some 0) with
  accessFlags := 1537
  interfaces := #[]
  cf := some (fileOf pool15 2 #[.nestMembers #[36]] #[] 1537 93 #[] #[])
  fields := #[]
  methods := #[]
  instanceTypes := #[]
  staticTypes := #[]
  resolved := Array.replicate 263 none
  statics := none }

def pool16 : Array CpInfo := pool [(1, .methodref 2 3), (0, .class_ 4), (0, .nameAndType 5 6), (0, u "java/lang/Object"), (0, u "<init>"), (0, u "()V"), (1, .class_ 10), (1, u "java/util/AbstractMap"), (42, .class_ 54), (0, u "java/util/Map"), (9, u "keySet"), (0, u "Ljava/util/Set;"), (0, .class_ 67), (0, u "java/util/AbstractMap$1"), (5, u "values"), (0, u "Ljava/util/Collection;"), (0, .class_ 76), (0, u "java/util/AbstractMap$2"), (104, .class_ 182), (0, u "java/util/AbstractMap$ViewCollection"), (0, .class_ 184), (0, u "java/util/AbstractMap$SimpleImmutableEntry"), (0, .class_ 186), (0, u "java/util/AbstractMap$SimpleEntry"), (0, .class_ 188), (0, u "java/util/AbstractMap$2$1"), (0, .class_ 190), (0, u "java/util/AbstractMap$1$1")] 5

def k16c0 : Code := { maxStack := 1, maxLocals := 1, code := jdk_71_method_1_code, exceptionTable := #[], attributes := #[] }
def k16m0 : Method := { name := "<init>", desc := "()V", sig := { parameters := [], returnType := none }, accessFlags := 4, code := some k16c0 }
/-- java/util/AbstractMap -/
def k16 : Class := { plain "java/util/AbstractMap" (some 0) with
  accessFlags := 1057
  interfaces := #[15]
  cf := some (fileOf pool16 8 #[.nestMembers #[181, 183, 185, 75, 187, 66, 189]] #[{ accessFlags := 4, nameIndex := 5, descriptorIndex := 6, attributes := #[] }] 1057 2 #[53] #[{ accessFlags := 128, nameIndex := 64, descriptorIndex := 65, attributes := #[] }, { accessFlags := 128, nameIndex := 73, descriptorIndex := 74, attributes := #[] }])
  fields := #[{ name := "keySet", type := (.object "java/util/Set"), accessFlags := 128, slot := 0, constantValue := 0 }, { name := "values", type := (.object "java/util/Collection"), accessFlags := 128, slot := 1, constantValue := 0 }]
  methods := #[k16m0]
  instanceTypes := #[(.object "java/util/Set"), (.object "java/util/Collection")]
  staticTypes := #[]
  resolved := Array.replicate 196 none
  statics := none }

def pool17 : Array CpInfo := pool [(34, .methodref 35 36), (0, .class_ 37), (0, .nameAndType 38 39), (0, u "java/lang/Integer"), (0, u "numberOfLeadingZeros"), (0, u "(I)I"), (0, .class_ 41), (0, u "java/util/HashMap"), (0, .integer 1073741824), (0, .methodref 44 45), (0, .class_ 46), (0, .nameAndType 47 48), (0, u "java/util/AbstractMap"), (0, u "<init>"), (0, u "()V"), (21, .methodref 71 72), (0, .class_ 73), (0, .nameAndType 74 75), (0, u "java/lang/Float"), (0, u "isNaN"), (0, u "(F)Z"), (5, .fieldref 40 82), (0, .nameAndType 83 84), (0, u "loadFactor"), (0, u "F"), (0, .methodref 40 86), (0, .nameAndType 87 39), (0, u "tableSizeFor"), (0, .fieldref 40 89), (0, .nameAndType 90 91), (0, u "threshold"), (0, u "I"), (3, u "(IF)V"), (5, .class_ 103), (1, u "java/util/Map"), (0, u "size"), (2, u "table"), (0, u "[Ljava/util/HashMap$Node;"), (14, u "entrySet"), (39, .class_ 165), (1, u "java/util/HashMap$Node"), (14, .class_ 181), (0, u "java/util/HashMap$TreeNode"), (22, u "modCount"), (37, u "Ljava/util/Set;"), (0, .class_ 244), (0, u "java/util/HashMap$KeySet"), (18, .class_ 264), (0, u "java/util/HashMap$Values"), (3, .class_ 269), (0, u "java/util/HashMap$EntrySet"), (76, .class_ 348), (1, u "java/util/HashMap$UnsafeHolder"), (43, .class_ 393), (0, u "java/lang/Cloneable"), (0, .class_ 395), (0, u "java/io/Serializable"), (0, u "serialVersionUID"), (0, u "J"), (3, u "DEFAULT_INITIAL_CAPACITY"), (1, u "MAXIMUM_CAPACITY"), (0, u "DEFAULT_LOAD_FACTOR"), (0, u "TREEIFY_THRESHOLD"), (1, u "UNTREEIFY_THRESHOLD"), (1, u "MIN_TREEIFY_CAPACITY"), (186, .class_ 597), (0, u "java/util/HashMap$EntrySpliterator"), (0, .class_ 599), (0, u "java/util/HashMap$ValueSpliterator"), (0, .class_ 601), (0, u "java/util/HashMap$KeySpliterator"), (0, .class_ 603), (0, u "java/util/HashMap$HashMapSpliterator"), (0, .class_ 605), (0, u "java/util/HashMap$EntryIterator"), (0, .class_ 607), (0, u "java/util/HashMap$ValueIterator"), (0, .class_ 609), (0, u "java/util/HashMap$KeyIterator"), (0, .class_ 611), (0, u "java/util/HashMap$HashIterator")] 17

def k17c0 : Code := { maxStack := 3, maxLocals := 2, code := jdk_69_method_4_code, exceptionTable := #[], attributes := #[] }
def k17m0 : Method := { name := "tableSizeFor", desc := "(I)I", sig := { parameters := [.int], returnType := some .int }, accessFlags := 24, code := some k17c0 }
def k17c1 : Code := { maxStack := 4, maxLocals := 3, code := jdk_69_method_5_code, exceptionTable := #[], attributes := #[] }
def k17m1 : Method := { name := "<init>", desc := "(IF)V", sig := { parameters := [.int, .float], returnType := none }, accessFlags := 1, code := some k17c1 }
def k17m2 : Method := { name := "<init>", desc := "()V", sig := { parameters := [], returnType := none }, accessFlags := 1, code := none }
/-- java/util/HashMap -/
def k17 : Class := { plain "java/util/HashMap" (some 16) with
  accessFlags := 33
  interfaces := #[15, 9, 10]
  cf := some (fileOf pool17 40 #[.nestMembers #[180, 596, 598, 600, 602, 604, 606, 608, 610, 346, 268, 263, 243, 163]] #[{ accessFlags := 24, nameIndex := 87, descriptorIndex := 39, attributes := #[] }, { accessFlags := 1, nameIndex := 47, descriptorIndex := 95, attributes := #[] }, { accessFlags := 1, nameIndex := 47, descriptorIndex := 48, attributes := #[] }] 33 44 #[101, 392, 394] #[{ accessFlags := 26, nameIndex := 396, descriptorIndex := 397, attributes := #[] }, { accessFlags := 24, nameIndex := 401, descriptorIndex := 91, attributes := #[] }, { accessFlags := 24, nameIndex := 403, descriptorIndex := 91, attributes := #[] }, { accessFlags := 24, nameIndex := 404, descriptorIndex := 84, attributes := #[] }, { accessFlags := 24, nameIndex := 405, descriptorIndex := 91, attributes := #[] }, { accessFlags := 24, nameIndex := 407, descriptorIndex := 91, attributes := #[] }, { accessFlags := 24, nameIndex := 409, descriptorIndex := 91, attributes := #[] }, { accessFlags := 128, nameIndex := 107, descriptorIndex := 108, attributes := #[] }, { accessFlags := 128, nameIndex := 123, descriptorIndex := 242, attributes := #[] }, { accessFlags := 128, nameIndex := 104, descriptorIndex := 91, attributes := #[] }, { accessFlags := 128, nameIndex := 204, descriptorIndex := 91, attributes := #[] }, { accessFlags := 0, nameIndex := 90, descriptorIndex := 91, attributes := #[] }, { accessFlags := 16, nameIndex := 83, descriptorIndex := 84, attributes := #[] }])
  fields := #[{ name := "serialVersionUID", type := .long, accessFlags := 26, slot := 0, constantValue := 0 }, { name := "DEFAULT_INITIAL_CAPACITY", type := .int, accessFlags := 24, slot := 1, constantValue := 0 }, { name := "MAXIMUM_CAPACITY", type := .int, accessFlags := 24, slot := 2, constantValue := 0 }, { name := "DEFAULT_LOAD_FACTOR", type := .float, accessFlags := 24, slot := 3, constantValue := 0 }, { name := "TREEIFY_THRESHOLD", type := .int, accessFlags := 24, slot := 4, constantValue := 0 }, { name := "UNTREEIFY_THRESHOLD", type := .int, accessFlags := 24, slot := 5, constantValue := 0 }, { name := "MIN_TREEIFY_CAPACITY", type := .int, accessFlags := 24, slot := 6, constantValue := 0 }, { name := "table", type := (.array (.object "java/util/HashMap$Node")), accessFlags := 128, slot := 2, constantValue := 0 }, { name := "entrySet", type := (.object "java/util/Set"), accessFlags := 128, slot := 3, constantValue := 0 }, { name := "size", type := .int, accessFlags := 128, slot := 4, constantValue := 0 }, { name := "modCount", type := .int, accessFlags := 128, slot := 5, constantValue := 0 }, { name := "threshold", type := .int, accessFlags := 0, slot := 6, constantValue := 0 }, { name := "loadFactor", type := .float, accessFlags := 16, slot := 7, constantValue := 0 }]
  methods := #[k17m0, k17m1, k17m2]
  instanceTypes := #[(.object "java/util/Set"), (.object "java/util/Collection"), (.array (.object "java/util/HashMap$Node")), (.object "java/util/Set"), .int, .int, .int, .float]
  staticTypes := #[.long, .int, .int, .float, .int, .int, .int]
  resolved := Array.replicate 629 none
  statics := none }

def pool18 : Array CpInfo := pool [(2, .class_ 4), (1, u "java/util/SequencedMap"), (38, .class_ 44), (0, u "java/util/SequencedMap$1SeqKeySet"), (3, .class_ 49), (0, u "java/util/SequencedMap$1SeqValues"), (1, .class_ 52), (0, u "java/util/SequencedMap$1SeqEntrySet"), (1, .class_ 55), (0, u "java/lang/Object"), (0, .class_ 57), (0, u "java/util/Map")] 48

/-- java/util/SequencedMap -/
def k18 : Class := { plain "java/util/SequencedMap" (some 0) with
  accessFlags := 1537
  interfaces := #[15]
  cf := some (fileOf pool18 2 #[.nestMembers #[51, 48, 43]] #[] 1537 54 #[56] #[])
  fields := #[]
  methods := #[]
  instanceTypes := #[]
  staticTypes := #[]
  resolved := Array.replicate 106 none
  statics := none }

def pool19 : Array CpInfo := pool [(1, .fieldref 2 3), (0, .class_ 4), (0, .nameAndType 5 6), (0, u "java/util/LinkedHashMap"), (0, u "putMode"), (0, u "I"), (2, u "head"), (0, u "Ljava/util/LinkedHashMap$Entry;"), (2, u "tail"), (1, .class_ 17), (1, u "java/util/LinkedHashMap$Entry"), (5, .class_ 25), (1, u "java/util/HashMap"), (1, u "()V"), (2, u "<init>"), (33, .fieldref 2 65), (0, .nameAndType 66 67), (0, u "accessOrder"), (0, u "Z"), (13, .methodref 23 82), (0, .nameAndType 30 83), (0, u "(IF)V"), (37, .class_ 122), (0, u "java/util/LinkedHashMap$LinkedKeySet"), (20, .class_ 144), (0, u "java/util/LinkedHashMap$LinkedValues"), (9, .class_ 155), (0, u "java/util/LinkedHashMap$LinkedEntrySet"), (44, .class_ 201), (0, u "java/util/LinkedHashMap$ReversedLinkedHashMapView"), (3, .class_ 206), (0, u "java/util/SequencedMap"), (0, u "serialVersionUID"), (0, u "J"), (5, u "PUT_NORM"), (1, u "PUT_FIRST"), (1, u "PUT_LAST"), (143, .class_ 363), (0, u "java/util/LinkedHashMap$LinkedEntryIterator"), (0, .class_ 365), (0, u "java/util/LinkedHashMap$LinkedValueIterator"), (0, .class_ 367), (0, u "java/util/LinkedHashMap$LinkedKeyIterator"), (0, .class_ 369), (0, u "java/util/LinkedHashMap$LinkedHashIterator")] 16

def k19c0 : Code := { maxStack := 3, maxLocals := 3, code := jdk_94_method_14_code, exceptionTable := #[], attributes := #[] }
def k19m0 : Method := { name := "<init>", desc := "(IF)V", sig := { parameters := [.int, .float], returnType := none }, accessFlags := 1, code := some k19c0 }
def k19m1 : Method := { name := "<init>", desc := "()V", sig := { parameters := [], returnType := none }, accessFlags := 1, code := none }
/-- java/util/LinkedHashMap -/
def k19 : Class := { plain "java/util/LinkedHashMap" (some 17) with
  accessFlags := 33
  interfaces := #[18]
  cf := some (fileOf pool19 2 #[.nestMembers #[200, 362, 364, 366, 368, 154, 143, 121, 15]] #[{ accessFlags := 1, nameIndex := 30, descriptorIndex := 83, attributes := #[] }, { accessFlags := 1, nameIndex := 30, descriptorIndex := 27, attributes := #[] }] 33 23 #[205] #[{ accessFlags := 26, nameIndex := 207, descriptorIndex := 208, attributes := #[] }, { accessFlags := 128, nameIndex := 9, descriptorIndex := 10, attributes := #[] }, { accessFlags := 128, nameIndex := 13, descriptorIndex := 10, attributes := #[] }, { accessFlags := 16, nameIndex := 66, descriptorIndex := 67, attributes := #[] }, { accessFlags := 24, nameIndex := 214, descriptorIndex := 6, attributes := #[] }, { accessFlags := 24, nameIndex := 216, descriptorIndex := 6, attributes := #[] }, { accessFlags := 24, nameIndex := 218, descriptorIndex := 6, attributes := #[] }, { accessFlags := 128, nameIndex := 5, descriptorIndex := 6, attributes := #[] }])
  fields := #[{ name := "serialVersionUID", type := .long, accessFlags := 26, slot := 0, constantValue := 0 }, { name := "head", type := (.object "java/util/LinkedHashMap$Entry"), accessFlags := 128, slot := 8, constantValue := 0 }, { name := "tail", type := (.object "java/util/LinkedHashMap$Entry"), accessFlags := 128, slot := 9, constantValue := 0 }, { name := "accessOrder", type := .boolean, accessFlags := 16, slot := 10, constantValue := 0 }, { name := "PUT_NORM", type := .int, accessFlags := 24, slot := 1, constantValue := 0 }, { name := "PUT_FIRST", type := .int, accessFlags := 24, slot := 2, constantValue := 0 }, { name := "PUT_LAST", type := .int, accessFlags := 24, slot := 3, constantValue := 0 }, { name := "putMode", type := .int, accessFlags := 128, slot := 11, constantValue := 0 }]
  methods := #[k19m0, k19m1]
  instanceTypes := #[(.object "java/util/Set"), (.object "java/util/Collection"), (.array (.object "java/util/HashMap$Node")), (.object "java/util/Set"), .int, .int, .int, .float, (.object "java/util/LinkedHashMap$Entry"), (.object "java/util/LinkedHashMap$Entry"), .boolean, .int]
  staticTypes := #[.long, .int, .int, .int]
  resolved := Array.replicate 386 none
  statics := none }

def pool20 : Array CpInfo := pool [(2, .class_ 4), (1, u "java/lang/Object"), (0, u "<init>"), (0, u "()V"), (1, .class_ 10), (1, u "java/lang/Number"), (2, .class_ 14), (0, u "java/io/Serializable"), (0, u "serialVersionUID"), (0, u "J")] 20

def k20m0 : Method := { name := "<init>", desc := "()V", sig := { parameters := [], returnType := none }, accessFlags := 1, code := none }
/-- java/lang/Number -/
def k20 : Class := { plain "java/lang/Number" (some 0) with
  accessFlags := 1057
  interfaces := #[10]
  cf := some (fileOf pool20 8 #[] #[{ accessFlags := 1, nameIndex := 5, descriptorIndex := 6, attributes := #[] }] 1057 2 #[13] #[{ accessFlags := 26, nameIndex := 15, descriptorIndex := 16, attributes := #[] }])
  fields := #[{ name := "serialVersionUID", type := .long, accessFlags := 26, slot := 0, constantValue := 0 }]
  methods := #[k20m0]
  instanceTypes := #[]
  staticTypes := #[.long]
  resolved := Array.replicate 37 none
  statics := none }

def pool21 : Array CpInfo := pool [(1, .class_ 2), (0, u "java/lang/Comparable"), (0, .class_ 4), (0, u "java/lang/Object")] 7

/-- java/lang/Comparable -/
def k21 : Class := { plain "java/lang/Comparable" (some 0) with
  accessFlags := 1537
  interfaces := #[]
  cf := some (fileOf pool21 1 #[] #[] 1537 3 #[] #[])
  fields := #[]
  methods := #[]
  instanceTypes := #[]
  staticTypes := #[]
  resolved := Array.replicate 12 none
  statics := none }

def pool22 : Array CpInfo := pool [(1, .class_ 2), (0, u "java/lang/constant/Constable"), (0, .class_ 4), (0, u "java/lang/Object")] 6

/-- java/lang/constant/Constable -/
def k22 : Class := { plain "java/lang/constant/Constable" (some 0) with
  accessFlags := 1537
  interfaces := #[]
  cf := some (fileOf pool22 1 #[] #[] 1537 3 #[] #[])
  fields := #[]
  methods := #[]
  instanceTypes := #[]
  staticTypes := #[]
  resolved := Array.replicate 11 none
  statics := none }

def pool23 : Array CpInfo := pool [(1, .class_ 2), (0, u "java/lang/constant/ConstantDesc"), (0, .class_ 4), (0, u "java/lang/Object")] 32

/-- java/lang/constant/ConstantDesc -/
def k23 : Class := { plain "java/lang/constant/ConstantDesc" (some 0) with
  accessFlags := 1537
  interfaces := #[]
  cf := some (fileOf pool23 1 #[] #[] 1537 3 #[] #[])
  fields := #[]
  methods := #[]
  instanceTypes := #[]
  staticTypes := #[]
  resolved := Array.replicate 37 none
  statics := none }

def pool24 : Array CpInfo := pool [(1, .class_ 2), (0, u "java/lang/Float"), (48, .class_ 53), (1, u "java/lang/Number"), (3, u "value"), (0, u "F"), (2, u "isNaN"), (0, u "(F)Z"), (28, u "$assertionsDisabled"), (0, u "Z"), (52, u "TYPE"), (0, u "Ljava/lang/Class;"), (0, .class_ 148), (0, u "java/lang/Comparable"), (0, .class_ 150), (0, u "java/lang/constant/Constable"), (0, .class_ 152), (0, u "java/lang/constant/ConstantDesc"), (0, u "POSITIVE_INFINITY"), (1, u "NEGATIVE_INFINITY"), (1, u "NaN"), (1, u "MAX_VALUE"), (0, u "MIN_NORMAL"), (0, u "MIN_VALUE"), (1, u "SIZE"), (0, u "I"), (1, u "PRECISION"), (1, u "MAX_EXPONENT"), (1, u "MIN_EXPONENT"), (1, u "BYTES"), (3, u "serialVersionUID"), (0, u "J")] 101

def k24c0 : Code := { maxStack := 2, maxLocals := 1, code := jdk_118_method_6_code, exceptionTable := #[], attributes := #[] }
def k24m0 : Method := { name := "isNaN", desc := "(F)Z", sig := { parameters := [.float], returnType := some .boolean }, accessFlags := 9, code := some k24c0 }
/-- java/lang/Float -/
def k24 : Class := { plain "java/lang/Float" (some 20) with
  accessFlags := 49
  interfaces := #[21, 22, 23]
  cf := some (fileOf pool24 1 #[] #[{ accessFlags := 9, nameIndex := 61, descriptorIndex := 62, attributes := #[] }] 49 51 #[147, 149, 151] #[{ accessFlags := 25, nameIndex := 153, descriptorIndex := 58, attributes := #[] }, { accessFlags := 25, nameIndex := 155, descriptorIndex := 58, attributes := #[] }, { accessFlags := 25, nameIndex := 157, descriptorIndex := 58, attributes := #[] }, { accessFlags := 25, nameIndex := 159, descriptorIndex := 58, attributes := #[] }, { accessFlags := 25, nameIndex := 160, descriptorIndex := 58, attributes := #[] }, { accessFlags := 25, nameIndex := 161, descriptorIndex := 58, attributes := #[] }, { accessFlags := 25, nameIndex := 163, descriptorIndex := 164, attributes := #[] }, { accessFlags := 25, nameIndex := 166, descriptorIndex := 164, attributes := #[] }, { accessFlags := 25, nameIndex := 168, descriptorIndex := 164, attributes := #[] }, { accessFlags := 25, nameIndex := 170, descriptorIndex := 164, attributes := #[] }, { accessFlags := 25, nameIndex := 172, descriptorIndex := 164, attributes := #[] }, { accessFlags := 25, nameIndex := 145, descriptorIndex := 146, attributes := #[] }, { accessFlags := 18, nameIndex := 57, descriptorIndex := 58, attributes := #[] }, { accessFlags := 26, nameIndex := 176, descriptorIndex := 177, attributes := #[] }, { accessFlags := 4120, nameIndex := 91, descriptorIndex := 92, attributes := #[] }])
  fields := #[{ name := "POSITIVE_INFINITY", type := .float, accessFlags := 25, slot := 0, constantValue := 0 }, { name := "NEGATIVE_INFINITY", type := .float, accessFlags := 25, slot := 1, constantValue := 0 }, { name := "NaN", type := .float, accessFlags := 25, slot := 2, constantValue := 0 }, { name := "MAX_VALUE", type := .float, accessFlags := 25, slot := 3, constantValue := 0 }, { name := "MIN_NORMAL", type := .float, accessFlags := 25, slot := 4, constantValue := 0 }, { name := "MIN_VALUE", type := .float, accessFlags := 25, slot := 5, constantValue := 0 }, { name := "SIZE", type := .int, accessFlags := 25, slot := 6, constantValue := 0 }, { name := "PRECISION", type := .int, accessFlags := 25, slot := 7, constantValue := 0 }, { name := "MAX_EXPONENT", type := .int, accessFlags := 25, slot := 8, constantValue := 0 }, { name := "MIN_EXPONENT", type := .int, accessFlags := 25, slot := 9, constantValue := 0 }, { name := "BYTES", type := .int, accessFlags := 25, slot := 10, constantValue := 0 }, { name := "TYPE", type := (.object "java/lang/Class"), accessFlags := 25, slot := 11, constantValue := 0 }, { name := "value", type := .float, accessFlags := 18, slot := 0, constantValue := 0 }, { name := "serialVersionUID", type := .long, accessFlags := 26, slot := 12, constantValue := 0 }, { name := "$assertionsDisabled", type := .boolean, accessFlags := 4120, slot := 13, constantValue := 0 }]
  methods := #[k24m0]
  instanceTypes := #[.float]
  staticTypes := #[.float, .float, .float, .float, .float, .float, .int, .int, .int, .int, .int, (.object "java/lang/Class"), .long, .boolean]
  resolved := Array.replicate 279 none
  statics := none }

def pool25 : Array CpInfo := pool [(1, .class_ 2), (0, u "java/lang/Integer"), (16, u "digits"), (0, u "[C"), (32, u "numberOfLeadingZeros"), (0, u "(I)I"), (30, u "DigitOnes"), (0, u "[B"), (2, u "DigitTens"), (99, .class_ 190), (0, u "java/lang/Integer$IntegerCache"), (3, u "I"), (8, .class_ 204), (0, u "java/lang/Number"), (2, u "value"), (56, .integer 65536), (37, u "TYPE"), (0, u "Ljava/lang/Class;"), (0, .class_ 305), (0, u "java/lang/Comparable"), (0, .class_ 307), (0, u "java/lang/constant/Constable"), (0, .class_ 309), (0, u "java/lang/constant/ConstantDesc"), (0, u "MIN_VALUE"), (1, u "MAX_VALUE"), (3, u "SIZE"), (1, u "BYTES"), (1, u "serialVersionUID"), (0, u "J")] 131

def k25c0 : Code := { maxStack := 3, maxLocals := 2, code := jdk_33_method_47_code, exceptionTable := #[], attributes := #[] }
def k25m0 : Method := { name := "numberOfLeadingZeros", desc := "(I)I", sig := { parameters := [.int], returnType := some .int }, accessFlags := 9, code := some k25c0 }
/-- java/lang/Integer -/
def k25 : Class := { plain "java/lang/Integer" (some 20) with
  accessFlags := 49
  interfaces := #[21, 22, 23]
  cf := some (fileOf pool25 1 #[.nestMembers #[189]] #[{ accessFlags := 9, nameIndex := 53, descriptorIndex := 54, attributes := #[] }] 49 203 #[304, 306, 308] #[{ accessFlags := 25, nameIndex := 310, descriptorIndex := 194, attributes := #[] }, { accessFlags := 25, nameIndex := 312, descriptorIndex := 194, attributes := #[] }, { accessFlags := 25, nameIndex := 302, descriptorIndex := 303, attributes := #[] }, { accessFlags := 24, nameIndex := 19, descriptorIndex := 20, attributes := #[] }, { accessFlags := 24, nameIndex := 89, descriptorIndex := 86, attributes := #[] }, { accessFlags := 24, nameIndex := 85, descriptorIndex := 86, attributes := #[] }, { accessFlags := 18, nameIndex := 207, descriptorIndex := 194, attributes := #[] }, { accessFlags := 25, nameIndex := 316, descriptorIndex := 194, attributes := #[] }, { accessFlags := 25, nameIndex := 318, descriptorIndex := 194, attributes := #[] }, { accessFlags := 26, nameIndex := 320, descriptorIndex := 321, attributes := #[] }])
  fields := #[{ name := "MIN_VALUE", type := .int, accessFlags := 25, slot := 0, constantValue := 0 }, { name := "MAX_VALUE", type := .int, accessFlags := 25, slot := 1, constantValue := 0 }, { name := "TYPE", type := (.object "java/lang/Class"), accessFlags := 25, slot := 2, constantValue := 0 }, { name := "digits", type := (.array .char), accessFlags := 24, slot := 3, constantValue := 0 }, { name := "DigitTens", type := (.array .byte), accessFlags := 24, slot := 4, constantValue := 0 }, { name := "DigitOnes", type := (.array .byte), accessFlags := 24, slot := 5, constantValue := 0 }, { name := "value", type := .int, accessFlags := 18, slot := 0, constantValue := 0 }, { name := "SIZE", type := .int, accessFlags := 25, slot := 6, constantValue := 0 }, { name := "BYTES", type := .int, accessFlags := 25, slot := 7, constantValue := 0 }, { name := "serialVersionUID", type := .long, accessFlags := 26, slot := 8, constantValue := 0 }]
  methods := #[k25m0]
  instanceTypes := #[.int]
  staticTypes := #[.int, .int, (.object "java/lang/Class"), (.array .char), (.array .byte), (.array .byte), .int, .int, .long]
  resolved := Array.replicate 453 none
  statics := none }

def pool26 : Array CpInfo := pool [(2, .class_ 4), (1, u "java/lang/Enum"), (0, u "name"), (0, u "Ljava/lang/String;"), (2, u "ordinal"), (0, u "I"), (1, .class_ 14), (1, u "java/lang/Object"), (4, u "hash"), (86, .class_ 108), (1, u "java/lang/Enum$EnumDesc"), (2, .class_ 112), (0, u "java/lang/constant/Constable"), (0, .class_ 114), (0, u "java/lang/Comparable"), (0, .class_ 116), (0, u "java/io/Serializable")] 87

/-- java/lang/Enum -/
def k26 : Class := { plain "java/lang/Enum" (some 0) with
  accessFlags := 1057
  interfaces := #[22, 21, 10]
  cf := some (fileOf pool26 2 #[.nestMembers #[106]] #[] 1057 12 #[111, 113, 115] #[{ accessFlags := 18, nameIndex := 5, descriptorIndex := 6, attributes := #[] }, { accessFlags := 18, nameIndex := 9, descriptorIndex := 10, attributes := #[] }, { accessFlags := 2, nameIndex := 19, descriptorIndex := 10, attributes := #[] }])
  fields := #[{ name := "name", type := (.object "java/lang/String"), accessFlags := 18, slot := 0, constantValue := 0 }, { name := "ordinal", type := .int, accessFlags := 18, slot := 1, constantValue := 0 }, { name := "hash", type := .int, accessFlags := 2, slot := 2, constantValue := 0 }]
  methods := #[]
  instanceTypes := #[(.object "java/lang/String"), .int, .int]
  staticTypes := #[]
  resolved := Array.replicate 204 none
  statics := none }

def pool27 : Array CpInfo := pool [(1, .class_ 2), (0, u "com/example/hafiza/hafiza/Durability"), (2, u "WRITE"), (0, u "Lcom/example/hafiza/hafiza/Durability;"), (2, u "FORCE"), (2, u "$VALUES"), (0, u "[Lcom/example/hafiza/hafiza/Durability;"), (6, .class_ 22), (1, u "java/lang/Enum")] 24

/-- com/example/hafiza/hafiza/Durability -/
def k27 : Class := { plain "com/example/hafiza/hafiza/Durability" (some 26) with
  accessFlags := 16433
  interfaces := #[]
  cf := some (fileOf pool27 1 #[] #[] 16433 20 #[] #[{ accessFlags := 16409, nameIndex := 5, descriptorIndex := 6, attributes := #[] }, { accessFlags := 16409, nameIndex := 9, descriptorIndex := 6, attributes := #[] }, { accessFlags := 4122, nameIndex := 12, descriptorIndex := 13, attributes := #[] }])
  fields := #[{ name := "WRITE", type := (.object "com/example/hafiza/hafiza/Durability"), accessFlags := 16409, slot := 0, constantValue := 0 }, { name := "FORCE", type := (.object "com/example/hafiza/hafiza/Durability"), accessFlags := 16409, slot := 1, constantValue := 0 }, { name := "$VALUES", type := (.array (.object "com/example/hafiza/hafiza/Durability")), accessFlags := 4122, slot := 2, constantValue := 0 }]
  methods := #[]
  instanceTypes := #[(.object "java/lang/String"), .int, .int]
  staticTypes := #[(.object "com/example/hafiza/hafiza/Durability"), (.object "com/example/hafiza/hafiza/Durability"), (.array (.object "com/example/hafiza/hafiza/Durability"))]
  resolved := Array.replicate 47 none
  statics := some 0 }

def pool28 : Array CpInfo := pool [(2, .class_ 4), (1, u "java/lang/CharSequence"), (42, .class_ 48), (0, u "java/lang/CharSequence$1CodePointIterator"), (10, .class_ 60), (0, u "java/lang/CharSequence$1CharIterator"), (5, .class_ 67), (0, u "java/lang/Object")] 63

/-- java/lang/CharSequence -/
def k28 : Class := { plain "java/lang/CharSequence" (some 0) with
  accessFlags := 1537
  interfaces := #[]
  cf := some (fileOf pool28 2 #[.nestMembers #[47, 59]] #[] 1537 66 #[] #[])
  fields := #[]
  methods := #[]
  instanceTypes := #[]
  staticTypes := #[]
  resolved := Array.replicate 131 none
  statics := none }

def pool29 : Array CpInfo := pool [(2, .class_ 4), (1, u "java/lang/Object"), (0, u "<init>"), (0, u "()V"), (3, .class_ 12), (1, u "java/lang/String"), (0, u "value"), (0, u "[B"), (2, u "coder"), (0, u "B"), (2, u "hash"), (0, u "I"), (2, u "hashIsZero"), (0, u "Z"), (13, u "COMPACT_STRINGS"), (534, .class_ 576), (0, u "java/lang/CharSequence"), (22, u "CASE_INSENSITIVE_ORDER"), (0, u "Ljava/util/Comparator;"), (500, u "serialPersistentFields"), (0, u "[Ljava/io/ObjectStreamField;"), (0, .class_ 1104), (0, u "java/lang/String$CaseInsensitiveComparator"), (1, .class_ 1107), (0, u "java/io/Serializable"), (0, .class_ 1109), (0, u "java/lang/Comparable"), (0, .class_ 1111), (0, u "java/lang/constant/Constable"), (0, .class_ 1113), (0, u "java/lang/constant/ConstantDesc"), (2, u "serialVersionUID"), (0, u "J"), (3, u "REPL"), (0, u "C"), (2, u "LATIN1"), (1, u "UTF16")] 323

def k29m0 : Method := { name := "<init>", desc := "()V", sig := { parameters := [], returnType := none }, accessFlags := 1, code := none }
/-- java/lang/String -/
def k29 : Class := { plain "java/lang/String" (some 0) with
  accessFlags := 49
  interfaces := #[10, 21, 28, 22, 23]
  cf := some (fileOf pool29 10 #[.nestMembers #[1103]] #[{ accessFlags := 1, nameIndex := 5, descriptorIndex := 6, attributes := #[] }] 49 2 #[1106, 1108, 575, 1110, 1112] #[{ accessFlags := 18, nameIndex := 13, descriptorIndex := 14, attributes := #[] }, { accessFlags := 18, nameIndex := 17, descriptorIndex := 18, attributes := #[] }, { accessFlags := 2, nameIndex := 21, descriptorIndex := 22, attributes := #[] }, { accessFlags := 2, nameIndex := 25, descriptorIndex := 26, attributes := #[] }, { accessFlags := 26, nameIndex := 1116, descriptorIndex := 1117, attributes := #[] }, { accessFlags := 24, nameIndex := 40, descriptorIndex := 26, attributes := #[] }, { accessFlags := 26, nameIndex := 1101, descriptorIndex := 1102, attributes := #[] }, { accessFlags := 26, nameIndex := 1121, descriptorIndex := 1122, attributes := #[] }, { accessFlags := 25, nameIndex := 599, descriptorIndex := 600, attributes := #[] }, { accessFlags := 24, nameIndex := 1125, descriptorIndex := 18, attributes := #[] }, { accessFlags := 24, nameIndex := 1127, descriptorIndex := 18, attributes := #[] }])
  fields := #[{ name := "value", type := (.array .byte), accessFlags := 18, slot := 0, constantValue := 0 }, { name := "coder", type := .byte, accessFlags := 18, slot := 1, constantValue := 0 }, { name := "hash", type := .int, accessFlags := 2, slot := 2, constantValue := 0 }, { name := "hashIsZero", type := .boolean, accessFlags := 2, slot := 3, constantValue := 0 }, { name := "serialVersionUID", type := .long, accessFlags := 26, slot := 0, constantValue := 0 }, { name := "COMPACT_STRINGS", type := .boolean, accessFlags := 24, slot := 1, constantValue := 0 }, { name := "serialPersistentFields", type := (.array (.object "java/io/ObjectStreamField")), accessFlags := 26, slot := 2, constantValue := 0 }, { name := "REPL", type := .char, accessFlags := 26, slot := 3, constantValue := 0 }, { name := "CASE_INSENSITIVE_ORDER", type := (.object "java/util/Comparator"), accessFlags := 25, slot := 4, constantValue := 0 }, { name := "LATIN1", type := .byte, accessFlags := 24, slot := 5, constantValue := 0 }, { name := "UTF16", type := .byte, accessFlags := 24, slot := 6, constantValue := 0 }]
  methods := #[k29m0]
  instanceTypes := #[(.array .byte), .byte, .int, .boolean]
  staticTypes := #[.long, .boolean, (.array (.object "java/io/ObjectStreamField")), .char, (.object "java/util/Comparator"), .byte, .byte]
  resolved := Array.replicate 1451 none
  statics := none }

def pool30 : Array CpInfo := pool [(2, .class_ 4), (1, u "java/lang/Object"), (0, u "<init>"), (0, u "()V"), (35, .class_ 44), (1, u "java/util/Objects"), (0, u "requireNonNull"), (48, u "(Ljava/lang/Object;Ljava/lang/String;)Ljava/lang/Object;")] 89

def k30m0 : Method := { name := "<init>", desc := "()V", sig := { parameters := [], returnType := none }, accessFlags := 2, code := none }
def k30c1 : Code := { maxStack := 3, maxLocals := 2, code := jdk_31_method_11_code, exceptionTable := #[], attributes := #[] }
def k30m1 : Method := { name := "requireNonNull", desc := "(Ljava/lang/Object;Ljava/lang/String;)Ljava/lang/Object;", sig := { parameters := [(.object "java/lang/Object"), (.object "java/lang/String")], returnType := some (.object "java/lang/Object") }, accessFlags := 9, code := some k30c1 }
/-- java/util/Objects -/
def k30 : Class := { plain "java/util/Objects" (some 0) with
  accessFlags := 49
  interfaces := #[]
  cf := some (fileOf pool30 42 #[] #[{ accessFlags := 2, nameIndex := 5, descriptorIndex := 6, attributes := #[] }, { accessFlags := 9, nameIndex := 45, descriptorIndex := 94, attributes := #[] }] 49 2 #[] #[])
  fields := #[]
  methods := #[k30m0, k30m1]
  instanceTypes := #[]
  staticTypes := #[]
  resolved := Array.replicate 184 none
  statics := none }

/-- the primitive byte -/
def k31 : Class := { plain "byte" none with kind := .primitive 'B', accessFlags := 0x411 }
/-- [B -/
def k32 : Class := { plain "[B" (some 0) with kind := .array 31 .byte, interfaces := #[9, 10], accessFlags := 1041 }

/-- the primitive int -/
def k33 : Class := { plain "int" none with kind := .primitive 'I', accessFlags := 0x411 }
/-- [I -/
def k34 : Class := { plain "[I" (some 0) with kind := .array 33 .int, interfaces := #[9, 10], accessFlags := 1041 }

def heap : Heap := #[{ cls := 27, slots := #[.ref 1, .ref 2, .null], vm := .statics 27 },
  { cls := 27, slots := #[.null, .int 0, .int 0], vm := .none },
  { cls := 27, slots := #[.null, .int 0, .int 0], vm := .none }]
def classes : Array Class := #[k0, k1, k2, k3, k4, k5, k6, k7, k8, k9, k10, k11, k12, k13, k14, k15, k16, k17, k18, k19, k20, k21, k22, k23, k24, k25, k26, k27, k28, k29, k30, k31, k32, k33, k34]
def interned : List (Array UInt16 × Addr) := []
def slotsUsed : Nat := 9
def theMethod : MethodId := ⟨1, 1⟩
def args0 : Array Value := #[.int 5]
def aboutOver (below : List Frame) : State where
  vm := { classes := classes, interned := interned.toArray }
  heap := heap
  slotsUsed := slotsUsed
  threads := #[{ frames := .invoking theMethod args0 :: below }]
def below0 : List Frame := [.native { method := ⟨0, 0⟩, args := #[] }]
def about1 : State := aboutOver below0
def p0 : Program := .bare "" "" ""
def e0 : Env := launch0.env 0 0 0
theorem w_frames : about1.frames = Frame.invoking theMethod args0 :: below0 := rfl
set_option maxRecDepth 65536 in
theorem w_args : argsFit about1.vm theMethod args0 = true := by decide +kernel
set_option maxRecDepth 65536 in
theorem w_heap : heapFits about1 = true := by decide +kernel
set_option maxRecDepth 65536 in
theorem w_runnable : about1.curStatus? = some .runnable := by decide +kernel
set_option maxRecDepth 65536 in
theorem w_alone : about1.alone = true := by decide +kernel
set_option maxRecDepth 65536 in
theorem w_named : about1.methodNamed? x = some theMethod := by decide +kernel
set_option maxRecDepth 65536 in
theorem w_hears : about1.hears theMethod below0 = true := by decide +kernel
set_option maxRecDepth 65536 in
theorem w_ripe : about1.ripe theMethod args0 below0 = true := by decide +kernel
theorem w_running : about1.status = .running := rfl
set_option maxRecDepth 65536 in
theorem w_room : about1.hasRoom e0.platform room_1 = true :=
  launch0.hasRoom_least _ room_1 (by decide +kernel) (by decide +kernel) (by decide +kernel) (by decide +kernel) (by decide +kernel) (by decide +kernel)
theorem allAtoms_all (ts : List Jvm.Cond) (a : Array Jvm.Value) (st : Jvm.State) : (allAtoms ts).before a st = ts.all (fun c => c.before a st) := by
  induction ts with
  | nil => rfl
  | cons c t ih =>
    show (Jvm.Cond.and c (allAtoms t)).before a st = _
    rw [Jvm.Cond.before_and, ih, List.all_cons]
def words1 : List Jvm.Cond := Jvm.Cond.code x code maxLocals ret :: tables_1
/-- a 'code' word, met by the world's own term for the bytes: nothing is compared byte by byte -/
theorem code_word {y : MethodName} {bytes : ByteArray} {mx : Nat} {rt : Option FieldType} {a : Array Value} {s : State} {m : MethodId} {meth : Method} {c : Code} (h1 : s.methodNamed? y = some m) (h2 : s.vm.method? m = some meth) (h3 : meth.code = some c) (h4 : c.code = bytes)
    (h5 : (c.maxLocals == mx && c.exceptionTable.isEmpty && decide (c.maxStack ≤ mostOperands) && decide (meth.sig.returnType = rt) && !meth.locks && decide (parseMethodDescriptor y.desc = some meth.sig)) = true) : (Jvm.Cond.code y bytes mx rt).before a s = true := by
  simp only [Bool.and_eq_true, beq_iff_eq, Bool.not_eq_true', decide_eq_true_eq] at h5
  obtain ⟨⟨⟨⟨⟨g1, g2⟩, g3⟩, g4⟩, g5⟩, g6⟩ := h5
  simp [Cond.before, Cond.holds, Cond.value, h1, h2, h3, h4, g1, g2, g3, g4, g5, g6]
def isCode : Jvm.Cond → Bool
  | .code _ _ _ _ => true
  | _ => false
theorem all_split {L : List Jvm.Cond} {P : Jvm.Cond → Bool} (h1 : L.all (fun c => isCode c || P c) = true) (h2 : ∀ c ∈ L.filter isCode, P c = true) : L.all P = true := by
  refine List.all_eq_true.mpr fun c hc => ?_
  have h := List.all_eq_true.mp h1 c hc
  rcases Bool.eq_false_or_eq_true (isCode c) with hi | hi
  · exact h2 c (List.mem_filter.mpr ⟨hc, hi⟩)
  · simpa [hi] using h
set_option maxRecDepth 65536 in
theorem w_c0 : (Jvm.Cond.code x code maxLocals ret).before args0 about1 = true := code_word (m := ⟨1, 1⟩) (meth := k1m1) (c := k1c1) (by decide +kernel) rfl rfl rfl (by decide +kernel)
set_option maxRecDepth 65536 in
theorem w_c1 : (Jvm.Cond.code ({ cls := "com/example/hafiza/hafiza/StoreConfig", name := "<init>", desc := "()V" } : Jvm.MethodName) prog_24_method_1_code (1 : Nat) (Option.none : Option Jvm.ClassFile.FieldType)).before args0 about1 = true := code_word (m := ⟨2, 0⟩) (meth := k2m0) (c := k2c0) (by decide +kernel) rfl rfl rfl (by decide +kernel)
set_option maxRecDepth 65536 in
theorem w_c2 : (Jvm.Cond.code ({ cls := "java/lang/Object", name := "<init>", desc := "()V" } : Jvm.MethodName) object_method_1_code (1 : Nat) (Option.none : Option Jvm.ClassFile.FieldType)).before args0 about1 = true := code_word (m := ⟨0, 0⟩) (meth := k0m0) (c := k0c0) (by decide +kernel) rfl rfl rfl (by decide +kernel)
set_option maxRecDepth 65536 in
theorem w_c3 : (Jvm.Cond.code ({ cls := "com/example/hafiza/hafiza/Mutations", name := "<init>", desc := "()V" } : Jvm.MethodName) prog_16_method_1_code (1 : Nat) (Option.none : Option Jvm.ClassFile.FieldType)).before args0 about1 = true := code_word (m := ⟨3, 0⟩) (meth := k3m0) (c := k3c0) (by decide +kernel) rfl rfl rfl (by decide +kernel)
set_option maxRecDepth 65536 in
theorem w_c4 : (Jvm.Cond.code ({ cls := "java/util/LinkedHashSet", name := "<init>", desc := "()V" } : Jvm.MethodName) jdk_2620_method_3_code (1 : Nat) (Option.none : Option Jvm.ClassFile.FieldType)).before args0 about1 = true := code_word (m := ⟨14, 0⟩) (meth := k14m0) (c := k14c0) (by decide +kernel) rfl rfl rfl (by decide +kernel)
set_option maxRecDepth 65536 in
theorem w_c5 : (Jvm.Cond.code ({ cls := "java/util/HashSet", name := "<init>", desc := "(IFZ)V" } : Jvm.MethodName) jdk_93_method_5_code (4 : Nat) (Option.none : Option Jvm.ClassFile.FieldType)).before args0 about1 = true := code_word (m := ⟨11, 1⟩) (meth := k11m1) (c := k11c1) (by decide +kernel) rfl rfl rfl (by decide +kernel)
set_option maxRecDepth 65536 in
theorem w_c6 : (Jvm.Cond.code ({ cls := "java/util/AbstractSet", name := "<init>", desc := "()V" } : Jvm.MethodName) jdk_91_method_1_code (1 : Nat) (Option.none : Option Jvm.ClassFile.FieldType)).before args0 about1 = true := code_word (m := ⟨8, 0⟩) (meth := k8m0) (c := k8c0) (by decide +kernel) rfl rfl rfl (by decide +kernel)
set_option maxRecDepth 65536 in
theorem w_c7 : (Jvm.Cond.code ({ cls := "java/util/AbstractCollection", name := "<init>", desc := "()V" } : Jvm.MethodName) jdk_22_method_1_code (1 : Nat) (Option.none : Option Jvm.ClassFile.FieldType)).before args0 about1 = true := code_word (m := ⟨6, 0⟩) (meth := k6m0) (c := k6c0) (by decide +kernel) rfl rfl rfl (by decide +kernel)
set_option maxRecDepth 65536 in
theorem w_c8 : (Jvm.Cond.code ({ cls := "java/util/LinkedHashMap", name := "<init>", desc := "(IF)V" } : Jvm.MethodName) jdk_94_method_14_code (3 : Nat) (Option.none : Option Jvm.ClassFile.FieldType)).before args0 about1 = true := code_word (m := ⟨19, 0⟩) (meth := k19m0) (c := k19c0) (by decide +kernel) rfl rfl rfl (by decide +kernel)
set_option maxRecDepth 65536 in
theorem w_c9 : (Jvm.Cond.code ({ cls := "java/util/HashMap", name := "<init>", desc := "(IF)V" } : Jvm.MethodName) jdk_69_method_5_code (3 : Nat) (Option.none : Option Jvm.ClassFile.FieldType)).before args0 about1 = true := code_word (m := ⟨17, 1⟩) (meth := k17m1) (c := k17c1) (by decide +kernel) rfl rfl rfl (by decide +kernel)
set_option maxRecDepth 65536 in
theorem w_c10 : (Jvm.Cond.code ({ cls := "java/util/AbstractMap", name := "<init>", desc := "()V" } : Jvm.MethodName) jdk_71_method_1_code (1 : Nat) (Option.none : Option Jvm.ClassFile.FieldType)).before args0 about1 = true := code_word (m := ⟨16, 0⟩) (meth := k16m0) (c := k16c0) (by decide +kernel) rfl rfl rfl (by decide +kernel)
set_option maxRecDepth 65536 in
theorem w_c11 : (Jvm.Cond.code ({ cls := "java/lang/Float", name := "isNaN", desc := "(F)Z" } : Jvm.MethodName) jdk_118_method_6_code (1 : Nat) (Option.some Jvm.ClassFile.FieldType.boolean)).before args0 about1 = true := code_word (m := ⟨24, 0⟩) (meth := k24m0) (c := k24c0) (by decide +kernel) rfl rfl rfl (by decide +kernel)
set_option maxRecDepth 65536 in
theorem w_c12 : (Jvm.Cond.code ({ cls := "java/util/HashMap", name := "tableSizeFor", desc := "(I)I" } : Jvm.MethodName) jdk_69_method_4_code (2 : Nat) (Option.some Jvm.ClassFile.FieldType.int)).before args0 about1 = true := code_word (m := ⟨17, 0⟩) (meth := k17m0) (c := k17c0) (by decide +kernel) rfl rfl rfl (by decide +kernel)
set_option maxRecDepth 65536 in
theorem w_c13 : (Jvm.Cond.code ({ cls := "java/lang/Integer", name := "numberOfLeadingZeros", desc := "(I)I" } : Jvm.MethodName) jdk_33_method_47_code (2 : Nat) (Option.some Jvm.ClassFile.FieldType.int)).before args0 about1 = true := code_word (m := ⟨25, 0⟩) (meth := k25m0) (c := k25c0) (by decide +kernel) rfl rfl rfl (by decide +kernel)
set_option maxRecDepth 65536 in
theorem w_c14 : (Jvm.Cond.code ({ cls := "com/example/hafiza/hafiza/StoreConfig", name := "getMutations", desc := "()Lcom/example/hafiza/hafiza/Mutations;" } : Jvm.MethodName) prog_24_method_7_code (1 : Nat) (Option.some (Jvm.ClassFile.FieldType.object "com/example/hafiza/hafiza/Mutations"))).before args0 about1 = true := code_word (m := ⟨2, 4⟩) (meth := k2m4) (c := k2c4) (by decide +kernel) rfl rfl rfl (by decide +kernel)
set_option maxRecDepth 65536 in
theorem w_c15 : (Jvm.Cond.code ({ cls := "com/example/hafiza/hafiza/StoreConfig", name := "setMutations", desc := "(Lcom/example/hafiza/hafiza/Mutations;)V" } : Jvm.MethodName) prog_24_method_6_code (2 : Nat) (Option.none : Option Jvm.ClassFile.FieldType)).before args0 about1 = true := code_word (m := ⟨2, 3⟩) (meth := k2m3) (c := k2c3) (by decide +kernel) rfl rfl rfl (by decide +kernel)
set_option maxRecDepth 65536 in
theorem w_c16 : (Jvm.Cond.code ({ cls := "java/util/Objects", name := "requireNonNull", desc := "(Ljava/lang/Object;Ljava/lang/String;)Ljava/lang/Object;" } : Jvm.MethodName) jdk_31_method_11_code (2 : Nat) (Option.some (Jvm.ClassFile.FieldType.object "java/lang/Object"))).before args0 about1 = true := code_word (m := ⟨30, 1⟩) (meth := k30m1) (c := k30c1) (by decide +kernel) rfl rfl rfl (by decide +kernel)
set_option maxRecDepth 65536 in
theorem w_c17 : (Jvm.Cond.code ({ cls := "com/example/hafiza/hafiza/StoreConfig", name := "getAllowCreate", desc := "()Z" } : Jvm.MethodName) prog_24_method_3_code (1 : Nat) (Option.some Jvm.ClassFile.FieldType.boolean)).before args0 about1 = true := code_word (m := ⟨2, 2⟩) (meth := k2m2) (c := k2c2) (by decide +kernel) rfl rfl rfl (by decide +kernel)
set_option maxRecDepth 65536 in
theorem w_c18 : (Jvm.Cond.code ({ cls := "com/example/hafiza/hafiza/StoreConfig", name := "getDurability", desc := "()Lcom/example/hafiza/hafiza/Durability;" } : Jvm.MethodName) prog_24_method_9_code (1 : Nat) (Option.some (Jvm.ClassFile.FieldType.object "com/example/hafiza/hafiza/Durability"))).before args0 about1 = true := code_word (m := ⟨2, 6⟩) (meth := k2m6) (c := k2c6) (by decide +kernel) rfl rfl rfl (by decide +kernel)
set_option maxRecDepth 65536 in
theorem w_c19 : (Jvm.Cond.code ({ cls := "com/example/hafiza/hafiza/StoreConfig", name := "setAllowCreate", desc := "(Z)V" } : Jvm.MethodName) prog_24_method_2_code (2 : Nat) (Option.none : Option Jvm.ClassFile.FieldType)).before args0 about1 = true := code_word (m := ⟨2, 1⟩) (meth := k2m1) (c := k2c1) (by decide +kernel) rfl rfl rfl (by decide +kernel)
set_option maxRecDepth 65536 in
theorem w_c20 : (Jvm.Cond.code ({ cls := "com/example/hafiza/hafiza/StoreConfig", name := "setDurability", desc := "(Lcom/example/hafiza/hafiza/Durability;)V" } : Jvm.MethodName) prog_24_method_8_code (2 : Nat) (Option.none : Option Jvm.ClassFile.FieldType)).before args0 about1 = true := code_word (m := ⟨2, 5⟩) (meth := k2m5) (c := k2c5) (by decide +kernel) rfl rfl rfl (by decide +kernel)
def codes1 : List Jvm.Cond := [Jvm.Cond.code x code maxLocals ret, Jvm.Cond.code ({ cls := "com/example/hafiza/hafiza/StoreConfig", name := "<init>", desc := "()V" } : Jvm.MethodName) prog_24_method_1_code (1 : Nat) (Option.none : Option Jvm.ClassFile.FieldType), Jvm.Cond.code ({ cls := "java/lang/Object", name := "<init>", desc := "()V" } : Jvm.MethodName) object_method_1_code (1 : Nat) (Option.none : Option Jvm.ClassFile.FieldType), Jvm.Cond.code ({ cls := "com/example/hafiza/hafiza/Mutations", name := "<init>", desc := "()V" } : Jvm.MethodName) prog_16_method_1_code (1 : Nat) (Option.none : Option Jvm.ClassFile.FieldType), Jvm.Cond.code ({ cls := "java/util/LinkedHashSet", name := "<init>", desc := "()V" } : Jvm.MethodName) jdk_2620_method_3_code (1 : Nat) (Option.none : Option Jvm.ClassFile.FieldType), Jvm.Cond.code ({ cls := "java/util/HashSet", name := "<init>", desc := "(IFZ)V" } : Jvm.MethodName) jdk_93_method_5_code (4 : Nat) (Option.none : Option Jvm.ClassFile.FieldType), Jvm.Cond.code ({ cls := "java/util/AbstractSet", name := "<init>", desc := "()V" } : Jvm.MethodName) jdk_91_method_1_code (1 : Nat) (Option.none : Option Jvm.ClassFile.FieldType), Jvm.Cond.code ({ cls := "java/util/AbstractCollection", name := "<init>", desc := "()V" } : Jvm.MethodName) jdk_22_method_1_code (1 : Nat) (Option.none : Option Jvm.ClassFile.FieldType), Jvm.Cond.code ({ cls := "java/util/LinkedHashMap", name := "<init>", desc := "(IF)V" } : Jvm.MethodName) jdk_94_method_14_code (3 : Nat) (Option.none : Option Jvm.ClassFile.FieldType), Jvm.Cond.code ({ cls := "java/util/HashMap", name := "<init>", desc := "(IF)V" } : Jvm.MethodName) jdk_69_method_5_code (3 : Nat) (Option.none : Option Jvm.ClassFile.FieldType), Jvm.Cond.code ({ cls := "java/util/AbstractMap", name := "<init>", desc := "()V" } : Jvm.MethodName) jdk_71_method_1_code (1 : Nat) (Option.none : Option Jvm.ClassFile.FieldType), Jvm.Cond.code ({ cls := "java/lang/Float", name := "isNaN", desc := "(F)Z" } : Jvm.MethodName) jdk_118_method_6_code (1 : Nat) (Option.some Jvm.ClassFile.FieldType.boolean), Jvm.Cond.code ({ cls := "java/util/HashMap", name := "tableSizeFor", desc := "(I)I" } : Jvm.MethodName) jdk_69_method_4_code (2 : Nat) (Option.some Jvm.ClassFile.FieldType.int), Jvm.Cond.code ({ cls := "java/lang/Integer", name := "numberOfLeadingZeros", desc := "(I)I" } : Jvm.MethodName) jdk_33_method_47_code (2 : Nat) (Option.some Jvm.ClassFile.FieldType.int), Jvm.Cond.code ({ cls := "com/example/hafiza/hafiza/StoreConfig", name := "getMutations", desc := "()Lcom/example/hafiza/hafiza/Mutations;" } : Jvm.MethodName) prog_24_method_7_code (1 : Nat) (Option.some (Jvm.ClassFile.FieldType.object "com/example/hafiza/hafiza/Mutations")), Jvm.Cond.code ({ cls := "com/example/hafiza/hafiza/StoreConfig", name := "setMutations", desc := "(Lcom/example/hafiza/hafiza/Mutations;)V" } : Jvm.MethodName) prog_24_method_6_code (2 : Nat) (Option.none : Option Jvm.ClassFile.FieldType), Jvm.Cond.code ({ cls := "java/util/Objects", name := "requireNonNull", desc := "(Ljava/lang/Object;Ljava/lang/String;)Ljava/lang/Object;" } : Jvm.MethodName) jdk_31_method_11_code (2 : Nat) (Option.some (Jvm.ClassFile.FieldType.object "java/lang/Object")), Jvm.Cond.code ({ cls := "com/example/hafiza/hafiza/StoreConfig", name := "getAllowCreate", desc := "()Z" } : Jvm.MethodName) prog_24_method_3_code (1 : Nat) (Option.some Jvm.ClassFile.FieldType.boolean), Jvm.Cond.code ({ cls := "com/example/hafiza/hafiza/StoreConfig", name := "getDurability", desc := "()Lcom/example/hafiza/hafiza/Durability;" } : Jvm.MethodName) prog_24_method_9_code (1 : Nat) (Option.some (Jvm.ClassFile.FieldType.object "com/example/hafiza/hafiza/Durability")), Jvm.Cond.code ({ cls := "com/example/hafiza/hafiza/StoreConfig", name := "setAllowCreate", desc := "(Z)V" } : Jvm.MethodName) prog_24_method_2_code (2 : Nat) (Option.none : Option Jvm.ClassFile.FieldType), Jvm.Cond.code ({ cls := "com/example/hafiza/hafiza/StoreConfig", name := "setDurability", desc := "(Lcom/example/hafiza/hafiza/Durability;)V" } : Jvm.MethodName) prog_24_method_8_code (2 : Nat) (Option.none : Option Jvm.ClassFile.FieldType)]
set_option maxRecDepth 65536 in
theorem codes_eq : words1.filter isCode = codes1 := rfl
theorem w_codes : ∀ c ∈ words1.filter isCode, c.before args0 about1 = true := by
  rw [codes_eq]
  intro c hc
  simp only [codes1, List.mem_cons, List.not_mem_nil, or_false] at hc
  rcases hc with rfl | rfl | rfl | rfl | rfl | rfl | rfl | rfl | rfl | rfl | rfl | rfl | rfl | rfl | rfl | rfl | rfl | rfl | rfl | rfl | rfl
  · exact w_c0
  · exact w_c1
  · exact w_c2
  · exact w_c3
  · exact w_c4
  · exact w_c5
  · exact w_c6
  · exact w_c7
  · exact w_c8
  · exact w_c9
  · exact w_c10
  · exact w_c11
  · exact w_c12
  · exact w_c13
  · exact w_c14
  · exact w_c15
  · exact w_c16
  · exact w_c17
  · exact w_c18
  · exact w_c19
  · exact w_c20
set_option maxRecDepth 65536 in
theorem w_t1 : (words1.take 24).all (fun c => isCode c || c.before args0 about1) = true := by decide +kernel
set_option maxRecDepth 65536 in
theorem w_t2 : ((words1.drop 24).take 24).all (fun c => isCode c || c.before args0 about1) = true := by decide +kernel
set_option maxRecDepth 65536 in
theorem w_t3 : (((words1.drop 24).drop 24).take 24).all (fun c => isCode c || c.before args0 about1) = true := by decide +kernel
set_option maxRecDepth 65536 in
theorem w_t4 : ((((words1.drop 24).drop 24).drop 24).take 24).all (fun c => isCode c || c.before args0 about1) = true := by decide +kernel
set_option maxRecDepth 65536 in
theorem w_t5 : (((((words1.drop 24).drop 24).drop 24).drop 24).take 24).all (fun c => isCode c || c.before args0 about1) = true := by decide +kernel
set_option maxRecDepth 65536 in
theorem w_t6 : ((((((words1.drop 24).drop 24).drop 24).drop 24).drop 24).take 24).all (fun c => isCode c || c.before args0 about1) = true := by decide +kernel
set_option maxRecDepth 65536 in
theorem w_t7 : ((((((words1.drop 24).drop 24).drop 24).drop 24).drop 24).drop 24).all (fun c => isCode c || c.before args0 about1) = true := by decide +kernel
theorem w_tables : (allAtoms (Jvm.Cond.code x code maxLocals ret :: tables_1)).before args0 about1 = true := by
  rw [allAtoms_all]
  show words1.all (fun c => c.before args0 about1) = true
  refine all_split ?_ w_codes
  rw [← List.take_append_drop 24 words1, List.all_append, w_t1, ← List.take_append_drop 24 (words1.drop 24), List.all_append, w_t2, ← List.take_append_drop 24 ((words1.drop 24).drop 24), List.all_append, w_t3, ← List.take_append_drop 24 (((words1.drop 24).drop 24).drop 24), List.all_append, w_t4, ← List.take_append_drop 24 ((((words1.drop 24).drop 24).drop 24).drop 24), List.all_append, w_t5, ← List.take_append_drop 24 (((((words1.drop 24).drop 24).drop 24).drop 24).drop 24), List.all_append, w_t6, w_t7]
  rfl
set_option maxRecDepth 65536 in
theorem w_case : (Jvm.Cond.and given_1 narrow_1).before args0 about1 = true := by decide +kernel
theorem w_applies : (headSpec (Jvm.Cond.code x code maxLocals ret :: tables_1) room_1).applies x e0.platform about1 = true :=
  (Spec.applies_iff w_frames).mpr ⟨w_running, w_runnable, w_alone, w_named, w_hears, w_ripe, w_room, w_tables⟩
theorem atStart : AtStart classFile x code maxLocals ret World_1 tables_1 room_1 Calls_1 rest_1 Pre_1 launch0 p0 e0 about1 theMethod args0 below0 :=
  ⟨lists_1, trivial, launch0.admits_env _ _ _, launch0.least_env, fairChoices_fair.cas, fairChoices_fair.clock, w_frames, w_args, w_heap, w_applies, trivial, trivial, w_case⟩
end start1
theorem witness_1 : WitnessClaimed_1 := ⟨start1.p0, start1.e0, start1.about1, start1.theMethod, start1.args0, start1.below0, start1.atStart⟩
end Jvm.Pilot.@@N@@
