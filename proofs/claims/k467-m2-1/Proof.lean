import JvmDerived
import JvmDerived.Pilot.@@N@@Statement
import JvmDerived.Pilot.@@N@@Code
set_option linter.unusedVariables false
set_option linter.unusedSimpArgs false
namespace Jvm.Pilot.@@N@@
open Jvm Jvm.ClassFile Sem Op Lib Jvm.Free Jvm.Stand Jvm.LawKit Jvm.RoadKit Bundle Jvm.Pilot.@@N@@.Jvm.D
def allW : List Jvm.Cond := tables_1 ++ jdkStatics_1
section OwnHead
variable {md : Bool} {en : Bool} {p : Program} {l : Launch} {e : Env} {R : Room} {s : State} {m : MethodId} {args : Array Value} {below : List Frame} {meth : Method} {c : Code} {T T' : State} {Z : State} {own : String} {h h' : Heap} {n0 k n C S : Nat} {a0 : Array Value} {P : Option Value → Heap → Prop} {g g' : JFrame} {pc : Nat} {Ls : Array Slot} {st rest : List Value} {vm0 : Vm} {locs : List Loc}
theorem nfOf {args : Array Value} {s : State} {D : String} {x' z' y : MethodName} (h : (Cond.selects D x' z').before args s = true) (hc : z'.cls = y.cls) : NotFace s y := fun r0 h0 => by
  obtain ⟨c2, r2, m2, q1, q2, q3, q4, kP, hkP, hkPi⟩ := Cond.selects_spec h
  have e1 := findClass_of_methodNamed q3
  have e2 := findClass_of_methodNamed h0
  rw [hc] at e1
  have e3 : m2.cls = r0.cls := Option.some.inj (e1.symm.trans e2)
  exact ⟨kP, e3 ▸ hkP, hkPi⟩
/-- the tables over which the walk stands (false: nothing interned since the start), and how it ends (false: narrow; true: wide) -/
def Bk : Bool → State → Vm → Nat → Prop
  | false, s, V, _ => V = s.vm
  | true, s, V, n => ∃ k0, s.Since V k0 ∧ k0 ≤ n
theorem Bk.mono {vm : Vm} {n n' : Nat} (h : Bk md s vm n) (q : n ≤ n') : Bk md s vm n' := by
  cases md with
  | false => exact h
  | true => obtain ⟨k0, h1, h2⟩ := h; exact ⟨k0, h1, Nat.le_trans h2 q⟩
theorem Bk.start : Bk md s s.vm n := by
  cases md with
  | false => rfl
  | true => exact ⟨0, (State.WarmedH.refl s).since 0, Nat.zero_le _⟩
def EndF : Bool → State → Outcome → State → List Loc → Nat → Nat → Prop
  | false, s, o, t, L, k, n => FrameEnd s o t L k n
  | true, s, o, t, L, k, n => ReturnedEndW s o t L k n
theorem EndF.mono {o : Outcome} {t : State} {L : List Loc} {k' n' : Nat} (h : EndF en s o t L k n) (hk : k ≤ k') (hn : n ≤ n') : EndF en s o t L k' n' := by
  cases en with
  | false => exact ⟨h.1, h.2.1, h.2.2.mono hk hn⟩
  | true => exact ⟨h.1, h.2.1, h.2.2.1, h.2.2.2.mono hk hn⟩
theorem Bk.leave (hme : md = true → en = true) (X : Stand p l e R (s.setVm vm0) m args below meth c T locs k n) (hB : Bk md s vm0 T.heap.size) {v : Option Value} (hv : meth.sig.returnType = none → v = none) (hlk : meth.locks = false) :
    ∃ fs, (∀ (f : JFrame) (acts : List Action), f.method = m → f.locked = none → f.entered = [] → (doReturn e (T.setTop f) acts v).1 = T.setFrames fs) ∧ (T.setFrames fs).status = .running ∧ Ended (T.setFrames fs) below (.returned v) ∧ EndF en s (.returned v) (T.setFrames fs) locs k n := by
  cases md with
  | false =>
    obtain rfl : vm0 = s.vm := hB
    have X : Stand p l e R s m args below meth c T locs k n := X
    obtain ⟨fs, hr, hrun, hended, hW, hsame⟩ := X.leave hv hlk
    refine ⟨fs, hr, hrun, hended, ?_⟩
    cases en with
    | false => exact ⟨⟨_, rfl⟩, hW, hsame⟩
    | true => exact ReturnedEndW.of_narrow ⟨_, rfl⟩ hW hsame
  | true =>
    obtain rfl : en = true := hme rfl
    obtain ⟨k0, hS, hk⟩ := hB
    exact X.leaveW hS hk hv hlk
/-- a body's contract -/
def Met (l : Launch) (Z : State) (n0 : Nat) (y : MethodName) (bytes : ByteArray) (maxL : Nat) (ret : Option FieldType) (rm : Room) (as' : Array Value) (h0 : Heap) (Q : Option Value → Heap → Prop) : Prop :=
  MetFree l y (head1 [Cond.code y bytes maxL ret] rm) (fun a U => a = as' ∧ Z.Warmed39 U.vm ∧ U.heap = h0) (fun _ _ _ _ _ => True) (fun _ U o U' => ∃ v L, o = .returned v ∧ (Fr n0 L ∧ Q v U'.heap) ∧ EndF false U o U' L rm.cells rm.slots)
theorem Met.grows {y : MethodName} {bytes : ByteArray} {maxL : Nat} {ret : Option FieldType} {rm : Room} {as' : Array Value} {h0 : Heap} {Q : Option Value → Heap → Prop} (M : Met l Z n0 y bytes maxL ret rm as' h0 Q) : Met l Z n0 y bytes maxL ret rm as' h0 (fun v h' => Q v h' ∧ h0.size ≤ h'.size) := by
  intro p e h1 h2 h3 s m args below h4 h5 h6 h7
  obtain ⟨n, o, q1, q2, q3, v, L, q4, ⟨q5, q6⟩, q7⟩ := M p e h1 h2 h3 s m args below h4 h5 h6 h7
  have q8 : FrameEnd s o _ L rm.cells rm.slots := q7
  exact ⟨n, o, q1, q2, q3, v, L, q4, ⟨q5, q6, by have q9 := q8.2.2.2.1; rw [h6.2.2] at q9; exact q9⟩, q7⟩
theorem decl_of {args : Array Value} {y : MethodName} {bytes : ByteArray} {maxL : Nat} {ret : Option FieldType} (w4 : (Cond.instanceMethod y).before args s = true) (wc : (Cond.code y bytes maxL ret).before args s = true) : (Cond.declares y).before args s = true := by
  obtain ⟨mk, me, h1, h2, h3, h4⟩ := Cond.instanceMethod_spec w4
  obtain ⟨me', cc, q1, -, -, -, -, -, -, q8⟩ := Cond.code_spec h1 wc
  cases h2.symm.trans q1
  simp [Cond.before, Cond.holds, Cond.value, h1, h2, h3, q8]
theorem same_of {args : Array Value} {y : MethodName} {D : String} {x' z' : MethodName} (w4 : (Cond.instanceMethod y).before args s = true) (hy : y.cls ≠ "java/lang/invoke/MethodHandle" ∧ y.cls ≠ "java/lang/invoke/VarHandle") (w5 : (Cond.selects D x' z').before args s = true) (h5 : z'.cls = y.cls) : (Cond.sameMethod y.cls y.cls y.name y.desc).before args s = true := by
  obtain ⟨mk, me, h1, h2, h3, h4⟩ := Cond.instanceMethod_spec w4
  obtain ⟨kr, q1, q2⟩ := nfOf w5 h5 mk h1
  have e1 := findClass_of_methodNamed h1
  have e2 := State.methodFound?_of_named h1 hy
  have e3 : s.methodNamed? ⟨y.cls, y.name, y.desc⟩ = some mk := h1
  simp [Cond.before, Cond.holds, Cond.value, e1, e2, e3, q1, q2]
theorem sel_of {args : Array Value} {y : MethodName} {D : String} {x' z' : MethodName} (w4 : (Cond.instanceMethod y).before args s = true) (wp : (Cond.privateMethod y).before args s = true) (hy : y.cls ≠ "java/lang/invoke/MethodHandle" ∧ y.cls ≠ "java/lang/invoke/VarHandle") (w5 : (Cond.selects D x' z').before args s = true) (h5 : z'.cls = y.cls) : (Cond.selects y.cls y y).before args s = true := by
  obtain ⟨mk, me, h1, h2, h3, h4⟩ := Cond.instanceMethod_spec w4
  obtain ⟨kr, q1, q2⟩ := nfOf w5 h5 mk h1
  have e1 := findClass_of_methodNamed h1
  have e2 := State.methodFound?_of_named h1 hy
  have e3 : selectMethod {} s.vm mk.cls mk = .method mk := selectMethod_private h2 (Cond.privateMethod_at wp mk me h1 h2)
  simp [Cond.before, Cond.holds, Cond.value, e1, e2, h1, e3, q1, q2]
theorem Bk.callS (X : Stand p l e R (s.setVm vm0) m args below meth c T locs k n) (hx : p.tables.exec = Jvm.exec) (hB : Bk md s vm0 T.heap.size) (hZ : Z.Warmed39 vm0) (hown : vm0.findClass own = some m.cls) {index : Nat} {y : MethodName} {bytes : ByteArray} {maxL : Nat} {ret : Option FieldType} {rm : Room} {argsL : List Value} {Q : Option Value → Heap → Prop} {ps : List FieldType} {r : Option FieldType} (w1 : (Cond.methodLink own index y).before a0 Z = true) (w2 : (Cond.static y).before a0 Z = true) (wz : (Cond.initialized y.cls).before a0 Z = true) (wc : (Cond.code y bytes maxL ret).before a0 Z = true) (hy : y.cls ≠ "java/lang/invoke/MethodHandle" ∧ y.cls ≠ "java/lang/invoke/VarHandle")
    (hpd : parseMethodDescriptor y.desc = some ⟨ps, r⟩) (hlen : argsL.length = ps.length) (M : Met l Z n0 y bytes maxL ret rm argsL.toArray T.heap Q) (hsz : Ls.size = c.maxLocals) (hstk : st = argsL.reverse ++ rest) (hf : rm.frames + 1 ≤ R.frames) (hl : (rest.map fun v => v.category).sum + (maxL + 11) + rm.locals ≤ R.locals) (hd : decode c.code pc = .ok (.invokestatic index, 3)) (hc : k + rm.cells ≤ R.cells) (hs : n + rm.slots ≤ R.slots) :
    ∃ (v : Option Value) (vm1 : Vm) (T1 : State) (L2 : List Loc), Stand p l e R (s.setVm vm1) m args below meth c T1 (locs ++ L2) (k + rm.cells) (n + rm.slots) ∧ Bk md s vm1 T1.heap.size ∧ Z.Warmed39 vm1 ∧ vm1.findClass own = some m.cls ∧ Fr n0 L2 ∧ Q v T1.heap ∧ ∀ t, Steps p.tables e below (T1.setTop (mkF m (pc + 3) Ls (v.toList ++ rest))) t → Steps p.tables e below (T.setTop (mkF m pc Ls st)) t := by
  have hZ' : Z.Warmed39 (s.setVm vm0).vm := hZ
  have M := M.grows
  obtain ⟨v, vm1, ⟨T1, L1, k1, n1⟩, -, X1, ⟨L2, ⟨N2, hQ⟩, l1, y1, z1⟩, st1⟩ := Jvm.LawKit.callS X hx (y := y) hown (mvT (s := s.setVm vm0) hZ w1) (mvT (s := s.setVm vm0) hZ w2) (mvT (s := s.setVm vm0) hZ wz) (mvT (s := s.setVm vm0) hZ wc) hy (backOf (Q := fun v h' L => Fr n0 L ∧ (Q v h' ∧ T.heap.size ≤ h'.size)) (W := (rest.map fun v => v.category).sum) M hZ' wc wz hf hl) (g := mkF m pc Ls st) rfl hsz (argsL := argsL) (rest := rest) (lenOf hpd hlen) hstk (by show 2 * 0 + _ ≤ _; omega) hd (fun _ _ => ⟨rfl, rfl, hc, hs⟩)
  dsimp only [Pt.U, Pt.locs, Pt.cells, Pt.slots] at X1 l1 y1 z1 st1 hQ
  subst l1 y1 z1
  exact ⟨v, vm0, T1, L2, X1, hB.mono hQ.2, hZ, hown, N2, hQ.1, st1⟩
theorem Bk.callSN (X : Stand p l e R (s.setVm vm0) m args below meth c T locs k n) (hx : p.tables.exec = Jvm.exec) (hB : Bk md s vm0 T.heap.size) (hZ : Z.Warmed39 vm0) (hown : vm0.findClass own = some m.cls) {index : Nat} {y : MethodName} {bytes : ByteArray} {maxL : Nat} {ret : Option FieldType} {rm : Room} {argsL : List Value} {Q : Option Value → Heap → Prop} {ps : List FieldType} {r : Option FieldType} {host : String} (w1 : (Cond.methodLinkNest own index y host).before a0 Z = true) (w2 : (Cond.static y).before a0 Z = true) (wz : (Cond.initialized y.cls).before a0 Z = true) (wc : (Cond.code y bytes maxL ret).before a0 Z = true) (hy : y.cls ≠ "java/lang/invoke/MethodHandle" ∧ y.cls ≠ "java/lang/invoke/VarHandle")
    (hpd : parseMethodDescriptor y.desc = some ⟨ps, r⟩) (hlen : argsL.length = ps.length) (M : Met l Z n0 y bytes maxL ret rm argsL.toArray T.heap Q) (hsz : Ls.size = c.maxLocals) (hstk : st = argsL.reverse ++ rest) (hf : rm.frames + 1 ≤ R.frames) (hl : (rest.map fun v => v.category).sum + (maxL + 11) + rm.locals ≤ R.locals) (hd : decode c.code pc = .ok (.invokestatic index, 3)) (hc : k + rm.cells ≤ R.cells) (hs : n + rm.slots ≤ R.slots) :
    ∃ (v : Option Value) (vm1 : Vm) (T1 : State) (L2 : List Loc), Stand p l e R (s.setVm vm1) m args below meth c T1 (locs ++ L2) (k + rm.cells) (n + rm.slots) ∧ Bk md s vm1 T1.heap.size ∧ Z.Warmed39 vm1 ∧ vm1.findClass own = some m.cls ∧ Fr n0 L2 ∧ Q v T1.heap ∧ ∀ t, Steps p.tables e below (T1.setTop (mkF m (pc + 3) Ls (v.toList ++ rest))) t → Steps p.tables e below (T.setTop (mkF m pc Ls st)) t := by
  have hZ' : Z.Warmed39 (s.setVm vm0).vm := hZ
  have M := M.grows
  obtain ⟨v, vm1, ⟨T1, L1, k1, n1⟩, -, X1, ⟨L2, ⟨N2, hQ⟩, l1, y1, z1⟩, st1⟩ := Jvm.RoadKit.callSN X hx (y := y) (host := host) hown ((Cond.methodLinkNest_wide hZ w1 :)) (mvT (s := s.setVm vm0) hZ w2) (mvT (s := s.setVm vm0) hZ wz) (mvT (s := s.setVm vm0) hZ wc) hy (backOf (Q := fun v h' L => Fr n0 L ∧ (Q v h' ∧ T.heap.size ≤ h'.size)) (W := (rest.map fun v => v.category).sum) M hZ' wc wz hf hl) (g := mkF m pc Ls st) rfl hsz (argsL := argsL) (rest := rest) (lenOf hpd hlen) hstk (by show 2 * 0 + _ ≤ _; omega) hd (fun _ _ => ⟨rfl, rfl, hc, hs⟩)
  dsimp only [Pt.U, Pt.locs, Pt.cells, Pt.slots] at X1 l1 y1 z1 st1 hQ
  subst l1 y1 z1
  exact ⟨v, vm0, T1, L2, X1, hB.mono hQ.2, hZ, hown, N2, hQ.1, fun _ q => st1.trans q⟩
theorem Bk.callV (X : Stand p l e R (s.setVm vm0) m args below meth c T locs k n) (hx : p.tables.exec = Jvm.exec) (hB : Bk md s vm0 T.heap.size) (hZ : Z.Warmed39 vm0) (hown : vm0.findClass own = some m.cls) {index : Nat} {y : MethodName} {bytes : ByteArray} {maxL : Nat} {ret : Option FieldType} {rm : Room} {argsL : List Value} {Q : Option Value → Heap → Prop} {ps : List FieldType} {r : Option FieldType} {z : MethodName} {K : String} {b : Addr} (E : Exa Z T.heap b K) (w1 : (Cond.methodLink own index y).before a0 Z = true) (w2 : (Cond.declares y).before a0 Z = true) (w3 : (Cond.selects K y z).before a0 Z = true) {D : String} {x' z' : MethodName} (w5 : (Cond.selects D x' z').before a0 Z = true) (h5 : z'.cls = y.cls) (w4 : (Cond.instanceMethod z).before a0 Z = true) (wz : (Cond.initialized z.cls).before a0 Z = true) (wc : (Cond.code z bytes maxL ret).before a0 Z = true) (hy : y.cls ≠ "java/lang/invoke/MethodHandle" ∧ y.cls ≠ "java/lang/invoke/VarHandle")
    (hpd : parseMethodDescriptor y.desc = some ⟨ps, r⟩) (hlen : argsL.length = ps.length) (M : Met l Z n0 z bytes maxL ret rm (.ref b :: argsL).toArray T.heap Q) (hsz : Ls.size = c.maxLocals) (hstk : st = argsL.reverse ++ .ref b :: rest) (hf : rm.frames + 1 ≤ R.frames) (hl : (rest.map fun v => v.category).sum + (maxL + 11) + rm.locals ≤ R.locals) (hd : decode c.code pc = .ok (.invokevirtual index, 3)) (hc : k + rm.cells ≤ R.cells) (hs : n + rm.slots ≤ R.slots) :
    ∃ (v : Option Value) (vm1 : Vm) (T1 : State) (L2 : List Loc), Stand p l e R (s.setVm vm1) m args below meth c T1 (locs ++ L2) (k + rm.cells) (n + rm.slots) ∧ Bk md s vm1 T1.heap.size ∧ Z.Warmed39 vm1 ∧ vm1.findClass own = some m.cls ∧ Fr n0 L2 ∧ Q v T1.heap ∧ ∀ t, Steps p.tables e below (T1.setTop (mkF m (pc + 3) Ls (v.toList ++ rest))) t → Steps p.tables e below (T.setTop (mkF m pc Ls st)) t := by
  have hZ' : Z.Warmed39 (s.setVm vm0).vm := hZ
  have M := M.grows
  obtain ⟨cq, kq, qa, qb, qc⟩ := isOf (s := s.setVm vm0) hZ' rfl E
  obtain ⟨v, vm1, ⟨T1, L1, k1, n1⟩, -, X1, ⟨L2, ⟨N2, hQ⟩, l1, y1, z1⟩, st1⟩ := X.virtualBack hx (y := y) (z := z) hown (mvT (s := s.setVm vm0) hZ w1) (mvT (s := s.setVm vm0) hZ w2) (nfOf (args := #[]) (mvT (s := s.setVm vm0) hZ w5) h5) (mvT (s := s.setVm vm0) hZ w3) (mvT (s := s.setVm vm0) hZ w4) hy (backOf (Q := fun v h' L => Fr n0 L ∧ (Q v h' ∧ T.heap.size ≤ h'.size)) (W := (rest.map fun v => v.category).sum) M hZ' wc wz hf hl) qa qc (g := mkF m pc Ls st) rfl hsz (Steps.refl _) (argsL := argsL) (rest := rest) (lenOf hpd hlen) hstk (by show 2 * 0 + _ ≤ _; omega) hd (fun _ _ => ⟨rfl, rfl, hc, hs⟩)
  dsimp only [Pt.U, Pt.locs, Pt.cells, Pt.slots] at X1 l1 y1 z1 st1 hQ
  subst l1 y1 z1
  exact ⟨v, vm0, T1, L2, X1, hB.mono hQ.2, hZ, hown, N2, hQ.1, fun _ q => st1.trans q⟩
theorem Bk.callU (X : Stand p l e R (s.setVm vm0) m args below meth c T locs k n) (hx : p.tables.exec = Jvm.exec) (hB : Bk md s vm0 T.heap.size) (hZ : Z.Warmed39 vm0) (hown : vm0.findClass own = some m.cls) {index : Nat} {y : MethodName} {bytes : ByteArray} {maxL : Nat} {ret : Option FieldType} {rm : Room} {argsL : List Value} {Q : Option Value → Heap → Prop} {ps : List FieldType} {r : Option FieldType} {z : MethodName} {owner K : String} {b : Addr} (E : Exa Z T.heap b K) (w1 : (Cond.methodLink own index y).before a0 Z = true) (wsm : (Cond.sameMethod y.cls owner y.name y.desc).before a0 Z = true) (w2 : (Cond.declares ⟨owner, y.name, y.desc⟩).before a0 Z = true) (ho : owner ≠ "java/lang/invoke/MethodHandle" ∧ owner ≠ "java/lang/invoke/VarHandle") (w3 : (Cond.selects K y z).before a0 Z = true) (w4 : (Cond.instanceMethod z).before a0 Z = true) (wz : (Cond.initialized z.cls).before a0 Z = true) (wc : (Cond.code z bytes maxL ret).before a0 Z = true)
    (hpd : parseMethodDescriptor y.desc = some ⟨ps, r⟩) (hlen : argsL.length = ps.length) (M : Met l Z n0 z bytes maxL ret rm (.ref b :: argsL).toArray T.heap Q) (hsz : Ls.size = c.maxLocals) (hstk : st = argsL.reverse ++ .ref b :: rest) (hf : rm.frames + 1 ≤ R.frames) (hl : (rest.map fun v => v.category).sum + (maxL + 11) + rm.locals ≤ R.locals) (hd : decode c.code pc = .ok (.invokevirtual index, 3)) (hc : k + rm.cells ≤ R.cells) (hs : n + rm.slots ≤ R.slots) :
    ∃ (v : Option Value) (vm1 : Vm) (T1 : State) (L2 : List Loc), Stand p l e R (s.setVm vm1) m args below meth c T1 (locs ++ L2) (k + rm.cells) (n + rm.slots) ∧ Bk md s vm1 T1.heap.size ∧ Z.Warmed39 vm1 ∧ vm1.findClass own = some m.cls ∧ Fr n0 L2 ∧ Q v T1.heap ∧ ∀ t, Steps p.tables e below (T1.setTop (mkF m (pc + 3) Ls (v.toList ++ rest))) t → Steps p.tables e below (T.setTop (mkF m pc Ls st)) t := by
  have hZ' : Z.Warmed39 (s.setVm vm0).vm := hZ
  have M := M.grows
  obtain ⟨cq, kq, qa, qb, qc⟩ := isOf (s := s.setVm vm0) hZ' rfl E
  obtain ⟨v, vm1, ⟨T1, L1, k1, n1⟩, -, X1, ⟨L2, ⟨N2, hQ⟩, l1, y1, z1⟩, st1⟩ := X.virtualBackUp hx (x := y) (y := z) hown (mvT (s := s.setVm vm0) hZ w1) (mvT (s := s.setVm vm0) hZ wsm) (mvT (s := s.setVm vm0) hZ w2) ho (mvT (s := s.setVm vm0) hZ w3) (mvT (s := s.setVm vm0) hZ w4) (backOf (Q := fun v h' L => Fr n0 L ∧ (Q v h' ∧ T.heap.size ≤ h'.size)) (W := (rest.map fun v => v.category).sum) M hZ' wc wz hf hl) qa qc (g := mkF m pc Ls st) rfl hsz (Steps.refl _) (argsL := argsL) (rest := rest) (lenOf hpd hlen) hstk (by show 2 * 0 + _ ≤ _; omega) hd (fun _ _ => ⟨rfl, rfl, hc, hs⟩)
  dsimp only [Pt.U, Pt.locs, Pt.cells, Pt.slots] at X1 l1 y1 z1 st1 hQ
  subst l1 y1 z1
  exact ⟨v, vm0, T1, L2, X1, hB.mono hQ.2, hZ, hown, N2, hQ.1, fun _ q => st1.trans q⟩
theorem Bk.callN (X : Stand p l e R (s.setVm vm0) m args below meth c T locs k n) (hx : p.tables.exec = Jvm.exec) (hB : Bk md s vm0 T.heap.size) (hZ : Z.Warmed39 vm0) (hown : vm0.findClass own = some m.cls) {index : Nat} {y : MethodName} {bytes : ByteArray} {maxL : Nat} {rm : Room} {argsL : List Value} {Q : Option Value → Heap → Prop} {ps : List FieldType} {r : Option FieldType} {b : Addr} (hin : y.name = "<init>") (w1 : (Cond.methodLink own index y).before a0 Z = true) (w4 : (Cond.instanceMethod y).before a0 Z = true) (wz : (Cond.initialized y.cls).before a0 Z = true) (wc : (Cond.code y bytes maxL none).before a0 Z = true) (hy : y.cls ≠ "java/lang/invoke/MethodHandle" ∧ y.cls ≠ "java/lang/invoke/VarHandle")
    (hpd : parseMethodDescriptor y.desc = some ⟨ps, r⟩) (hlen : argsL.length = ps.length) (M : Met l Z n0 y bytes maxL none rm (.ref b :: argsL).toArray T.heap Q) (hsz : Ls.size = c.maxLocals) (hstk : st = argsL.reverse ++ .ref b :: rest) (hf : rm.frames + 1 ≤ R.frames) (hl : (rest.map fun v => v.category).sum + (maxL + 11) + rm.locals ≤ R.locals) (hd : decode c.code pc = .ok (.invokespecial index, 3)) (hc : k + rm.cells ≤ R.cells) (hs : n + rm.slots ≤ R.slots) :
    ∃ (v : Option Value) (vm1 : Vm) (T1 : State) (L2 : List Loc), Stand p l e R (s.setVm vm1) m args below meth c T1 (locs ++ L2) (k + rm.cells) (n + rm.slots) ∧ Bk md s vm1 T1.heap.size ∧ Z.Warmed39 vm1 ∧ vm1.findClass own = some m.cls ∧ Fr n0 L2 ∧ Q v T1.heap ∧ ∀ t, Steps p.tables e below (T1.setTop (mkF m (pc + 3) Ls (v.toList ++ rest))) t → Steps p.tables e below (T.setTop (mkF m pc Ls st)) t := by
  have hZ' : Z.Warmed39 (s.setVm vm0).vm := hZ
  have M := M.grows
  obtain ⟨v, vm1, ⟨T1, L1, k1, n1⟩, -, X1, ⟨L2, ⟨N2, hQ⟩, l1, y1, z1⟩, st1⟩ := X.specialBack hx (y := y) hin hown (mvT (s := s.setVm vm0) hZ w1) (mvT (s := s.setVm vm0) hZ w4) (mvT (s := s.setVm vm0) hZ wc) hy (backOf (Q := fun v h' L => Fr n0 L ∧ (Q v h' ∧ T.heap.size ≤ h'.size)) (W := (rest.map fun v => v.category).sum) M hZ' wc wz hf hl) (g := mkF m pc Ls st) rfl hsz (Steps.refl _) (a := b) (argsL := argsL) (rest := rest) (lenOf hpd hlen) hstk (by show 2 * 0 + _ ≤ _; omega) hd (fun _ _ => ⟨rfl, rfl, hc, hs⟩)
  dsimp only [Pt.U, Pt.locs, Pt.cells, Pt.slots] at X1 l1 y1 z1 st1 hQ
  subst l1 y1 z1
  exact ⟨v, vm0, T1, L2, X1, hB.mono hQ.2, hZ, hown, N2, hQ.1, fun _ q => st1.trans q⟩
end OwnHead
/-! own layer: a walk in continuation form over the library's laws -/
section OwnKit
variable {md : Bool} {en : Bool} {p : Program} {l : Launch} {e : Env} {R : Room} {s : State} {m : MethodId} {args : Array Value} {below : List Frame} {meth : Method} {c : Code} {T T' : State} {Z : State} {own : String} {h h' : Heap} {n0 k n C S : Nat} {a0 : Array Value} {P : Option Value → Heap → Prop} {g g' : JFrame} {pc : Nat} {Ls : Array Slot} {st rest : List Value}
/-- where the walk stands: nothing but new cells written, n0 the first new address -/
def Std (md : Bool) (p : Program) (l : Launch) (e : Env) (R : Room) (s : State) (m : MethodId) (args : Array Value) (below : List Frame) (meth : Method) (c : Code) (Z : State) (own : String) (n0 : Nat) (T : State) (h : Heap) (k n : Nat) : Prop :=
  ∃ vm0, (∃ locs, Stand p l e R (s.setVm vm0) m args below meth c T locs k n ∧ Fr n0 locs) ∧ T.heap = h ∧ p.tables.exec = Jvm.exec ∧ Z.Warmed39 vm0 ∧ vm0.findClass own = some m.cls ∧ Bk md s vm0 h.size ∧ n0 ≤ s.heap.size ∧ meth.locks = false
/-- from here the method returns, and P holds of what it returns and of the heap -/
def Goes (en : Bool) (p : Program) (e : Env) (below : List Frame) (s : State) (n0 C S : Nat) (P : Option Value → Heap → Prop) (T : State) (g : JFrame) : Prop :=
  ∃ (s₂ : State) (v : Option Value) (L : List Loc), Steps p.tables e below (T.setTop g) s₂ ∧ s₂.status = .running ∧ Ended s₂ below (.returned v) ∧ (Fr n0 L ∧ P v s₂.heap) ∧ EndF en s (.returned v) s₂ L C S
theorem Std.here (X : Std md p l e R s m args below meth c Z own n0 T h k n) : At T m c below := by obtain ⟨vm0, ⟨L, X, -⟩, -⟩ := X; exact X.here
theorem Std.hx (X : Std md p l e R s m args below meth c Z own n0 T h k n) : p.tables.exec = Jvm.exec := by obtain ⟨vm0, -, -, h, -⟩ := X; exact h
theorem Std.n0le (X : Std md p l e R s m args below meth c Z own n0 T h k n) : n0 ≤ h.size := by
  obtain ⟨vm0, ⟨L, X, -⟩, rfl, -, -, -, -, q, -⟩ := X
  exact Nat.le_trans q X.same.2.1
theorem Goes.by (st : ∀ t, Steps p.tables e below (T'.setTop g') t → Steps p.tables e below (T.setTop g) t) (G : Goes en p e below s n0 C S P T' g') : Goes en p e below s n0 C S P T g := by
  obtain ⟨s₂, v, L, h1, r⟩ := G
  exact ⟨s₂, v, L, st _ h1, r⟩
theorem Goes.mono {P' : Option Value → Heap → Prop} (G : Goes en p e below s n0 C S P T g) (q : ∀ v h, P v h → P' v h) : Goes en p e below s n0 C S P' T g := by
  obtain ⟨s₂, v, L, h1, h2, h3, ⟨h4, h5⟩, h6⟩ := G
  exact ⟨s₂, v, L, h1, h2, h3, ⟨h4, q _ _ h5⟩, h6⟩
theorem Std.retOut (X : Std md p l e R s m args below meth c Z own n0 T h k n) {w : Value} {t : FieldType} {i : Instr} (hret : meth.sig.returnType = some t) (hn : narrow t w = w)
    (hi : (i = .ireturn ∧ (t = .int ∨ t = .boolean ∨ t = .byte ∨ t = .char ∨ t = .short) ∧ ∃ z, w = .int z) ∨ (i = .lreturn ∧ t = .long ∧ ∃ z, w = .long z) ∨ (i = .dreturn ∧ t = .double ∧ ∃ z, w = .double z) ∨ (i = .freturn ∧ t = .float ∧ ∃ z, w = .float z) ∨ (i = .areturn ∧ t.isReference = true ∧ w.isRef = true))
    (hd : decode c.code pc = .ok (i, 1)) (hc : k ≤ C) (hs : n ≤ S) (hP : P (some w) h) (hme : md = true → en = true := by decide) : Goes en p e below s n0 C S P T (mkF m pc Ls (w :: rest)) := by
  obtain ⟨vm0, ⟨L, X, N⟩, rfl, hx, -, -, hB, -, hlk⟩ := X
  obtain ⟨fs, hr, hrun, hended, hE⟩ := Bk.leave hme X hB (v := some w) (fun q => by rw [hret] at q; cases q) hlk
  exact ⟨_, _, L, Jvm.RoadKit.retOut X hx hret hn hi hd hr, hrun, hended, ⟨N, hP⟩, EndF.mono hE hc hs⟩
theorem Std.retI (X : Std md p l e R s m args below meth c Z own n0 T h k n) {z : Int32} (hret : meth.sig.returnType = some .int) (hd : decode c.code pc = .ok (.ireturn, 1)) (hc : k ≤ C) (hs : n ≤ S) (hP : P (some (.int z)) h) (hme : md = true → en = true := by decide) : Goes en p e below s n0 C S P T (mkF m pc Ls (.int z :: rest)) :=
  X.retOut (hme := hme) hret rfl (Or.inl ⟨rfl, Or.inl rfl, z, rfl⟩) hd hc hs hP
theorem Std.retA (X : Std md p l e R s m args below meth c Z own n0 T h k n) {w : Value} {t : FieldType} (hret : meth.sig.returnType = some t) (ht : t.isReference = true) (hw : w.isRef = true) (hd : decode c.code pc = .ok (.areturn, 1)) (hc : k ≤ C) (hs : n ≤ S) (hP : P (some w) h) (hme : md = true → en = true := by decide) : Goes en p e below s n0 C S P T (mkF m pc Ls (w :: rest)) :=
  X.retOut (hme := hme) hret (by rcases ref_cases hw with rfl | ⟨a, rfl⟩ <;> cases t <;> rfl) (Or.inr (Or.inr (Or.inr (Or.inr ⟨rfl, ht, hw⟩)))) hd hc hs hP
theorem Std.retJ (X : Std md p l e R s m args below meth c Z own n0 T h k n) {z : Int64} (hret : meth.sig.returnType = some .long) (hd : decode c.code pc = .ok (.lreturn, 1)) (hc : k ≤ C) (hs : n ≤ S) (hP : P (some (.long z)) h) (hme : md = true → en = true := by decide) : Goes en p e below s n0 C S P T (mkF m pc Ls (.long z :: rest)) :=
  X.retOut (hme := hme) hret rfl (Or.inr (Or.inl ⟨rfl, rfl, z, rfl⟩)) hd hc hs hP
theorem Std.retN (X : Std md p l e R s m args below meth c Z own n0 T h k n) {z : Int32} {t : FieldType} (hret : meth.sig.returnType = some t) (ht : t = .boolean ∨ t = .byte ∨ t = .char ∨ t = .short) (hd : decode c.code pc = .ok (.ireturn, 1)) (hc : k ≤ C) (hs : n ≤ S) (hP : P (some (.int (nar t z))) h) (hme : md = true → en = true := by decide) : Goes en p e below s n0 C S P T (mkF m pc Ls (.int z :: rest)) := by
  obtain ⟨vm0, ⟨L, X, N⟩, rfl, hx, -, -, hB, -, hlk⟩ := X
  obtain ⟨fs, hr, hrun, hended, hE⟩ := Bk.leave hme X hB (v := some (.int (nar t z))) (fun q => by rw [hret] at q; cases q) hlk
  exact ⟨_, _, L, Jvm.RoadKit.retN X hx hret ht hd hr, hrun, hended, ⟨N, hP⟩, EndF.mono hE hc hs⟩
theorem Std.retZ (X : Std md p l e R s m args below meth c Z own n0 T h k n) {z : Int32} (hret : meth.sig.returnType = some .boolean) (hd : decode c.code pc = .ok (.ireturn, 1)) (hc : k ≤ C) (hs : n ≤ S) (hP : P (some (.int (nar .boolean z))) h) (hme : md = true → en = true := by decide) : Goes en p e below s n0 C S P T (mkF m pc Ls (.int z :: rest)) :=
  X.retN (hme := hme) hret (Or.inl rfl) hd hc hs hP
theorem Std.retV (X : Std md p l e R s m args below meth c Z own n0 T h k n) (hret : meth.sig.returnType = none) (hd : decode c.code pc = .ok (.return_, 1)) (hc : k ≤ C) (hs : n ≤ S) (hP : P none h) (hme : md = true → en = true := by decide) : Goes en p e below s n0 C S P T (mkF m pc Ls []) := by
  obtain ⟨vm0, ⟨L, X, N⟩, rfl, hx, -, -, hB, -, hlk⟩ := X
  obtain ⟨fs, hr, hrun, hended, hE⟩ := Bk.leave hme X hB (v := none) (fun _ => rfl) hlk
  exact ⟨_, _, L, X.returnOut hx hret hd hr, hrun, hended, ⟨N, hP⟩, EndF.mono hE hc hs⟩
theorem Std.ldcI (X : Std md p l e R s m args below meth c Z own n0 T h k n) {index : Nat} {v : Int32} (w : (Cond.constant own index v).before a0 Z = true) (hd : decode c.code pc = .ok (.ldc index, 2)) (G : Goes en p e below s n0 C S P T (mkF m (pc + 2) Ls (.int v :: st))) : Goes en p e below s n0 C S P T (mkF m pc Ls st) := by
  obtain ⟨vm0, ⟨L, X, N⟩, -, hx, hZ, hown, -⟩ := X
  exact Goes.by (fun _ q => X.ldcI hx hown (mvT (s := s.setVm vm0) hZ w) rfl hd q) G
theorem Std.ldcWI (X : Std md p l e R s m args below meth c Z own n0 T h k n) {index : Nat} {v : Int32} (w : (Cond.constant own index v).before a0 Z = true) (hd : decode c.code pc = .ok (.ldc_w index, 3)) (G : Goes en p e below s n0 C S P T (mkF m (pc + 3) Ls (.int v :: st))) : Goes en p e below s n0 C S P T (mkF m pc Ls st) := by
  obtain ⟨vm0, ⟨L, X, N⟩, -, hx, hZ, hown, -⟩ := X
  exact Goes.by (fun _ q => X.ldcWI hx hown (mvT (s := s.setVm vm0) hZ w) rfl hd q) G
theorem Std.getS (X : Std md p l e R s m args below meth c Z own n0 T h k n) {index : Nat} {R0 O nm d host : String} {v : Value} (w : (Cond.fieldLink own index R0 nm d).before a0 Z = true ∨ (Cond.fieldLinkNest own index R0 nm d host).before a0 Z = true) (via : Via Z R0 O nm d) (F : Sta Z h O nm d v) (hd : decode c.code pc = .ok (.getstatic index, 3))
    (G : ∀ T, Std md p l e R s m args below meth c Z own n0 T h k n → Goes en p e below s n0 C S P T (mkF m (pc + 3) Ls (v :: st))) : Goes en p e below s n0 C S P T (mkF m pc Ls st) := by
  obtain ⟨vm0, ⟨L, X, N⟩, eT, hx, hZ, hown, r⟩ := X
  obtain ⟨T1, X1, e1, st1⟩ := Jvm.RoadKit.getS2 X hx hZ hown w via eT F (g := mkF m pc Ls st) rfl hd
  exact Goes.by st1 (G T1 ⟨vm0, ⟨L, X1, N⟩, e1, hx, hZ, hown, r⟩)
theorem Std.getF (X : Std md p l e R s m args below meth c Z own n0 T h k n) {index : Nat} {R0 O nm d host : String} {a : Addr} {v : Value} (w : (Cond.fieldLink own index R0 nm d).before a0 Z = true ∨ (Cond.fieldLinkNest own index R0 nm d host).before a0 Z = true) (via : Via Z R0 O nm d) (F : Fld Z h a O nm d v) (hd : decode c.code pc = .ok (.getfield index, 3))
    (G : ∀ T, Std md p l e R s m args below meth c Z own n0 T h k n → Goes en p e below s n0 C S P T (mkF m (pc + 3) Ls (v :: rest))) : Goes en p e below s n0 C S P T (mkF m pc Ls (.ref a :: rest)) := by
  obtain ⟨vm0, ⟨L, X, N⟩, eT, hx, hZ, hown, r⟩ := X
  obtain ⟨T1, X1, e1, st1⟩ := Jvm.RoadKit.getF X hx hZ hown w via eT F (g := mkF m pc Ls (.ref a :: rest)) rfl rfl hd
  exact Goes.by st1 (G T1 ⟨vm0, ⟨L, X1, N⟩, e1, hx, hZ, hown, r⟩)
theorem Std.putF (X : Std md p l e R s m args below meth c Z own n0 T h k n) {index kk : Nat} {R0 O nm d host K : String} {ty : FieldType} {a : Addr} {v old : Value} (w : (Cond.fieldLink own index R0 nm d).before a0 Z = true ∨ (Cond.fieldLinkNest own index R0 nm d host).before a0 Z = true) (via : Via Z R0 O nm d) (F : Fld Z h a O nm d old) (E : Exa Z h a K)
    (L : (Cond.lays K O nm d).before a0 Z = true ∨ ((Cond.laysFinal K O nm d).before a0 Z = true ∧ own = O ∧ meth.name = "<init>")) (wi : (Cond.instantiable K kk).before a0 Z = true) (hty : parseFieldDescriptor d = some ty) (hn : narrow ty v = v) (hf : fits ty v = true) (ha : n0 ≤ a) (hd : decode c.code pc = .ok (.putfield index, 3))
    (G : ∀ T h', Std md p l e R s m args below meth c Z own n0 T h' k n → Wr h h' a (Jvm.RoadKit.slotOf Z O nm d) v → Goes en p e below s n0 C S P T (mkF m (pc + 3) Ls rest)) : Goes en p e below s n0 C S P T (mkF m pc Ls (v :: .ref a :: rest)) := by
  obtain ⟨vm0, ⟨L0, X, N⟩, eT, hx, hZ, hown, hB, r⟩ := X
  obtain ⟨T1, h1, X1, e1, W1, st1⟩ := Jvm.RoadKit.putF X hx hZ hown w via eT F E L wi hty hn hf (g := mkF m pc Ls (v :: .ref a :: rest)) rfl rfl hd
  exact Goes.by st1 (G T1 h1 ⟨vm0, ⟨_, X1, Fr.snoc X1 N ha⟩, e1, hx, hZ, hown, hB.mono (Nat.le_of_eq W1.size.symm), r⟩ W1)
theorem Std.newO (X : Std md p l e R s m args below meth c Z own n0 T h k n) {index j : Nat} {K : String} (w : (Cond.classLink own index K).before a0 Z = true) (wi : (Cond.instantiable K j).before a0 Z = true) (wz : (Cond.initialized K).before a0 Z = true) (hd : decode c.code pc = .ok (.new index, 3)) (hc : k + 1 ≤ R.cells) (hl : n + j ≤ R.slots)
    (G : ∀ T h' a, Std md p l e R s m args below meth c Z own n0 T h' (k + 1) (n + j) → a = h.size → n0 ≤ a → Ext h h' → Exa Z h' a K → (∀ {O nm d : String} {ty : FieldType}, Laid Z a0 K O nm d → parseFieldDescriptor d = some ty → Fld Z h' a O nm d (defaultValue ty)) → Goes en p e below s n0 C S P T (mkF m (pc + 3) Ls (.ref a :: st))) : Goes en p e below s n0 C S P T (mkF m pc Ls st) := by
  have q := X.n0le
  obtain ⟨vm0, ⟨L0, X, N⟩, eT, hx, hZ, hown, hB, r⟩ := X
  obtain ⟨T1, h1, X1, e1, E1, A1, D1, -, st1⟩ := Jvm.RoadKit.newO X hx hZ hown w wi wz eT (g := mkF m pc Ls st) rfl hd hc hl
  exact Goes.by st1 (G T1 h1 h.size ⟨vm0, ⟨_, X1, N⟩, e1, hx, hZ, hown, hB.mono E1.1, r⟩ rfl q E1 A1 D1)
theorem Std.initO (X : Std md p l e R s m args below meth c Z own n0 T h k n) {index : Nat} {a : Addr} (w1 : (Cond.methodLink own index Lib.objectInit).before a0 Z = true) (w2 : (Cond.instanceMethod Lib.objectInit).before a0 Z = true) (w3 : (Cond.code Lib.objectInit object_method_1_code 1 none).before a0 Z = true) (hsz : Ls.size = c.maxLocals) (hd : decode c.code pc = .ok (.invokespecial index, 3)) (hf : 1 ≤ R.frames) (hl : (rest.map fun v => v.category).sum + 12 ≤ R.locals)
    (G : ∀ T, Std md p l e R s m args below meth c Z own n0 T h k n → Goes en p e below s n0 C S P T (mkF m (pc + 3) Ls rest)) : Goes en p e below s n0 C S P T (mkF m pc Ls (.ref a :: rest)) := by
  obtain ⟨vm0, ⟨L, X, N⟩, eT, hx, hZ, hown, r⟩ := X
  obtain ⟨T1, X1, e1, st1⟩ := Jvm.RoadKit.initO X hx hZ hown w1 w2 w3 eT (g := mkF m pc Ls (.ref a :: rest)) rfl hsz rfl hd hf (W := (rest.map fun v => v.category).sum) (by show 2 * 0 + _ ≤ _; omega) hl
  exact Goes.by st1 (G T1 ⟨vm0, ⟨L, X1, N⟩, e1, hx, hZ, hown, r⟩)
theorem Std.irem (X : Std md p l e R s m args below meth c Z own n0 T h k n) {x y : Int32} (hd : decode c.code pc = .ok (.irem, 1)) (hy : y ≠ 0) (G : Goes en p e below s n0 C S P T (mkF m (pc + 1) Ls (.int (x % y) :: rest))) : Goes en p e below s n0 C S P T (mkF m pc Ls (.int y :: .int x :: rest)) := by
  obtain ⟨vm0, ⟨L, X, N⟩, eT, hx, r⟩ := X
  exact Goes.by (fun _ q => iremM X hx rfl hd rfl hy q) G
theorem Std.acmp (X : Std md p l e R s m args below meth c Z own n0 T h k n) {cd : ACond} {x y : Value} (h1 : x.isRef = true) (h2 : y.isRef = true) {o : Int} {pc' : Nat} {same : Bool} (hd : decode c.code pc = .ok (.if_acmp cd o, 3)) (hq : decide (x = y) = same) (ho : 0 ≤ (pc : Int) + o) (hp : pc' = if acV cd same = true then ((pc : Int) + o).toNat else pc + 3) (G : Goes en p e below s n0 C S P T (mkF m pc' Ls rest)) : Goes en p e below s n0 C S P T (mkF m pc Ls (y :: x :: rest)) := by
  obtain ⟨vm0, ⟨L, X, N⟩, eT, hx, r⟩ := X
  exact Goes.by (fun _ q => Jvm.RoadKit.acmp X hx rfl h1 h2 rfl hd rfl hq ho hp q) G
theorem metW {ws : List Jvm.Cond} {y : MethodName} {bytes : ByteArray} {maxL : Nat} {ret : Option FieldType} {rm : Room} {as' : Array Value} {h0 : Heap} {Q : Option Value → Heap → Prop} (hpl : plainFor y = true) (hn0 : n0 ≤ h0.size)
    (body : ∀ p e s m below meth c s₁, Std false p l e rm s m as' below meth c Z y.cls n0 s₁ h0 0 0 → c.code = bytes → c.maxLocals = maxL → meth.sig.returnType = ret → meth.name = y.name → Goes false p e below s n0 rm.cells rm.slots Q s₁ (entryFrame m as' maxL)) :
    MetFree l y (head1 (Cond.code y bytes maxL ret :: ws) rm) (fun a U => a = as' ∧ Z.Warmed39 U.vm ∧ U.heap = h0) (fun _ _ _ _ _ => True) (fun _ U o U' => ∃ v L, o = .returned v ∧ (Fr n0 L ∧ Q v U'.heap) ∧ EndF false U o U' L rm.cells rm.slots) := by
  refine MetFree.of_bodySF hpl hisR ?_
  intro p e s m args below meth c s₁ Bd hml hP hK
  obtain ⟨rfl, hZ, hh⟩ := hP
  have e0 : s₁.heap = h0 := by rw [← hh, Bd.state]; rfl
  obtain ⟨s₂, v, L, h1, h2, h3, h4, h5⟩ := body p e s m below meth c s₁ ⟨s.vm, ⟨[], Stand.of_body Bd, Fr.nil n0⟩, e0, Bd.exec, hZ, findClass_of_methodNamed Bd.named, Bk.start, by rw [hh]; exact hn0, Bd.notSynchronized⟩ Bd.bytes hml Bd.returns (name_of_methodNamed Bd.named Bd.method).1
  exact ⟨s₂, _, h1, h2, h3, v, L, rfl, h4, h5⟩
theorem metL {ws : List Jvm.Cond} {y : MethodName} {bytes : ByteArray} {maxL : Nat} {ret : Option FieldType} {rm : Room} {as' : Array Value} {h0 : Heap} {Q : Option Value → Heap → Prop} (hpl : plainFor y = true) (hn0 : n0 ≤ h0.size)
    (body : ∀ p e s m below meth c s₁, Std false p l e rm s m as' below meth c Z y.cls n0 s₁ h0 0 0 → c.code = bytes → c.maxLocals = maxL → meth.sig.returnType = ret → meth.name = y.name → s.heap = h0 → s.vm.interned = Z.vm.interned → Goes true p e below s n0 rm.cells rm.slots Q s₁ (entryFrame m as' maxL)) :
    MetFree l y (head1 (Cond.code y bytes maxL ret :: ws) rm) (fun a U => a = as' ∧ Z.Warmed39 U.vm ∧ U.heap = h0 ∧ U.vm.interned = Z.vm.interned) (fun _ _ _ _ _ => True) (fun _ U o U' => ∃ v L, o = .returned v ∧ (Fr n0 L ∧ Q v U'.heap) ∧ EndF true U o U' L rm.cells rm.slots) := by
  refine MetFree.of_bodySF hpl hisR ?_
  intro p e s m args below meth c s₁ Bd hml hP hK
  obtain ⟨rfl, hZ, hh, hint⟩ := hP
  have e0 : s₁.heap = h0 := by rw [← hh, Bd.state]; rfl
  obtain ⟨s₂, v, L, h1, h2, h3, h4, h5⟩ := body p e s m below meth c s₁ ⟨s.vm, ⟨[], Stand.of_body Bd, Fr.nil n0⟩, e0, Bd.exec, hZ, findClass_of_methodNamed Bd.named, Bk.start, by rw [hh]; exact hn0, Bd.notSynchronized⟩ Bd.bytes hml Bd.returns (name_of_methodNamed Bd.named Bd.method).1 hh hint
  exact ⟨s₂, _, h1, h2, h3, v, L, rfl, h4, h5⟩
theorem Std.callS (X : Std md p l e R s m args below meth c Z own n0 T h k n) {index : Nat} {y : MethodName} {bytes : ByteArray} {maxL : Nat} {ret : Option FieldType} {rm : Room} {argsL : List Value} {Q : Option Value → Heap → Prop} {ps : List FieldType} {r : Option FieldType} (w1 : (Cond.methodLink own index y).before a0 Z = true) (w2 : (Cond.static y).before a0 Z = true) (wz : (Cond.initialized y.cls).before a0 Z = true) (wc : (Cond.code y bytes maxL ret).before a0 Z = true) (hy : y.cls ≠ "java/lang/invoke/MethodHandle" ∧ y.cls ≠ "java/lang/invoke/VarHandle")
    (hpd : parseMethodDescriptor y.desc = some ⟨ps, r⟩) (hlen : argsL.length = ps.length) (M : Met l Z n0 y bytes maxL ret rm argsL.toArray h Q) (hsz : Ls.size = c.maxLocals) (hstk : st = argsL.reverse ++ rest) (hf : rm.frames + 1 ≤ R.frames) (hl : (rest.map fun v => v.category).sum + (maxL + 11) + rm.locals ≤ R.locals) (hd : decode c.code pc = .ok (.invokestatic index, 3)) (hc : k + rm.cells ≤ R.cells) (hs : n + rm.slots ≤ R.slots)
    (G : ∀ T h' v, Std md p l e R s m args below meth c Z own n0 T h' (k + rm.cells) (n + rm.slots) → Q v h' → Goes en p e below s n0 C S P T (mkF m (pc + 3) Ls (v.toList ++ rest))) : Goes en p e below s n0 C S P T (mkF m pc Ls st) := by
  obtain ⟨vm0, ⟨L0, X, N⟩, eT, hx, hZ, hown, hB, r⟩ := X
  subst eT
  obtain ⟨v, vm1, T1, L2, X1, hB1, hZ1, hown1, N2, hQ, st1⟩ := Bk.callS X hx hB hZ hown w1 w2 wz wc hy hpd hlen M hsz hstk hf hl hd hc hs
  exact Goes.by st1 (G T1 _ v ⟨vm1, ⟨_, X1, Fr.app N N2⟩, rfl, hx, hZ1, hown1, hB1, r⟩ hQ)
theorem Std.callSN (X : Std md p l e R s m args below meth c Z own n0 T h k n) {index : Nat} {y : MethodName} {bytes : ByteArray} {maxL : Nat} {ret : Option FieldType} {rm : Room} {argsL : List Value} {Q : Option Value → Heap → Prop} {ps : List FieldType} {r : Option FieldType} {host : String} (w1 : (Cond.methodLinkNest own index y host).before a0 Z = true) (w2 : (Cond.static y).before a0 Z = true) (wz : (Cond.initialized y.cls).before a0 Z = true) (wc : (Cond.code y bytes maxL ret).before a0 Z = true) (hy : y.cls ≠ "java/lang/invoke/MethodHandle" ∧ y.cls ≠ "java/lang/invoke/VarHandle")
    (hpd : parseMethodDescriptor y.desc = some ⟨ps, r⟩) (hlen : argsL.length = ps.length) (M : Met l Z n0 y bytes maxL ret rm argsL.toArray h Q) (hsz : Ls.size = c.maxLocals) (hstk : st = argsL.reverse ++ rest) (hf : rm.frames + 1 ≤ R.frames) (hl : (rest.map fun v => v.category).sum + (maxL + 11) + rm.locals ≤ R.locals) (hd : decode c.code pc = .ok (.invokestatic index, 3)) (hc : k + rm.cells ≤ R.cells) (hs : n + rm.slots ≤ R.slots)
    (G : ∀ T h' v, Std md p l e R s m args below meth c Z own n0 T h' (k + rm.cells) (n + rm.slots) → Q v h' → Goes en p e below s n0 C S P T (mkF m (pc + 3) Ls (v.toList ++ rest))) : Goes en p e below s n0 C S P T (mkF m pc Ls st) := by
  obtain ⟨vm0, ⟨L0, X, N⟩, eT, hx, hZ, hown, hB, r⟩ := X
  subst eT
  obtain ⟨v, vm1, T1, L2, X1, hB1, hZ1, hown1, N2, hQ, st1⟩ := Bk.callSN X hx hB hZ hown w1 w2 wz wc hy hpd hlen M hsz hstk hf hl hd hc hs
  exact Goes.by st1 (G T1 _ v ⟨vm1, ⟨_, X1, Fr.app N N2⟩, rfl, hx, hZ1, hown1, hB1, r⟩ hQ)
theorem Std.callV (X : Std md p l e R s m args below meth c Z own n0 T h k n) {index : Nat} {y : MethodName} {bytes : ByteArray} {maxL : Nat} {ret : Option FieldType} {rm : Room} {argsL : List Value} {Q : Option Value → Heap → Prop} {ps : List FieldType} {r : Option FieldType} {z : MethodName} {K : String} {b : Addr} (E : Exa Z h b K) (w1 : (Cond.methodLink own index y).before a0 Z = true) (w2 : (Cond.declares y).before a0 Z = true) (w3 : (Cond.selects K y z).before a0 Z = true) {D : String} {x' z' : MethodName} (w5 : (Cond.selects D x' z').before a0 Z = true) (h5 : z'.cls = y.cls) (w4 : (Cond.instanceMethod z).before a0 Z = true) (wz : (Cond.initialized z.cls).before a0 Z = true) (wc : (Cond.code z bytes maxL ret).before a0 Z = true) (hy : y.cls ≠ "java/lang/invoke/MethodHandle" ∧ y.cls ≠ "java/lang/invoke/VarHandle")
    (hpd : parseMethodDescriptor y.desc = some ⟨ps, r⟩) (hlen : argsL.length = ps.length) (M : Met l Z n0 z bytes maxL ret rm (.ref b :: argsL).toArray h Q) (hsz : Ls.size = c.maxLocals) (hstk : st = argsL.reverse ++ .ref b :: rest) (hf : rm.frames + 1 ≤ R.frames) (hl : (rest.map fun v => v.category).sum + (maxL + 11) + rm.locals ≤ R.locals) (hd : decode c.code pc = .ok (.invokevirtual index, 3)) (hc : k + rm.cells ≤ R.cells) (hs : n + rm.slots ≤ R.slots)
    (G : ∀ T h' v, Std md p l e R s m args below meth c Z own n0 T h' (k + rm.cells) (n + rm.slots) → Q v h' → Goes en p e below s n0 C S P T (mkF m (pc + 3) Ls (v.toList ++ rest))) : Goes en p e below s n0 C S P T (mkF m pc Ls st) := by
  obtain ⟨vm0, ⟨L0, X, N⟩, eT, hx, hZ, hown, hB, r⟩ := X
  subst eT
  obtain ⟨v, vm1, T1, L2, X1, hB1, hZ1, hown1, N2, hQ, st1⟩ := Bk.callV X hx hB hZ hown E w1 w2 w3 w5 h5 w4 wz wc hy hpd hlen M hsz hstk hf hl hd hc hs
  exact Goes.by st1 (G T1 _ v ⟨vm1, ⟨_, X1, Fr.app N N2⟩, rfl, hx, hZ1, hown1, hB1, r⟩ hQ)
theorem Std.callU (X : Std md p l e R s m args below meth c Z own n0 T h k n) {index : Nat} {y : MethodName} {bytes : ByteArray} {maxL : Nat} {ret : Option FieldType} {rm : Room} {argsL : List Value} {Q : Option Value → Heap → Prop} {ps : List FieldType} {r : Option FieldType} {z : MethodName} {owner K : String} {b : Addr} (E : Exa Z h b K) (w1 : (Cond.methodLink own index y).before a0 Z = true) (wsm : (Cond.sameMethod y.cls owner y.name y.desc).before a0 Z = true) (w2 : (Cond.declares ⟨owner, y.name, y.desc⟩).before a0 Z = true) (ho : owner ≠ "java/lang/invoke/MethodHandle" ∧ owner ≠ "java/lang/invoke/VarHandle") (w3 : (Cond.selects K y z).before a0 Z = true) (w4 : (Cond.instanceMethod z).before a0 Z = true) (wz : (Cond.initialized z.cls).before a0 Z = true) (wc : (Cond.code z bytes maxL ret).before a0 Z = true)
    (hpd : parseMethodDescriptor y.desc = some ⟨ps, r⟩) (hlen : argsL.length = ps.length) (M : Met l Z n0 z bytes maxL ret rm (.ref b :: argsL).toArray h Q) (hsz : Ls.size = c.maxLocals) (hstk : st = argsL.reverse ++ .ref b :: rest) (hf : rm.frames + 1 ≤ R.frames) (hl : (rest.map fun v => v.category).sum + (maxL + 11) + rm.locals ≤ R.locals) (hd : decode c.code pc = .ok (.invokevirtual index, 3)) (hc : k + rm.cells ≤ R.cells) (hs : n + rm.slots ≤ R.slots)
    (G : ∀ T h' v, Std md p l e R s m args below meth c Z own n0 T h' (k + rm.cells) (n + rm.slots) → Q v h' → Goes en p e below s n0 C S P T (mkF m (pc + 3) Ls (v.toList ++ rest))) : Goes en p e below s n0 C S P T (mkF m pc Ls st) := by
  obtain ⟨vm0, ⟨L0, X, N⟩, eT, hx, hZ, hown, hB, r⟩ := X
  subst eT
  obtain ⟨v, vm1, T1, L2, X1, hB1, hZ1, hown1, N2, hQ, st1⟩ := Bk.callU X hx hB hZ hown E w1 wsm w2 ho w3 w4 wz wc hpd hlen M hsz hstk hf hl hd hc hs
  exact Goes.by st1 (G T1 _ v ⟨vm1, ⟨_, X1, Fr.app N N2⟩, rfl, hx, hZ1, hown1, hB1, r⟩ hQ)
theorem Std.callN (X : Std md p l e R s m args below meth c Z own n0 T h k n) {index : Nat} {y : MethodName} {bytes : ByteArray} {maxL : Nat} {rm : Room} {argsL : List Value} {Q : Option Value → Heap → Prop} {ps : List FieldType} {r : Option FieldType} {b : Addr} (hin : y.name = "<init>") (w1 : (Cond.methodLink own index y).before a0 Z = true) (w4 : (Cond.instanceMethod y).before a0 Z = true) (wz : (Cond.initialized y.cls).before a0 Z = true) (wc : (Cond.code y bytes maxL none).before a0 Z = true) (hy : y.cls ≠ "java/lang/invoke/MethodHandle" ∧ y.cls ≠ "java/lang/invoke/VarHandle")
    (hpd : parseMethodDescriptor y.desc = some ⟨ps, r⟩) (hlen : argsL.length = ps.length) (M : Met l Z n0 y bytes maxL none rm (.ref b :: argsL).toArray h Q) (hsz : Ls.size = c.maxLocals) (hstk : st = argsL.reverse ++ .ref b :: rest) (hf : rm.frames + 1 ≤ R.frames) (hl : (rest.map fun v => v.category).sum + (maxL + 11) + rm.locals ≤ R.locals) (hd : decode c.code pc = .ok (.invokespecial index, 3)) (hc : k + rm.cells ≤ R.cells) (hs : n + rm.slots ≤ R.slots)
    (G : ∀ T h' v, Std md p l e R s m args below meth c Z own n0 T h' (k + rm.cells) (n + rm.slots) → Q v h' → Goes en p e below s n0 C S P T (mkF m (pc + 3) Ls (v.toList ++ rest))) : Goes en p e below s n0 C S P T (mkF m pc Ls st) := by
  obtain ⟨vm0, ⟨L0, X, N⟩, eT, hx, hZ, hown, hB, r⟩ := X
  subst eT
  obtain ⟨v, vm1, T1, L2, X1, hB1, hZ1, hown1, N2, hQ, st1⟩ := Bk.callN X hx hB hZ hown hin w1 w4 wz wc hy hpd hlen M hsz hstk hf hl hd hc hs
  exact Goes.by st1 (G T1 _ v ⟨vm1, ⟨_, X1, Fr.app N N2⟩, rfl, hx, hZ1, hown1, hB1, r⟩ hQ)
theorem fldEq {args : Array Value} {s : State} {t : Term} {a : Addr} {C n d : String} {k : Int32} (ht : t.eval args s none [] s = some (.ref a)) (h : (Jvm.Cond.eq (.field t C n d) (.int k)).value args s none s [] = some true) : Fld s s.heap a C n d (.int k) := by
  obtain ⟨x, y, ex, ey, kx, ky⟩ := cmp_v (Or.inl h)
  have hy : y = .int k := Option.some.inj (ey.symm.trans (Term.int_eval k))
  subst hy
  obtain ⟨z, rfl⟩ : ∃ z, x = .int z := ky
  have q := gotT (Cond.eq_ints ex (Term.int_eval k)) h
  subst q
  exact Fld.start ((fld_at ht).symm.trans ex)
theorem fldEqS {args : Array Value} {s : State} {t u : Term} {a b : Addr} {C n d : String} (ht : t.eval args s none [] s = some (.ref a)) (hu : u.eval args s none [] s = some (.ref b)) (h : (Jvm.Cond.eq (.field t C n d) u).value args s none s [] = some true) : Fld s s.heap a C n d (.ref b) := by
  obtain ⟨x, y, ex, ey, kx, ky⟩ := cmp_v (Or.inl h)
  have hy : y = .ref b := Option.some.inj (ey.symm.trans hu)
  subst hy
  have hx : x.isRef = true := (show (Value.ref b).isRef = true ∧ x.isRef = true from ky).2
  have q := gotT (eq_R ex hu hx rfl) h
  subst q
  exact Fld.start ((fld_at ht).symm.trans ex)
theorem staEq {args : Array Value} {s : State} {C n d : String} {k : Int32} (h : (Jvm.Cond.eq (.static C n d) (.int k)).value args s none s [] = some true) (hi : (Jvm.Cond.initializedFor C n d).before args s = true ∨ ((Jvm.Cond.initialized C).before args s = true ∧ (Jvm.Cond.laysStatic C n d).before args s = true)) : Sta s s.heap C n d (.int k) := by
  obtain ⟨x, y, ex, ey, kx, ky⟩ := cmp_v (Or.inl h)
  have hy : y = .int k := Option.some.inj (ey.symm.trans (Term.int_eval k))
  subst hy
  obtain ⟨z, rfl⟩ : ∃ z, x = .int z := ky
  have q := gotT (Cond.eq_ints ex (Term.int_eval k)) h
  subst q
  exact Sta.start ex hi
/-- the law's masks -/
theorem maskR (x n : Int32) (N : Int) (hn : n.toInt = N) (hp : 0 < N) : 0 ≤ ((x &&& 2147483647) % n).toInt ∧ ((x &&& 2147483647) % n).toInt < N := by
  have h1 := (c_and x 2147483647 (by decide)).1
  have h2 := (c_irem (x &&& 2147483647) n N hn).1 h1
  rw [h2]
  exact ⟨Int.emod_nonneg _ (by omega), Int.emod_lt_of_pos _ hp⟩
theorem i32_eq {x y : Int32} (h : x.toInt = y.toInt) : x = y := Int32.toInt_inj.mp h
theorem Sta.keep' {C nm d : String} {v : Value} {ws : List Addr} (F : Sta Z h C nm d v) (K : Keep h h' ws) (q : ∀ x ∈ ws, ∃ D, Exa Z h x D) : Sta Z h' C nm d v := by
  obtain ⟨cf, i, k, f, st, cell, h1, h2, h3, h4, h5, h6, h7⟩ := F
  refine ⟨cf, i, k, f, st, cell, h1, h2, h3, h4, K.2.1 st cell h5 fun r => ?_, h6, h7⟩
  obtain ⟨D, c2, _, e1, -, -, e4, -⟩ := q st r
  cases h5.symm.trans e1
  rw [h6] at e4
  cases e4
theorem leB {a b : Nat} (h : Nat.ble a b = true) : a ≤ b := Nat.le_of_ble_eq_true h
theorem addI {x y : Int32} (h1 : -2147483648 ≤ x.toInt + y.toInt) (h2 : x.toInt + y.toInt < 2147483648) : (x + y).toInt = x.toInt + y.toInt := by
  have q1 := c_iadd x y
  have q2 := rng32 (x + y)
  omega
theorem subI {x y : Int32} (h1 : -2147483648 ≤ x.toInt - y.toInt) (h2 : x.toInt - y.toInt < 2147483648) : (x - y).toInt = x.toInt - y.toInt := by
  have q1 := c_isub x y
  have q2 := rng32 (x - y)
  omega
def cI (x : Int32) : Int32 := x
theorem ltI {x y : Int32} : x < y ↔ x.toInt < y.toInt := Int32.lt_iff_toInt_lt
theorem eqI {x y : Int32} : x = y ↔ x.toInt = y.toInt := Int32.toInt_inj.symm
end OwnKit
section OwnArr
variable {md : Bool} {en : Bool} {p : Program} {l : Launch} {e : Env} {R : Room} {s : State} {m : MethodId} {args : Array Value} {below : List Frame} {meth : Method} {c : Code} {T T' : State} {Z : State} {own : String} {h h' : Heap} {n0 k n C S : Nat} {a0 : Array Value} {P : Option Value → Heap → Prop} {g g' : JFrame} {pc : Nat} {Ls : Array Slot} {st rest : List Value}
/-- an array of N values -/
def PArr (Z : State) (h : Heap) (a : Addr) (ty : FieldType) (N : Nat) (f : Nat → Value) : Prop := ∃ c : Cell, Arr Z h a c ty ∧ c.slots.size = N ∧ N < 2 ^ 31 ∧ ∀ i, i < N → c.slots[i]? = some (f i)
variable {a b : Addr} {ty : FieldType} {N sl : Nat} {f : Nat → Value} {v : Value} {ws : List Addr}
theorem PArr.lt (F : PArr Z h a ty N f) : a < h.size := by obtain ⟨c, A, -⟩ := F; exact A.lt
theorem PArr.ext (F : PArr Z h a ty N f) (E : Ext h h') : PArr Z h' a ty N f := by obtain ⟨c, A, r⟩ := F; exact ⟨c, A.ext E, r⟩
theorem PArr.other (F : PArr Z h b ty N f) (W : Wr h h' a sl v) (q : b ≠ a) : PArr Z h' b ty N f := by obtain ⟨c, A, r⟩ := F; exact ⟨c, A.other W q, r⟩
theorem PArr.keep (F : PArr Z h a ty N f) (K : Keep h h' ws) (q : a ∉ ws) : PArr Z h' a ty N f := by obtain ⟨c, A, r⟩ := F; exact ⟨c, ⟨K.2.1 a c A.1 q, A.2⟩, r⟩
theorem PArr.congr {f' : Nat → Value} (F : PArr Z h a ty N f) (q : ∀ i, i < N → f i = f' i) : PArr Z h a ty N f' := by obtain ⟨c, A, r1, r2, r3⟩ := F; exact ⟨c, A, r1, r2, fun i hi => by rw [← q i hi]; exact r3 i hi⟩
theorem PArr.small (F : PArr Z h a ty N f) : N < 2 ^ 31 := by obtain ⟨c, A, r1, r2, r3⟩ := F; exact r2
theorem PArr.set (F : PArr Z h a ty N f) (W : Wr h h' a sl v) : PArr Z h' a ty N (fun i => if i = sl then v else f i) := by
  obtain ⟨c, A, r1, r2, r3⟩ := F
  obtain ⟨cell, q1, q2, q3, q4⟩ := id W
  cases q1.symm.trans A.1
  refine ⟨_, A.same W, by rw [sz_set]; exact r1, r2, fun i hi => ?_⟩
  show (c.slots.setIfInBounds sl v)[i]? = some (if i = sl then v else f i)
  by_cases e : i = sl
  · subst e
    rw [if_pos rfl]
    simp [q3]
  · rw [if_neg e, Array.getElem?_setIfInBounds_ne (Ne.symm e)]
    exact r3 i hi
theorem idxN {j : Int32} {i : Nat} (hj : j.toInt = i) : j.toNatClampNeg = i ∧ ¬ j < 0 := by
  constructor
  · show j.toInt.toNat = i
    omega
  · rw [Int32.lt_iff_toInt_lt]
    show ¬ j.toInt < 0
    omega
theorem idxI {c : Cell} {j : Int32} {i : Nat} (hs : c.slots.size = N) (hj : j.toInt = i) (hi : i < N) : ¬ (j < 0 ∨ c.slots.size ≤ j.toNatClampNeg) := by
  rw [(idxN hj).1, hs]
  rintro (q | q)
  · exact (idxN hj).2 q
  · omega
theorem Std.iaload (X : Std md p l e R s m args below meth c Z own n0 T h k n) (F : PArr Z h a .int N f) {j : Int32} {i : Nat} (hj : j.toInt = i) (hi : i < N) (hd : decode c.code pc = .ok (.iaload, 1)) (G : Goes en p e below s n0 C S P T (mkF m (pc + 1) Ls (f i :: rest))) : Goes en p e below s n0 C S P T (mkF m pc Ls (.int j :: .ref a :: rest)) := by
  obtain ⟨vm0, ⟨L, X, -⟩, eT, hx, hZ, -⟩ := X
  obtain ⟨cl, A, r1, r2, r3⟩ := F
  exact Goes.by (fun t q => X.iaload hx (g := mkF m pc Ls (.int j :: .ref a :: rest)) (by rw [eT]; exact A.1) (State.isArrayOf_alike hZ.alike A.2.1) A.2.2 (idxI r1 hj hi) (v := f i) (by rw [(idxN hj).1]; exact r3 i hi) rfl rfl hd t q) G
theorem Std.laload (X : Std md p l e R s m args below meth c Z own n0 T h k n) (F : PArr Z h a .long N f) {j : Int32} {i : Nat} (hj : j.toInt = i) (hi : i < N) (hd : decode c.code pc = .ok (.laload, 1)) (G : Goes en p e below s n0 C S P T (mkF m (pc + 1) Ls (f i :: rest))) : Goes en p e below s n0 C S P T (mkF m pc Ls (.int j :: .ref a :: rest)) := by
  obtain ⟨vm0, ⟨L, X, -⟩, eT, hx, hZ, -⟩ := X
  obtain ⟨cl, A, r1, r2, r3⟩ := F
  exact Goes.by (fun t q => X.laload hx (g := mkF m pc Ls (.int j :: .ref a :: rest)) (by rw [eT]; exact A.1) (State.isArrayOf_alike hZ.alike A.2.1) A.2.2 (idxI r1 hj hi) (v := f i) (by rw [(idxN hj).1]; exact r3 i hi) rfl rfl hd t q) G
theorem Std.baloadB (X : Std md p l e R s m args below meth c Z own n0 T h k n) (F : PArr Z h a .byte N f) {j : Int32} {i : Nat} (hj : j.toInt = i) (hi : i < N) (hd : decode c.code pc = .ok (.baload, 1)) (G : Goes en p e below s n0 C S P T (mkF m (pc + 1) Ls (f i :: rest))) : Goes en p e below s n0 C S P T (mkF m pc Ls (.int j :: .ref a :: rest)) := by
  obtain ⟨vm0, ⟨L, X, -⟩, eT, hx, hZ, -⟩ := X
  obtain ⟨cl, A, r1, r2, r3⟩ := F
  exact Goes.by (fun t q => X.baloadBytes hx (g := mkF m pc Ls (.int j :: .ref a :: rest)) (by rw [eT]; exact A.1) (State.isArrayOf_alike hZ.alike A.2.1) A.2.2 (idxI r1 hj hi) (v := f i) (by rw [(idxN hj).1]; exact r3 i hi) rfl rfl hd t q) G
theorem Std.baloadZ (X : Std md p l e R s m args below meth c Z own n0 T h k n) (F : PArr Z h a .boolean N f) {j : Int32} {i : Nat} (hj : j.toInt = i) (hi : i < N) (hd : decode c.code pc = .ok (.baload, 1)) (G : Goes en p e below s n0 C S P T (mkF m (pc + 1) Ls (f i :: rest))) : Goes en p e below s n0 C S P T (mkF m pc Ls (.int j :: .ref a :: rest)) := by
  obtain ⟨vm0, ⟨L, X, -⟩, eT, hx, hZ, -⟩ := X
  obtain ⟨cl, A, r1, r2, r3⟩ := F
  exact Goes.by (fun t q => X.baloadBooleans hx (g := mkF m pc Ls (.int j :: .ref a :: rest)) (by rw [eT]; exact A.1) (State.isArrayOf_alike hZ.alike A.2.1) A.2.2 (idxI r1 hj hi) (v := f i) (by rw [(idxN hj).1]; exact r3 i hi) rfl rfl hd t q) G
theorem Std.alen (X : Std md p l e R s m args below meth c Z own n0 T h k n) (F : PArr Z h a ty N f) {z : Int32} (hz : z.toInt = N) (hd : decode c.code pc = .ok (.arraylength, 1)) (G : Goes en p e below s n0 C S P T (mkF m (pc + 1) Ls (.int z :: rest))) : Goes en p e below s n0 C S P T (mkF m pc Ls (.ref a :: rest)) := by
  obtain ⟨vm0, ⟨L, X, -⟩, eT, hx, hZ, -⟩ := X
  obtain ⟨cl, A, r1, r2, r3⟩ := F
  have q : cl.slots.size.toInt32 = z := Int32.toInt_inj.mp (by rw [r1, hz]; exact len_toInt r2)
  refine Goes.by (fun t q => X.arraylength hx (g := mkF m pc Ls (.ref a :: rest)) (by rw [eT]; exact A.1) (State.isArrayOf_alike hZ.alike A.2.1) rfl rfl hd t q) ?_
  rw [q]
  exact G
theorem Std.iastore (X : Std md p l e R s m args below meth c Z own n0 T h k n) (F : PArr Z h a .int N f) {j x : Int32} {i : Nat} (hj : j.toInt = i) (hi : i < N) (ha : n0 ≤ a) (hd : decode c.code pc = .ok (.iastore, 1))
    (G : ∀ T h', Std md p l e R s m args below meth c Z own n0 T h' k n → Wr h h' a i (.int x) → Goes en p e below s n0 C S P T (mkF m (pc + 1) Ls rest)) : Goes en p e below s n0 C S P T (mkF m pc Ls (.int x :: .int j :: .ref a :: rest)) := by
  obtain ⟨vm0, ⟨L, X, M⟩, eT, hx, hZ, hown, hB, r⟩ := X
  obtain ⟨cl, A, r1, r2, r3⟩ := F
  obtain ⟨T1, h1, X1, e1, W1, st1⟩ := stI X hx hZ eT A (x := x) (idxI r1 hj hi) (g := mkF m pc Ls (.int x :: .int j :: .ref a :: rest)) rfl rfl hd
  refine Goes.by st1 (G T1 h1 ⟨vm0, ⟨_, X1, Fr.snoc X1 M ha⟩, e1, hx, hZ, hown, hB.mono (Nat.le_of_eq W1.size.symm), r⟩ ?_)
  rw [← (idxN hj).1]
  exact W1
theorem Std.bastoreB (X : Std md p l e R s m args below meth c Z own n0 T h k n) (F : PArr Z h a .byte N f) {j x : Int32} {i : Nat} (hj : j.toInt = i) (hi : i < N) (ha : n0 ≤ a) (hd : decode c.code pc = .ok (.bastore, 1))
    (G : ∀ T h', Std md p l e R s m args below meth c Z own n0 T h' k n → Wr h h' a i (.int (nar .byte x)) → Goes en p e below s n0 C S P T (mkF m (pc + 1) Ls rest)) : Goes en p e below s n0 C S P T (mkF m pc Ls (.int x :: .int j :: .ref a :: rest)) := by
  obtain ⟨vm0, ⟨L, X, M⟩, eT, hx, hZ, hown, hB, r⟩ := X
  obtain ⟨cl, A, r1, r2, r3⟩ := F
  obtain ⟨T1, h1, X1, e1, W1, st1⟩ := stB X hx hZ eT A (x := x) (idxI r1 hj hi) (g := mkF m pc Ls (.int x :: .int j :: .ref a :: rest)) rfl rfl hd
  refine Goes.by st1 (G T1 h1 ⟨vm0, ⟨_, X1, Fr.snoc X1 M ha⟩, e1, hx, hZ, hown, hB.mono (Nat.le_of_eq W1.size.symm), r⟩ ?_)
  rw [← (idxN hj).1]
  exact W1
theorem Std.bastoreZ (X : Std md p l e R s m args below meth c Z own n0 T h k n) (F : PArr Z h a .boolean N f) {j x : Int32} {i : Nat} (hj : j.toInt = i) (hi : i < N) (ha : n0 ≤ a) (hd : decode c.code pc = .ok (.bastore, 1))
    (G : ∀ T h', Std md p l e R s m args below meth c Z own n0 T h' k n → Wr h h' a i (.int (nar .boolean x)) → Goes en p e below s n0 C S P T (mkF m (pc + 1) Ls rest)) : Goes en p e below s n0 C S P T (mkF m pc Ls (.int x :: .int j :: .ref a :: rest)) := by
  obtain ⟨vm0, ⟨L, X, M⟩, eT, hx, hZ, hown, hB, r⟩ := X
  obtain ⟨cl, A, r1, r2, r3⟩ := F
  obtain ⟨T1, h1, X1, e1, W1, st1⟩ := stZ X hx hZ eT A (x := x) (idxI r1 hj hi) (g := mkF m pc Ls (.int x :: .int j :: .ref a :: rest)) rfl rfl hd
  refine Goes.by st1 (G T1 h1 ⟨vm0, ⟨_, X1, Fr.snoc X1 M ha⟩, e1, hx, hZ, hown, hB.mono (Nat.le_of_eq W1.size.symm), r⟩ ?_)
  rw [← (idxN hj).1]
  exact W1
theorem Std.newA (X : Std md p l e R s m args below meth c Z own n0 T h k n) {aty : ArrayType} {ad : String} (had : "[" ++ (newarray.typeOf aty).toString = ad) (w : (Cond.arrayClass (newarray.typeOf aty)).before a0 Z = true) (hd : decode c.code pc = .ok (.newarray aty, 2)) {z : Int32} (hz : z.toInt = N) {cap : Nat} (hcap : N ≤ cap) (hb : cap * 8 ≤ 536870912) (hc : k + 1 ≤ R.cells) (hl : n + cap ≤ R.slots)
    (G : ∀ T h' a, Std md p l e R s m args below meth c Z own n0 T h' (k + 1) (n + cap) → a = h.size → n0 ≤ a → Ext h h' → Exa Z h' a ad → PArr Z h' a (newarray.typeOf aty) N (fun _ => defaultValue (newarray.typeOf aty)) → Goes en p e below s n0 C S P T (mkF m (pc + 2) Ls (.ref a :: rest))) : Goes en p e below s n0 C S P T (mkF m pc Ls (.int z :: rest)) := by
  have q := X.n0le
  obtain ⟨vm0, ⟨L0, X, M⟩, eT, hx, hZ, hown, hB, r⟩ := X
  obtain ⟨T1, h1, cA, X1, e1, E1, A1, B1, st1⟩ := newPE X hx hZ w eT (g := mkF m pc Ls (.int z :: rest)) rfl hd rfl (idxN hz).2 (cap := cap) (by rw [(idxN hz).1]; exact hcap) hb hc hl had
  have hN : N < 2 ^ 31 := by have := Int32.toInt_lt z; omega
  refine Goes.by st1 (G T1 h1 h.size ⟨vm0, ⟨_, X1, M⟩, e1, hx, hZ, hown, hB.mono E1.1, r⟩ rfl q E1 B1 ⟨_, A1, by rw [sz_new]; exact (idxN hz).1, hN, fun i hi => ?_⟩)
  show (Array.replicate z.toNatClampNeg _)[i]? = _
  rw [(idxN hz).1]
  simp [hi]
end OwnArr
section OwnMore
variable {md : Bool} {en : Bool} {p : Program} {l : Launch} {e : Env} {R : Room} {s : State} {m : MethodId} {args : Array Value} {below : List Frame} {meth : Method} {c : Code} {T T' : State} {Z : State} {own : String} {h h' : Heap} {n0 k n C S : Nat} {a0 : Array Value} {P : Option Value → Heap → Prop} {g g' : JFrame} {pc : Nat} {Ls : Array Slot} {st rest : List Value} {a b : Addr} {ty : FieldType} {N sl : Nat} {f : Nat → Value} {v : Value} {ws : List Addr}
theorem Std.castY (X : Std md p l e R s m args below meth c Z own n0 T h k n) {index : Nat} {K : String} (w : (Cond.classLink own index K).before a0 Z = true) (F : Ins Z h a K true) (hd : decode c.code pc = .ok (.checkcast index, 3))
    (G : ∀ T, Std md p l e R s m args below meth c Z own n0 T h k n → Goes en p e below s n0 C S P T (mkF m (pc + 3) Ls (.ref a :: rest))) : Goes en p e below s n0 C S P T (mkF m pc Ls (.ref a :: rest)) := by
  obtain ⟨vm0, ⟨L, X, M⟩, eT, hx, hZ, hown, hB, r⟩ := X
  obtain ⟨T1, X1, e1, st1⟩ := Jvm.RoadKit.castY X hx hZ hown w eT F (g := mkF m pc Ls (.ref a :: rest)) rfl rfl hd
  exact Goes.by st1 (G T1 ⟨vm0, ⟨L, X1, M⟩, e1, hx, hZ, hown, hB, r⟩)
theorem Std.instY (X : Std md p l e R s m args below meth c Z own n0 T h k n) {index : Nat} {K : String} (w : (Cond.classLink own index K).before a0 Z = true) (F : Ins Z h a K true) (hd : decode c.code pc = .ok (.instanceof index, 3))
    (G : ∀ T, Std md p l e R s m args below meth c Z own n0 T h k n → Goes en p e below s n0 C S P T (mkF m (pc + 3) Ls (.int 1 :: rest))) : Goes en p e below s n0 C S P T (mkF m pc Ls (.ref a :: rest)) := by
  obtain ⟨vm0, ⟨L, X, M⟩, eT, hx, hZ, hown, hB, r⟩ := X
  obtain ⟨T1, X1, e1, st1⟩ := Jvm.RoadKit.instY X hx hZ hown w eT F (g := mkF m pc Ls (.ref a :: rest)) rfl rfl hd
  exact Goes.by st1 (G T1 ⟨vm0, ⟨L, X1, M⟩, e1, hx, hZ, hown, hB, r⟩)
theorem Std.more (X : Std md p l e R s m args below meth c Z own n0 T h k n) {k' n' : Nat} (hk : k ≤ k') (hn : n ≤ n') : Std md p l e R s m args below meth c Z own n0 T h k' n' := by
  obtain ⟨vm0, ⟨L, X, M⟩, r⟩ := X
  exact ⟨vm0, ⟨L, X.more hk hn, M⟩, r⟩
theorem Std.clone (X : Std md p l e R s m args below meth c Z own n0 T h k n) {ad : String} {index : Nat} (w1 : (Cond.methodLink own index ⟨ad, "clone", "()Ljava/lang/Object;"⟩).before a0 Z = true) (w2 : (Cond.sameMethod ad "java/lang/Object" "clone" "()Ljava/lang/Object;").before a0 Z = true) (w3 : (Cond.native ⟨"java/lang/Object", "clone", "()Ljava/lang/Object;"⟩).before a0 Z = true)
    (w4 : (Cond.instanceMethod ⟨"java/lang/Object", "clone", "()Ljava/lang/Object;"⟩).before a0 Z = true) (w5 : (Cond.selects ad ⟨ad, "clone", "()Ljava/lang/Object;"⟩ ⟨"java/lang/Object", "clone", "()Ljava/lang/Object;"⟩).before a0 Z = true) (w6 : (Cond.castable ad "java/lang/Cloneable").before a0 Z = true)
    (F : PArr Z h a ty N f) (hfit : ∀ i, i < N → fits ty (f i) = true) (E : Exa Z h a ad) (hsz : Ls.size = c.maxLocals) (hd : decode c.code pc = .ok (.invokevirtual index, 3)) (hf : 1 ≤ R.frames) (hl : (rest.map fun v => v.category).sum + 14 ≤ R.locals) {cap : Nat} (hcap : N ≤ cap) (hc : k + 1 ≤ R.cells) (hs : n + cap ≤ R.slots)
    (G : ∀ T h' b, Std md p l e R s m args below meth c Z own n0 T h' (k + 1) (n + cap) → b = h.size → n0 ≤ b → Ext h h' → Exa Z h' b ad → PArr Z h' b ty N f → Goes en p e below s n0 C S P T (mkF m (pc + 3) Ls (.ref b :: rest))) : Goes en p e below s n0 C S P T (mkF m pc Ls (.ref a :: rest)) := by
  have q := X.n0le
  obtain ⟨vm0, ⟨L, X, M⟩, eT, hx, hZ, hown, hB, r⟩ := X
  obtain ⟨cl, A, r1, r2, r3⟩ := F
  have FC : FitC Z cl := fitC_of A fun i hi v hv => by rw [r1] at hi; rw [r3 i hi] at hv; cases hv; exact hfit i hi
  obtain ⟨T1, h1, X1, e1, E1, A1, B1, st1⟩ := cloneA X hx hZ hown w1 w2 w3 w4 w5 w6 eT A E FC (g := mkF m pc Ls (.ref a :: rest)) rfl hsz rfl hd hf (W := (rest.map fun v => v.category).sum) (cap := cap) (by show 2 * 0 + _ ≤ _; omega) hl (by rw [r1]; exact hcap) hc hs
  exact Goes.by st1 (G T1 h1 h.size ⟨vm0, ⟨_, X1, M⟩, e1, hx, hZ, hown, hB.mono E1.1, r⟩ rfl q E1 B1 ⟨cloneOf cl, A1, r1, r2, r3⟩)
theorem Std.grid (X : Std md p l e R s m args below meth c Z own n0 T h k n) {K ad : String} {index : Nat} (hC : (FieldType.array ty).toString = K) (had : "[" ++ K = ad) (w1 : (Cond.classLink own index ad).before a0 Z = true) (w2 : (Cond.arrayOver (.array ty)).before a0 Z = true) (w3 : (Cond.arrayClass ty).before a0 Z = true) (hd : decode c.code pc = .ok (.multianewarray index 2, 4)) {z y : Int32} {Y : Nat} (hz : z.toInt = N) (hy : y.toInt = Y) {capN cap : Nat} (hcN : N ≤ capN) (hcap : Y ≤ cap) (hb : cap * 8 ≤ 536870912) (hb1 : capN ≤ 1000) (hdf : fits ty (defaultValue ty) = true) (hdd : (defaultValue ty).isDefault = true) (hc : k + (1 + capN) ≤ R.cells) (hl : n + (capN + capN * cap) ≤ R.slots)
    (G : ∀ T h' b, Std md p l e R s m args below meth c Z own n0 T h' (k + (1 + capN)) (n + (capN + capN * cap)) → b = h.size → n0 ≤ b → Ext h h' → Exa Z h' b ad → Goes en p e below s n0 C S P T (mkF m (pc + 4) Ls (.ref b :: rest))) : Goes en p e below s n0 C S P T (mkF m pc Ls (.int y :: .int z :: rest)) := by
  have q := X.n0le
  have m1 : N * cap ≤ capN * cap := Nat.mul_le_mul_right _ hcN
  obtain ⟨vm0, ⟨L, X, M⟩, eT, hx, hZ, hown, hB, r⟩ := X
  obtain ⟨T1, h1, cA, comp, X1, e1, E1, A1, O1, B1, I1, st1⟩ := gridM X hx hZ hown hC had w1 w2 w3 eT (g := mkF m pc Ls (.int y :: .int z :: rest)) rfl hd rfl (idxN hz).2 (idxN hy).2 (N := N) (idxN hz).1 rfl (cap := cap) (by rw [(idxN hy).1]; exact hcap) hb (by omega) hdf hdd (by omega) (by omega)
  exact Goes.by st1 (G T1 h1 h.size ⟨vm0, ⟨_, X1.more (by omega) (by omega), M⟩, e1, hx, hZ, hown, hB.mono E1.1, r⟩ rfl q E1 B1)
end OwnMore
theorem pf_1 : plainFor (⟨"com/example/riskweave/riskweave/scenario/JsonValue", "bool", "(Z)Lcom/example/riskweave/riskweave/scenario/JsonValue;"⟩ : MethodName) = true := by first | exact plainFor_of_name (by first | (simp [plainName, overriddenIn]; done) | decide +kernel) | decide +kernel
theorem d1_0 : decode prog_74_method_6_code 0 = .ok (.iload_n 0, 1) := by decide +kernel
theorem d1_1 : decode prog_74_method_6_code 1 = .ok (.ifCond .eq 9, 3) := by decide +kernel
theorem d1_4 : decode prog_74_method_6_code 4 = .ok (.getstatic 83, 3) := by decide +kernel
theorem d1_7 : decode prog_74_method_6_code 7 = .ok (.goto 6, 3) := by decide +kernel
theorem d1_13 : decode prog_74_method_6_code 13 = .ok (.areturn, 1) := by decide +kernel
theorem d1_10 : decode prog_74_method_6_code 10 = .ok (.getstatic 87, 3) := by decide +kernel
theorem pf_2 : plainFor (⟨"com/example/riskweave/riskweave/scenario/JsonValue", "isBoolean", "()Z"⟩ : MethodName) = true := by first | exact plainFor_of_name (by first | (simp [plainName, overriddenIn]; done) | decide +kernel) | decide +kernel
theorem d2_0 : decode prog_74_method_13_code 0 = .ok (.aload_n 0, 1) := by decide +kernel
theorem d2_1 : decode prog_74_method_13_code 1 = .ok (.getfield 7, 3) := by decide +kernel
theorem d2_4 : decode prog_74_method_13_code 4 = .ok (.getstatic 93, 3) := by decide +kernel
theorem d2_7 : decode prog_74_method_13_code 7 = .ok (.if_acmp .ne 7, 3) := by decide +kernel
theorem d2_10 : decode prog_74_method_13_code 10 = .ok (.iconst 1, 1) := by decide +kernel
theorem d2_11 : decode prog_74_method_13_code 11 = .ok (.goto 4, 3) := by decide +kernel
theorem d2_15 : decode prog_74_method_13_code 15 = .ok (.ireturn, 1) := by decide +kernel
theorem pf_3 : plainFor (⟨"com/example/riskweave/riskweave/scenario/JsonValue", "isNull", "()Z"⟩ : MethodName) = true := by first | exact plainFor_of_name (by first | (simp [plainName, overriddenIn]; done) | decide +kernel) | decide +kernel
theorem d3_0 : decode prog_74_method_14_code 0 = .ok (.aload_n 0, 1) := by decide +kernel
theorem d3_1 : decode prog_74_method_14_code 1 = .ok (.getfield 7, 3) := by decide +kernel
theorem d3_4 : decode prog_74_method_14_code 4 = .ok (.getstatic 96, 3) := by decide +kernel
theorem d3_7 : decode prog_74_method_14_code 7 = .ok (.if_acmp .ne 7, 3) := by decide +kernel
theorem d3_14 : decode prog_74_method_14_code 14 = .ok (.iconst 0, 1) := by decide +kernel
theorem d3_15 : decode prog_74_method_14_code 15 = .ok (.ireturn, 1) := by decide +kernel
theorem pf_4 : plainFor (⟨"com/example/riskweave/riskweave/scenario/JsonValue", "isObject", "()Z"⟩ : MethodName) = true := by first | exact plainFor_of_name (by first | (simp [plainName, overriddenIn]; done) | decide +kernel) | decide +kernel
theorem d4_0 : decode prog_74_method_8_code 0 = .ok (.aload_n 0, 1) := by decide +kernel
theorem d4_1 : decode prog_74_method_8_code 1 = .ok (.getfield 7, 3) := by decide +kernel
theorem d4_4 : decode prog_74_method_8_code 4 = .ok (.getstatic 33, 3) := by decide +kernel
theorem d4_7 : decode prog_74_method_8_code 7 = .ok (.if_acmp .ne 7, 3) := by decide +kernel
theorem d4_14 : decode prog_74_method_8_code 14 = .ok (.iconst 0, 1) := by decide +kernel
theorem d4_15 : decode prog_74_method_8_code 15 = .ok (.ireturn, 1) := by decide +kernel
theorem pf_5 : plainFor (⟨"com/example/riskweave/riskweave/scenario/JsonValue", "isArray", "()Z"⟩ : MethodName) = true := by first | exact plainFor_of_name (by first | (simp [plainName, overriddenIn]; done) | decide +kernel) | decide +kernel
theorem d5_0 : decode prog_74_method_9_code 0 = .ok (.aload_n 0, 1) := by decide +kernel
theorem d5_1 : decode prog_74_method_9_code 1 = .ok (.getfield 7, 3) := by decide +kernel
theorem d5_4 : decode prog_74_method_9_code 4 = .ok (.getstatic 53, 3) := by decide +kernel
theorem d5_7 : decode prog_74_method_9_code 7 = .ok (.if_acmp .ne 7, 3) := by decide +kernel
theorem d5_14 : decode prog_74_method_9_code 14 = .ok (.iconst 0, 1) := by decide +kernel
theorem d5_15 : decode prog_74_method_9_code 15 = .ok (.ireturn, 1) := by decide +kernel
theorem pf_6 : plainFor (⟨"com/example/riskweave/riskweave/scenario/JsonValue", "isText", "()Z"⟩ : MethodName) = true := by first | exact plainFor_of_name (by first | (simp [plainName, overriddenIn]; done) | decide +kernel) | decide +kernel
theorem d6_0 : decode prog_74_method_10_code 0 = .ok (.aload_n 0, 1) := by decide +kernel
theorem d6_1 : decode prog_74_method_10_code 1 = .ok (.getfield 7, 3) := by decide +kernel
theorem d6_4 : decode prog_74_method_10_code 4 = .ok (.getstatic 65, 3) := by decide +kernel
theorem d6_7 : decode prog_74_method_10_code 7 = .ok (.if_acmp .ne 7, 3) := by decide +kernel
theorem d6_14 : decode prog_74_method_10_code 14 = .ok (.iconst 0, 1) := by decide +kernel
theorem d6_15 : decode prog_74_method_10_code 15 = .ok (.ireturn, 1) := by decide +kernel
theorem pf_7 : plainFor (⟨"com/example/riskweave/riskweave/scenario/JsonValue", "isNumber", "()Z"⟩ : MethodName) = true := by first | exact plainFor_of_name (by first | (simp [plainName, overriddenIn]; done) | decide +kernel) | decide +kernel
theorem d7_0 : decode prog_74_method_11_code 0 = .ok (.aload_n 0, 1) := by decide +kernel
theorem d7_1 : decode prog_74_method_11_code 1 = .ok (.getfield 7, 3) := by decide +kernel
theorem d7_4 : decode prog_74_method_11_code 4 = .ok (.getstatic 74, 3) := by decide +kernel
theorem d7_7 : decode prog_74_method_11_code 7 = .ok (.if_acmp .ne 7, 3) := by decide +kernel
theorem d7_14 : decode prog_74_method_11_code 14 = .ok (.iconst 0, 1) := by decide +kernel
theorem d7_15 : decode prog_74_method_11_code 15 = .ok (.ireturn, 1) := by decide +kernel
theorem pf_8 : plainFor (⟨"com/example/riskweave/riskweave/scenario/JsonValue", "isTrue", "()Z"⟩ : MethodName) = true := by first | exact plainFor_of_name (by first | (simp [plainName, overriddenIn]; done) | decide +kernel) | decide +kernel
theorem d8_0 : decode prog_74_method_22_code 0 = .ok (.aload_n 0, 1) := by decide +kernel
theorem d8_1 : decode prog_74_method_22_code 1 = .ok (.getstatic 83, 3) := by decide +kernel
theorem d8_4 : decode prog_74_method_22_code 4 = .ok (.if_acmp .ne 7, 3) := by decide +kernel
theorem d8_7 : decode prog_74_method_22_code 7 = .ok (.iconst 1, 1) := by decide +kernel
theorem d8_8 : decode prog_74_method_22_code 8 = .ok (.goto 4, 3) := by decide +kernel
theorem d8_12 : decode prog_74_method_22_code 12 = .ok (.ireturn, 1) := by decide +kernel
theorem d8_11 : decode prog_74_method_22_code 11 = .ok (.iconst 0, 1) := by decide +kernel
theorem pf_17 : plainFor (⟨"java/lang/String", "coder", "()B"⟩ : MethodName) = true := by first | exact plainFor_of_name (by first | (simp [plainName, overriddenIn]; done) | decide +kernel) | decide +kernel
theorem d17_0 : decode jdk_42_method_152_code 0 = .ok (.getstatic 38, 3) := by decide +kernel
theorem d17_3 : decode jdk_42_method_152_code 3 = .ok (.ifCond .eq 10, 3) := by decide +kernel
theorem d17_6 : decode jdk_42_method_152_code 6 = .ok (.aload_n 0, 1) := by decide +kernel
theorem d17_7 : decode jdk_42_method_152_code 7 = .ok (.getfield 15, 3) := by decide +kernel
theorem d17_10 : decode jdk_42_method_152_code 10 = .ok (.goto 4, 3) := by decide +kernel
theorem d17_14 : decode jdk_42_method_152_code 14 = .ok (.ireturn, 1) := by decide +kernel
theorem pf_20 : plainFor (⟨"java/lang/AbstractStringBuilder", "inflateIfNeededFor", "(Ljava/lang/String;)V"⟩ : MethodName) = true := by first | exact plainFor_of_name (by first | (simp [plainName, overriddenIn]; done) | decide +kernel) | decide +kernel
theorem d20_0 : decode jdk_68_method_71_code 0 = .ok (.getstatic 18, 3) := by decide +kernel
theorem d20_3 : decode jdk_68_method_71_code 3 = .ok (.ifCond .eq 18, 3) := by decide +kernel
theorem d20_6 : decode jdk_68_method_71_code 6 = .ok (.aload_n 0, 1) := by decide +kernel
theorem d20_7 : decode jdk_68_method_71_code 7 = .ok (.getfield 22, 3) := by decide +kernel
theorem d20_10 : decode jdk_68_method_71_code 10 = .ok (.aload_n 1, 1) := by decide +kernel
theorem pd_193421976 : parseMethodDescriptor "()B" = some ⟨[], some .byte⟩ := by decide +kernel
theorem d20_11 : decode jdk_68_method_71_code 11 = .ok (.invokevirtual 40, 3) := by decide +kernel
theorem d20_14 : decode jdk_68_method_71_code 14 = .ok (.if_icmp .eq 7, 3) := by decide +kernel
theorem d20_21 : decode jdk_68_method_71_code 21 = .ok (.return_, 1) := by decide +kernel
theorem pf_28 : plainFor (⟨"java/lang/AbstractStringBuilder", "isLatin1", "()Z"⟩ : MethodName) = true := by first | exact plainFor_of_name (by first | (simp [plainName, overriddenIn]; done) | decide +kernel) | decide +kernel
theorem d28_0 : decode jdk_68_method_68_code 0 = .ok (.getstatic 18, 3) := by decide +kernel
theorem d28_3 : decode jdk_68_method_68_code 3 = .ok (.ifCond .eq 14, 3) := by decide +kernel
theorem d28_6 : decode jdk_68_method_68_code 6 = .ok (.aload_n 0, 1) := by decide +kernel
theorem d28_7 : decode jdk_68_method_68_code 7 = .ok (.getfield 22, 3) := by decide +kernel
theorem d28_10 : decode jdk_68_method_68_code 10 = .ok (.ifCond .ne 7, 3) := by decide +kernel
theorem d28_13 : decode jdk_68_method_68_code 13 = .ok (.iconst 1, 1) := by decide +kernel
theorem d28_14 : decode jdk_68_method_68_code 14 = .ok (.goto 4, 3) := by decide +kernel
theorem d28_18 : decode jdk_68_method_68_code 18 = .ok (.ireturn, 1) := by decide +kernel
theorem pf_25 : plainFor (⟨"java/lang/AbstractStringBuilder", "getValue", "()[B"⟩ : MethodName) = true := by first | exact plainFor_of_name (by first | (simp [plainName, overriddenIn]; done) | decide +kernel) | decide +kernel
theorem d25_0 : decode jdk_68_method_64_code 0 = .ok (.aload_n 0, 1) := by decide +kernel
theorem d25_1 : decode jdk_68_method_64_code 1 = .ok (.getfield 15, 3) := by decide +kernel
theorem d25_4 : decode jdk_68_method_64_code 4 = .ok (.areturn, 1) := by decide +kernel
theorem pf_11 : plainFor (⟨"java/lang/AbstractStringBuilder", "<init>", "(I)V"⟩ : MethodName) = true := by first | exact plainFor_of_name (by first | (simp [plainName, overriddenIn]; done) | decide +kernel) | decide +kernel
theorem d11_0 : decode jdk_68_method_2_code 0 = .ok (.aload_n 0, 1) := by decide +kernel
theorem d11_1 : decode jdk_68_method_2_code 1 = .ok (.invokespecial 3, 3) := by decide +kernel
theorem d11_4 : decode jdk_68_method_2_code 4 = .ok (.getstatic 18, 3) := by decide +kernel
theorem d11_7 : decode jdk_68_method_2_code 7 = .ok (.ifCond .eq 18, 3) := by decide +kernel
theorem d11_10 : decode jdk_68_method_2_code 10 = .ok (.aload_n 0, 1) := by decide +kernel
theorem d11_11 : decode jdk_68_method_2_code 11 = .ok (.iload_n 1, 1) := by decide +kernel
theorem d11_12 : decode jdk_68_method_2_code 12 = .ok (.newarray .byte, 2) := by decide +kernel
theorem d11_14 : decode jdk_68_method_2_code 14 = .ok (.putfield 15, 3) := by decide +kernel
theorem d11_17 : decode jdk_68_method_2_code 17 = .ok (.aload_n 0, 1) := by decide +kernel
theorem d11_18 : decode jdk_68_method_2_code 18 = .ok (.iconst 0, 1) := by decide +kernel
theorem d11_19 : decode jdk_68_method_2_code 19 = .ok (.putfield 22, 3) := by decide +kernel
theorem d11_22 : decode jdk_68_method_2_code 22 = .ok (.goto 16, 3) := by decide +kernel
theorem d11_38 : decode jdk_68_method_2_code 38 = .ok (.return_, 1) := by decide +kernel
theorem pf_10 : plainFor (⟨"java/lang/StringBuilder", "<init>", "()V"⟩ : MethodName) = true := by first | exact plainFor_of_name (by first | (simp [plainName, overriddenIn]; done) | decide +kernel) | decide +kernel
theorem d10_0 : decode jdk_67_method_1_code 0 = .ok (.aload_n 0, 1) := by decide +kernel
theorem d10_1 : decode jdk_67_method_1_code 1 = .ok (.bipush 16, 2) := by decide +kernel
theorem pd_2087992021 : parseMethodDescriptor "(I)V" = some ⟨[.int], none⟩ := by decide +kernel
theorem d10_3 : decode jdk_67_method_1_code 3 = .ok (.invokespecial 1, 3) := by decide +kernel
theorem d10_6 : decode jdk_67_method_1_code 6 = .ok (.return_, 1) := by decide +kernel
theorem pf_16 : plainFor (⟨"java/lang/String", "length", "()I"⟩ : MethodName) = true := by first | exact plainFor_of_name (by first | (simp [plainName, overriddenIn]; done) | decide +kernel) | decide +kernel
theorem d16_0 : decode jdk_42_method_54_code 0 = .ok (.aload_n 0, 1) := by decide +kernel
theorem d16_1 : decode jdk_42_method_54_code 1 = .ok (.getfield 9, 3) := by decide +kernel
theorem d16_4 : decode jdk_42_method_54_code 4 = .ok (.arraylength, 1) := by decide +kernel
theorem d16_5 : decode jdk_42_method_54_code 5 = .ok (.aload_n 0, 1) := by decide +kernel
theorem d16_6 : decode jdk_42_method_54_code 6 = .ok (.invokevirtual 335, 3) := by decide +kernel
theorem d16_9 : decode jdk_42_method_54_code 9 = .ok (.ishr, 1) := by decide +kernel
theorem d16_10 : decode jdk_42_method_54_code 10 = .ok (.ireturn, 1) := by decide +kernel
theorem pf_18 : plainFor (⟨"java/lang/AbstractStringBuilder", "ensureCapacityInternal", "(I)V"⟩ : MethodName) = true := by first | exact plainFor_of_name (by first | (simp [plainName, overriddenIn]; done) | decide +kernel) | decide +kernel
theorem d18_0 : decode jdk_68_method_9_code 0 = .ok (.aload_n 0, 1) := by decide +kernel
theorem d18_1 : decode jdk_68_method_9_code 1 = .ok (.getfield 15, 3) := by decide +kernel
theorem d18_4 : decode jdk_68_method_9_code 4 = .ok (.arraylength, 1) := by decide +kernel
theorem d18_5 : decode jdk_68_method_9_code 5 = .ok (.aload_n 0, 1) := by decide +kernel
theorem d18_6 : decode jdk_68_method_9_code 6 = .ok (.getfield 22, 3) := by decide +kernel
theorem d18_9 : decode jdk_68_method_9_code 9 = .ok (.ishr, 1) := by decide +kernel
theorem d18_10 : decode jdk_68_method_9_code 10 = .ok (.istore_n 2, 1) := by decide +kernel
theorem d18_11 : decode jdk_68_method_9_code 11 = .ok (.iload_n 1, 1) := by decide +kernel
theorem d18_12 : decode jdk_68_method_9_code 12 = .ok (.iload_n 2, 1) := by decide +kernel
theorem d18_13 : decode jdk_68_method_9_code 13 = .ok (.isub, 1) := by decide +kernel
theorem d18_14 : decode jdk_68_method_9_code 14 = .ok (.ifCond .le 24, 3) := by decide +kernel
theorem d18_38 : decode jdk_68_method_9_code 38 = .ok (.return_, 1) := by decide +kernel
theorem pf_21 : plainFor (⟨"java/lang/String", "getBytes", "([BIB)V"⟩ : MethodName) = true := by first | exact plainFor_of_name (by first | (simp [plainName, overriddenIn]; done) | decide +kernel) | decide +kernel
theorem d21_0 : decode jdk_42_method_147_code 0 = .ok (.aload_n 0, 1) := by decide +kernel
theorem d21_1 : decode jdk_42_method_147_code 1 = .ok (.invokevirtual 335, 3) := by decide +kernel
theorem d21_4 : decode jdk_42_method_147_code 4 = .ok (.iload_n 3, 1) := by decide +kernel
theorem d21_5 : decode jdk_42_method_147_code 5 = .ok (.if_icmp .ne 23, 3) := by decide +kernel
theorem d21_8 : decode jdk_42_method_147_code 8 = .ok (.aload_n 0, 1) := by decide +kernel
theorem d21_9 : decode jdk_42_method_147_code 9 = .ok (.getfield 9, 3) := by decide +kernel
theorem d21_12 : decode jdk_42_method_147_code 12 = .ok (.iconst 0, 1) := by decide +kernel
theorem d21_13 : decode jdk_42_method_147_code 13 = .ok (.aload_n 1, 1) := by decide +kernel
theorem d21_14 : decode jdk_42_method_147_code 14 = .ok (.iload_n 2, 1) := by decide +kernel
theorem d21_15 : decode jdk_42_method_147_code 15 = .ok (.iload_n 3, 1) := by decide +kernel
theorem d21_16 : decode jdk_42_method_147_code 16 = .ok (.ishl, 1) := by decide +kernel
theorem d21_17 : decode jdk_42_method_147_code 17 = .ok (.aload_n 0, 1) := by decide +kernel
theorem d21_18 : decode jdk_42_method_147_code 18 = .ok (.getfield 9, 3) := by decide +kernel
theorem d21_21 : decode jdk_42_method_147_code 21 = .ok (.arraylength, 1) := by decide +kernel
theorem d21_22 : decode jdk_42_method_147_code 22 = .ok (.invokestatic 212, 3) := by decide +kernel
theorem d21_25 : decode jdk_42_method_147_code 25 = .ok (.goto 18, 3) := by decide +kernel
theorem d21_43 : decode jdk_42_method_147_code 43 = .ok (.return_, 1) := by decide +kernel
theorem pf_19 : plainFor (⟨"java/lang/AbstractStringBuilder", "putStringAt", "(ILjava/lang/String;)V"⟩ : MethodName) = true := by first | exact plainFor_of_name (by first | (simp [plainName, overriddenIn]; done) | decide +kernel) | decide +kernel
theorem d19_0 : decode jdk_68_method_73_code 0 = .ok (.aload_n 0, 1) := by decide +kernel
theorem d19_1 : decode jdk_68_method_73_code 1 = .ok (.aload_n 2, 1) := by decide +kernel
theorem pd_4162450860 : parseMethodDescriptor "(Ljava/lang/String;)V" = some ⟨[(.object "java/lang/String")], none⟩ := by decide +kernel
theorem d19_2 : decode jdk_68_method_73_code 2 = .ok (.invokevirtual 397, 3) := by decide +kernel
theorem d19_5 : decode jdk_68_method_73_code 5 = .ok (.aload_n 2, 1) := by decide +kernel
theorem d19_6 : decode jdk_68_method_73_code 6 = .ok (.aload_n 0, 1) := by decide +kernel
theorem d19_7 : decode jdk_68_method_73_code 7 = .ok (.getfield 15, 3) := by decide +kernel
theorem d19_10 : decode jdk_68_method_73_code 10 = .ok (.iload_n 1, 1) := by decide +kernel
theorem d19_11 : decode jdk_68_method_73_code 11 = .ok (.aload_n 0, 1) := by decide +kernel
theorem d19_12 : decode jdk_68_method_73_code 12 = .ok (.getfield 22, 3) := by decide +kernel
theorem pd_3824288788 : parseMethodDescriptor "([BIB)V" = some ⟨[(.array .byte), .int, .byte], none⟩ := by decide +kernel
theorem d19_15 : decode jdk_68_method_73_code 15 = .ok (.invokevirtual 399, 3) := by decide +kernel
theorem d19_18 : decode jdk_68_method_73_code 18 = .ok (.return_, 1) := by decide +kernel
theorem pf_15 : plainFor (⟨"java/lang/AbstractStringBuilder", "append", "(Ljava/lang/String;)Ljava/lang/AbstractStringBuilder;"⟩ : MethodName) = true := by first | exact plainFor_of_name (by first | (simp [plainName, overriddenIn]; done) | decide +kernel) | decide +kernel
theorem d15_0 : decode jdk_68_method_22_code 0 = .ok (.aload_n 1, 1) := by decide +kernel
theorem d15_1 : decode jdk_68_method_22_code 1 = .ok (.ifnonnull 8, 3) := by decide +kernel
theorem d15_9 : decode jdk_68_method_22_code 9 = .ok (.aload_n 1, 1) := by decide +kernel
theorem pd_193421983 : parseMethodDescriptor "()I" = some ⟨[], some .int⟩ := by decide +kernel
theorem d15_10 : decode jdk_68_method_22_code 10 = .ok (.invokevirtual 32, 3) := by decide +kernel
theorem d15_13 : decode jdk_68_method_22_code 13 = .ok (.istore_n 2, 1) := by decide +kernel
theorem d15_14 : decode jdk_68_method_22_code 14 = .ok (.aload_n 0, 1) := by decide +kernel
theorem d15_15 : decode jdk_68_method_22_code 15 = .ok (.aload_n 0, 1) := by decide +kernel
theorem d15_16 : decode jdk_68_method_22_code 16 = .ok (.getfield 79, 3) := by decide +kernel
theorem d15_19 : decode jdk_68_method_22_code 19 = .ok (.iload_n 2, 1) := by decide +kernel
theorem d15_20 : decode jdk_68_method_22_code 20 = .ok (.iadd, 1) := by decide +kernel
theorem d15_21 : decode jdk_68_method_22_code 21 = .ok (.invokevirtual 100, 3) := by decide +kernel
theorem d15_24 : decode jdk_68_method_22_code 24 = .ok (.aload_n 0, 1) := by decide +kernel
theorem d15_25 : decode jdk_68_method_22_code 25 = .ok (.aload_n 0, 1) := by decide +kernel
theorem d15_26 : decode jdk_68_method_22_code 26 = .ok (.getfield 79, 3) := by decide +kernel
theorem d15_29 : decode jdk_68_method_22_code 29 = .ok (.aload_n 1, 1) := by decide +kernel
theorem pd_1162292757 : parseMethodDescriptor "(ILjava/lang/String;)V" = some ⟨[.int, (.object "java/lang/String")], none⟩ := by decide +kernel
theorem d15_30 : decode jdk_68_method_22_code 30 = .ok (.invokevirtual 208, 3) := by decide +kernel
theorem d15_33 : decode jdk_68_method_22_code 33 = .ok (.aload_n 0, 1) := by decide +kernel
theorem d15_34 : decode jdk_68_method_22_code 34 = .ok (.dup, 1) := by decide +kernel
theorem d15_35 : decode jdk_68_method_22_code 35 = .ok (.getfield 79, 3) := by decide +kernel
theorem d15_38 : decode jdk_68_method_22_code 38 = .ok (.iload_n 2, 1) := by decide +kernel
theorem d15_39 : decode jdk_68_method_22_code 39 = .ok (.iadd, 1) := by decide +kernel
theorem d15_40 : decode jdk_68_method_22_code 40 = .ok (.putfield 79, 3) := by decide +kernel
theorem d15_43 : decode jdk_68_method_22_code 43 = .ok (.aload_n 0, 1) := by decide +kernel
theorem d15_44 : decode jdk_68_method_22_code 44 = .ok (.areturn, 1) := by decide +kernel
theorem pf_14 : plainFor (⟨"java/lang/StringBuilder", "append", "(Ljava/lang/String;)Ljava/lang/StringBuilder;"⟩ : MethodName) = true := by first | exact plainFor_of_name (by first | (simp [plainName, overriddenIn]; done) | decide +kernel) | decide +kernel
theorem d14_0 : decode jdk_67_method_7_code 0 = .ok (.aload_n 0, 1) := by decide +kernel
theorem d14_1 : decode jdk_67_method_7_code 1 = .ok (.aload_n 1, 1) := by decide +kernel
theorem pd_2529712177 : parseMethodDescriptor "(Ljava/lang/String;)Ljava/lang/AbstractStringBuilder;" = some ⟨[(.object "java/lang/String")], some (.object "java/lang/AbstractStringBuilder")⟩ := by decide +kernel
theorem d14_2 : decode jdk_67_method_7_code 2 = .ok (.invokespecial 29, 3) := by decide +kernel
theorem d14_5 : decode jdk_67_method_7_code 5 = .ok (.pop, 1) := by decide +kernel
theorem d14_6 : decode jdk_67_method_7_code 6 = .ok (.aload_n 0, 1) := by decide +kernel
theorem d14_7 : decode jdk_67_method_7_code 7 = .ok (.areturn, 1) := by decide +kernel
theorem pf_13 : plainFor (⟨"com/example/riskweave/riskweave/scenario/JsonValue", "write", "(Ljava/lang/StringBuilder;)V"⟩ : MethodName) = true := by first | exact plainFor_of_name (by first | (simp [plainName, overriddenIn]; done) | decide +kernel) | decide +kernel
theorem d13_0 : decode prog_74_method_24_code 0 = .ok (.aload_n 0, 1) := by decide +kernel
theorem d13_1 : decode prog_74_method_24_code 1 = .ok (.getfield 7, 3) := by decide +kernel
theorem d13_4 : decode prog_74_method_24_code 4 = .ok (.getstatic 33, 3) := by decide +kernel
theorem d13_7 : decode prog_74_method_24_code 7 = .ok (.if_acmp .ne 105, 3) := by decide +kernel
theorem d13_112 : decode prog_74_method_24_code 112 = .ok (.aload_n 0, 1) := by decide +kernel
theorem d13_113 : decode prog_74_method_24_code 113 = .ok (.getfield 7, 3) := by decide +kernel
theorem d13_116 : decode prog_74_method_24_code 116 = .ok (.getstatic 53, 3) := by decide +kernel
theorem d13_119 : decode prog_74_method_24_code 119 = .ok (.if_acmp .ne 71, 3) := by decide +kernel
theorem d13_190 : decode prog_74_method_24_code 190 = .ok (.aload_n 0, 1) := by decide +kernel
theorem d13_191 : decode prog_74_method_24_code 191 = .ok (.getfield 7, 3) := by decide +kernel
theorem d13_194 : decode prog_74_method_24_code 194 = .ok (.getstatic 65, 3) := by decide +kernel
theorem d13_197 : decode prog_74_method_24_code 197 = .ok (.if_acmp .ne 14, 3) := by decide +kernel
theorem d13_211 : decode prog_74_method_24_code 211 = .ok (.aload_n 1, 1) := by decide +kernel
theorem d13_212 : decode prog_74_method_24_code 212 = .ok (.aload_n 0, 1) := by decide +kernel
theorem d13_213 : decode prog_74_method_24_code 213 = .ok (.getfield 13, 3) := by decide +kernel
theorem pd_35207773 : parseMethodDescriptor "(Ljava/lang/String;)Ljava/lang/StringBuilder;" = some ⟨[(.object "java/lang/String")], some (.object "java/lang/StringBuilder")⟩ := by decide +kernel
theorem d13_216 : decode prog_74_method_24_code 216 = .ok (.invokevirtual 153, 3) := by decide +kernel
theorem d13_219 : decode prog_74_method_24_code 219 = .ok (.pop, 1) := by decide +kernel
theorem d13_220 : decode prog_74_method_24_code 220 = .ok (.return_, 1) := by decide +kernel
theorem pf_27 : plainFor (⟨"java/lang/AbstractStringBuilder", "length", "()I"⟩ : MethodName) = true := by first | exact plainFor_of_name (by first | (simp [plainName, overriddenIn]; done) | decide +kernel) | decide +kernel
theorem d27_0 : decode jdk_68_method_6_code 0 = .ok (.aload_n 0, 1) := by decide +kernel
theorem d27_1 : decode jdk_68_method_6_code 1 = .ok (.getfield 79, 3) := by decide +kernel
theorem d27_4 : decode jdk_68_method_6_code 4 = .ok (.ireturn, 1) := by decide +kernel
theorem pf_26 : plainFor (⟨"java/lang/StringBuilder", "length", "()I"⟩ : MethodName) = true := by first | exact plainFor_of_name (by first | (simp [plainName, overriddenIn]; done) | decide +kernel) | decide +kernel
theorem d26_0 : decode jdk_67_method_93_code 0 = .ok (.aload_n 0, 1) := by decide +kernel
theorem d26_1 : decode jdk_67_method_93_code 1 = .ok (.invokespecial 343, 3) := by decide +kernel
theorem d26_4 : decode jdk_67_method_93_code 4 = .ok (.ireturn, 1) := by decide +kernel
theorem pf_32 : plainFor (⟨"java/lang/Math", "min", "(II)I"⟩ : MethodName) = true := by first | exact plainFor_of_name (by first | (simp [plainName, overriddenIn]; done) | decide +kernel) | decide +kernel
theorem d32_0 : decode jdk_29_method_69_code 0 = .ok (.iload_n 0, 1) := by decide +kernel
theorem d32_1 : decode jdk_29_method_69_code 1 = .ok (.iload_n 1, 1) := by decide +kernel
theorem d32_2 : decode jdk_29_method_69_code 2 = .ok (.if_icmp .gt 7, 3) := by decide +kernel
theorem d32_9 : decode jdk_29_method_69_code 9 = .ok (.iload_n 1, 1) := by decide +kernel
theorem d32_10 : decode jdk_29_method_69_code 10 = .ok (.ireturn, 1) := by decide +kernel
theorem pf_31 : plainFor (⟨"java/util/Arrays", "checkLength", "(II)V"⟩ : MethodName) = true := by first | exact plainFor_of_name (by first | (simp [plainName, overriddenIn]; done) | decide +kernel) | decide +kernel
theorem d31_0 : decode jdk_65_method_131_code 0 = .ok (.iload_n 1, 1) := by decide +kernel
theorem d31_1 : decode jdk_65_method_131_code 1 = .ok (.iload_n 0, 1) := by decide +kernel
theorem d31_2 : decode jdk_65_method_131_code 2 = .ok (.if_icmp .ge 35, 3) := by decide +kernel
theorem d31_37 : decode jdk_65_method_131_code 37 = .ok (.return_, 1) := by decide +kernel
theorem pf_30 : plainFor (⟨"java/util/Arrays", "copyOfRangeByte", "([BII)[B"⟩ : MethodName) = true := by first | exact plainFor_of_name (by first | (simp [plainName, overriddenIn]; done) | decide +kernel) | decide +kernel
theorem d30_0 : decode jdk_65_method_133_code 0 = .ok (.iload_n 1, 1) := by decide +kernel
theorem d30_1 : decode jdk_65_method_133_code 1 = .ok (.iload_n 2, 1) := by decide +kernel
theorem pd_184293406 : parseMethodDescriptor "(II)V" = some ⟨[.int, .int], none⟩ := by decide +kernel
theorem d30_2 : decode jdk_65_method_133_code 2 = .ok (.invokestatic 343, 3) := by decide +kernel
theorem d30_5 : decode jdk_65_method_133_code 5 = .ok (.iload_n 2, 1) := by decide +kernel
theorem d30_6 : decode jdk_65_method_133_code 6 = .ok (.iload_n 1, 1) := by decide +kernel
theorem d30_7 : decode jdk_65_method_133_code 7 = .ok (.isub, 1) := by decide +kernel
theorem d30_8 : decode jdk_65_method_133_code 8 = .ok (.istore_n 3, 1) := by decide +kernel
theorem d30_9 : decode jdk_65_method_133_code 9 = .ok (.iload_n 3, 1) := by decide +kernel
theorem d30_10 : decode jdk_65_method_133_code 10 = .ok (.newarray .byte, 2) := by decide +kernel
theorem d30_12 : decode jdk_65_method_133_code 12 = .ok (.astore 4, 2) := by decide +kernel
theorem d30_14 : decode jdk_65_method_133_code 14 = .ok (.aload_n 0, 1) := by decide +kernel
theorem d30_15 : decode jdk_65_method_133_code 15 = .ok (.iload_n 1, 1) := by decide +kernel
theorem d30_16 : decode jdk_65_method_133_code 16 = .ok (.aload 4, 2) := by decide +kernel
theorem d30_18 : decode jdk_65_method_133_code 18 = .ok (.iconst 0, 1) := by decide +kernel
theorem d30_19 : decode jdk_65_method_133_code 19 = .ok (.aload_n 0, 1) := by decide +kernel
theorem d30_20 : decode jdk_65_method_133_code 20 = .ok (.arraylength, 1) := by decide +kernel
theorem d30_21 : decode jdk_65_method_133_code 21 = .ok (.iload_n 1, 1) := by decide +kernel
theorem d30_22 : decode jdk_65_method_133_code 22 = .ok (.isub, 1) := by decide +kernel
theorem d30_23 : decode jdk_65_method_133_code 23 = .ok (.iload_n 3, 1) := by decide +kernel
theorem pd_184293393 : parseMethodDescriptor "(II)I" = some ⟨[.int, .int], some .int⟩ := by decide +kernel
theorem d30_24 : decode jdk_65_method_133_code 24 = .ok (.invokestatic 304, 3) := by decide +kernel
theorem d30_27 : decode jdk_65_method_133_code 27 = .ok (.invokestatic 150, 3) := by decide +kernel
theorem d30_30 : decode jdk_65_method_133_code 30 = .ok (.aload 4, 2) := by decide +kernel
theorem d30_32 : decode jdk_65_method_133_code 32 = .ok (.areturn, 1) := by decide +kernel
theorem pf_29 : plainFor (⟨"java/util/Arrays", "copyOfRange", "([BII)[B"⟩ : MethodName) = true := by first | exact plainFor_of_name (by first | (simp [plainName, overriddenIn]; done) | decide +kernel) | decide +kernel
theorem d29_0 : decode jdk_65_method_132_code 0 = .ok (.iload_n 1, 1) := by decide +kernel
theorem d29_1 : decode jdk_65_method_132_code 1 = .ok (.ifCond .ne 9, 3) := by decide +kernel
theorem d29_4 : decode jdk_65_method_132_code 4 = .ok (.iload_n 2, 1) := by decide +kernel
theorem d29_5 : decode jdk_65_method_132_code 5 = .ok (.aload_n 0, 1) := by decide +kernel
theorem d29_6 : decode jdk_65_method_132_code 6 = .ok (.arraylength, 1) := by decide +kernel
theorem d29_7 : decode jdk_65_method_132_code 7 = .ok (.if_icmp .eq 10, 3) := by decide +kernel
theorem d29_10 : decode jdk_65_method_132_code 10 = .ok (.aload_n 0, 1) := by decide +kernel
theorem d29_11 : decode jdk_65_method_132_code 11 = .ok (.iload_n 1, 1) := by decide +kernel
theorem d29_12 : decode jdk_65_method_132_code 12 = .ok (.iload_n 2, 1) := by decide +kernel
theorem pd_1647730210 : parseMethodDescriptor "([BII)[B" = some ⟨[(.array .byte), .int, .int], some (.array .byte)⟩ := by decide +kernel
theorem d29_13 : decode jdk_65_method_132_code 13 = .ok (.invokestatic 339, 3) := by decide +kernel
theorem d29_16 : decode jdk_65_method_132_code 16 = .ok (.areturn, 1) := by decide +kernel
theorem pf_24 : plainFor (⟨"java/lang/String", "<init>", "(Ljava/lang/AbstractStringBuilder;Ljava/lang/Void;)V"⟩ : MethodName) = true := by first | exact plainFor_of_name (by first | (simp [plainName, overriddenIn]; done) | decide +kernel) | decide +kernel
theorem d24_0 : decode jdk_42_method_150_code 0 = .ok (.aload_n 0, 1) := by decide +kernel
theorem d24_1 : decode jdk_42_method_150_code 1 = .ok (.invokespecial 1, 3) := by decide +kernel
theorem d24_4 : decode jdk_42_method_150_code 4 = .ok (.aload_n 1, 1) := by decide +kernel
theorem pd_2087958803 : parseMethodDescriptor "()[B" = some ⟨[], some (.array .byte)⟩ := by decide +kernel
theorem d24_5 : decode jdk_42_method_150_code 5 = .ok (.invokevirtual 552, 3) := by decide +kernel
theorem d24_8 : decode jdk_42_method_150_code 8 = .ok (.astore_n 3, 1) := by decide +kernel
theorem d24_9 : decode jdk_42_method_150_code 9 = .ok (.aload_n 1, 1) := by decide +kernel
theorem d24_10 : decode jdk_42_method_150_code 10 = .ok (.invokevirtual 549, 3) := by decide +kernel
theorem d24_13 : decode jdk_42_method_150_code 13 = .ok (.istore 4, 2) := by decide +kernel
theorem d24_15 : decode jdk_42_method_150_code 15 = .ok (.aload_n 1, 1) := by decide +kernel
theorem pd_193422000 : parseMethodDescriptor "()Z" = some ⟨[], some .boolean⟩ := by decide +kernel
theorem d24_16 : decode jdk_42_method_150_code 16 = .ok (.invokevirtual 1047, 3) := by decide +kernel
theorem d24_19 : decode jdk_42_method_150_code 19 = .ok (.ifCond .eq 22, 3) := by decide +kernel
theorem d24_22 : decode jdk_42_method_150_code 22 = .ok (.aload_n 0, 1) := by decide +kernel
theorem d24_23 : decode jdk_42_method_150_code 23 = .ok (.iconst 0, 1) := by decide +kernel
theorem d24_24 : decode jdk_42_method_150_code 24 = .ok (.putfield 15, 3) := by decide +kernel
theorem d24_27 : decode jdk_42_method_150_code 27 = .ok (.aload_n 0, 1) := by decide +kernel
theorem d24_28 : decode jdk_42_method_150_code 28 = .ok (.aload_n 3, 1) := by decide +kernel
theorem d24_29 : decode jdk_42_method_150_code 29 = .ok (.iconst 0, 1) := by decide +kernel
theorem d24_30 : decode jdk_42_method_150_code 30 = .ok (.iload 4, 2) := by decide +kernel
theorem d24_32 : decode jdk_42_method_150_code 32 = .ok (.invokestatic 54, 3) := by decide +kernel
theorem d24_35 : decode jdk_42_method_150_code 35 = .ok (.putfield 9, 3) := by decide +kernel
theorem d24_38 : decode jdk_42_method_150_code 38 = .ok (.goto 59, 3) := by decide +kernel
theorem d24_97 : decode jdk_42_method_150_code 97 = .ok (.return_, 1) := by decide +kernel
theorem pf_23 : plainFor (⟨"java/lang/String", "<init>", "(Ljava/lang/StringBuilder;)V"⟩ : MethodName) = true := by first | exact plainFor_of_name (by first | (simp [plainName, overriddenIn]; done) | decide +kernel) | decide +kernel
theorem d23_0 : decode jdk_42_method_53_code 0 = .ok (.aload_n 0, 1) := by decide +kernel
theorem d23_1 : decode jdk_42_method_53_code 1 = .ok (.aload_n 1, 1) := by decide +kernel
theorem d23_2 : decode jdk_42_method_53_code 2 = .ok (.aconst_null, 1) := by decide +kernel
theorem pd_235917794 : parseMethodDescriptor "(Ljava/lang/AbstractStringBuilder;Ljava/lang/Void;)V" = some ⟨[(.object "java/lang/AbstractStringBuilder"), (.object "java/lang/Void")], none⟩ := by decide +kernel
theorem d23_3 : decode jdk_42_method_53_code 3 = .ok (.invokespecial 489, 3) := by decide +kernel
theorem d23_6 : decode jdk_42_method_53_code 6 = .ok (.return_, 1) := by decide +kernel
theorem pf_22 : plainFor (⟨"java/lang/StringBuilder", "toString", "()Ljava/lang/String;"⟩ : MethodName) = true := by first | exact plainFor_of_name (by first | (simp [plainName, overriddenIn]; done) | decide +kernel) | decide +kernel
theorem d22_0 : decode jdk_67_method_42_code 0 = .ok (.new 18, 3) := by decide +kernel
theorem d22_3 : decode jdk_67_method_42_code 3 = .ok (.dup, 1) := by decide +kernel
theorem d22_4 : decode jdk_67_method_42_code 4 = .ok (.aload_n 0, 1) := by decide +kernel
theorem pd_591813651 : parseMethodDescriptor "(Ljava/lang/StringBuilder;)V" = some ⟨[(.object "java/lang/StringBuilder")], none⟩ := by decide +kernel
theorem d22_5 : decode jdk_67_method_42_code 5 = .ok (.invokespecial 137, 3) := by decide +kernel
theorem d22_8 : decode jdk_67_method_42_code 8 = .ok (.areturn, 1) := by decide +kernel
theorem pf_9 : plainFor (⟨"com/example/riskweave/riskweave/scenario/JsonValue", "toString", "()Ljava/lang/String;"⟩ : MethodName) = true := by first | exact plainFor_of_name (by first | (simp [plainName, overriddenIn]; done) | decide +kernel) | decide +kernel
theorem d9_0 : decode prog_74_method_23_code 0 = .ok (.new 115, 3) := by decide +kernel
theorem d9_3 : decode prog_74_method_23_code 3 = .ok (.dup, 1) := by decide +kernel
theorem pd_193421996 : parseMethodDescriptor "()V" = some ⟨[], none⟩ := by decide +kernel
theorem d9_4 : decode prog_74_method_23_code 4 = .ok (.invokespecial 117, 3) := by decide +kernel
theorem d9_7 : decode prog_74_method_23_code 7 = .ok (.astore_n 1, 1) := by decide +kernel
theorem d9_8 : decode prog_74_method_23_code 8 = .ok (.aload_n 0, 1) := by decide +kernel
theorem d9_9 : decode prog_74_method_23_code 9 = .ok (.aload_n 1, 1) := by decide +kernel
theorem d9_10 : decode prog_74_method_23_code 10 = .ok (.invokevirtual 118, 3) := by decide +kernel
theorem d9_13 : decode prog_74_method_23_code 13 = .ok (.aload_n 1, 1) := by decide +kernel
theorem pd_2047462102 : parseMethodDescriptor "()Ljava/lang/String;" = some ⟨[], some (.object "java/lang/String")⟩ := by decide +kernel
theorem d9_14 : decode prog_74_method_23_code 14 = .ok (.invokevirtual 122, 3) := by decide +kernel
theorem d9_17 : decode prog_74_method_23_code 17 = .ok (.areturn, 1) := by decide +kernel
theorem pf_34 : plainFor (⟨"java/lang/StringLatin1", "equals", "([B[B)Z"⟩ : MethodName) = true := by first | exact plainFor_of_name (by first | (simp [plainName, overriddenIn]; done) | decide +kernel) | decide +kernel
theorem d34_0 : decode jdk_43_method_13_code 0 = .ok (.aload_n 0, 1) := by decide +kernel
theorem d34_1 : decode jdk_43_method_13_code 1 = .ok (.arraylength, 1) := by decide +kernel
theorem d34_2 : decode jdk_43_method_13_code 2 = .ok (.aload_n 1, 1) := by decide +kernel
theorem d34_3 : decode jdk_43_method_13_code 3 = .ok (.arraylength, 1) := by decide +kernel
theorem d34_4 : decode jdk_43_method_13_code 4 = .ok (.if_icmp .ne 30, 3) := by decide +kernel
theorem d34_7 : decode jdk_43_method_13_code 7 = .ok (.iconst 0, 1) := by decide +kernel
theorem d34_8 : decode jdk_43_method_13_code 8 = .ok (.istore_n 2, 1) := by decide +kernel
theorem d34_9 : decode jdk_43_method_13_code 9 = .ok (.iload_n 2, 1) := by decide +kernel
theorem d34_10 : decode jdk_43_method_13_code 10 = .ok (.aload_n 0, 1) := by decide +kernel
theorem d34_11 : decode jdk_43_method_13_code 11 = .ok (.arraylength, 1) := by decide +kernel
theorem d34_12 : decode jdk_43_method_13_code 12 = .ok (.if_icmp .ge 20, 3) := by decide +kernel
theorem d34_15 : decode jdk_43_method_13_code 15 = .ok (.aload_n 0, 1) := by decide +kernel
theorem d34_16 : decode jdk_43_method_13_code 16 = .ok (.iload_n 2, 1) := by decide +kernel
theorem d34_17 : decode jdk_43_method_13_code 17 = .ok (.baload, 1) := by decide +kernel
theorem d34_18 : decode jdk_43_method_13_code 18 = .ok (.aload_n 1, 1) := by decide +kernel
theorem d34_19 : decode jdk_43_method_13_code 19 = .ok (.iload_n 2, 1) := by decide +kernel
theorem d34_20 : decode jdk_43_method_13_code 20 = .ok (.baload, 1) := by decide +kernel
theorem d34_21 : decode jdk_43_method_13_code 21 = .ok (.if_icmp .eq 5, 3) := by decide +kernel
theorem d34_26 : decode jdk_43_method_13_code 26 = .ok (.iinc 2 1, 3) := by decide +kernel
theorem d34_29 : decode jdk_43_method_13_code 29 = .ok (.goto (-20), 3) := by decide +kernel
theorem d34_32 : decode jdk_43_method_13_code 32 = .ok (.iconst 1, 1) := by decide +kernel
theorem d34_33 : decode jdk_43_method_13_code 33 = .ok (.ireturn, 1) := by decide +kernel
theorem pf_33 : plainFor (⟨"java/lang/String", "equals", "(Ljava/lang/Object;)Z"⟩ : MethodName) = true := by first | exact plainFor_of_name (by first | (simp [plainName, overriddenIn]; done) | decide +kernel) | decide +kernel
theorem d33_0 : decode jdk_42_method_66_code 0 = .ok (.aload_n 0, 1) := by decide +kernel
theorem d33_1 : decode jdk_42_method_66_code 1 = .ok (.aload_n 1, 1) := by decide +kernel
theorem d33_2 : decode jdk_42_method_66_code 2 = .ok (.if_acmp .ne 5, 3) := by decide +kernel
theorem d33_7 : decode jdk_42_method_66_code 7 = .ok (.aload_n 1, 1) := by decide +kernel
theorem d33_8 : decode jdk_42_method_66_code 8 = .ok (.instanceof 10, 3) := by decide +kernel
theorem d33_11 : decode jdk_42_method_66_code 11 = .ok (.ifCond .eq 43, 3) := by decide +kernel
theorem d33_14 : decode jdk_42_method_66_code 14 = .ok (.aload_n 1, 1) := by decide +kernel
theorem d33_15 : decode jdk_42_method_66_code 15 = .ok (.checkcast 10, 3) := by decide +kernel
theorem d33_18 : decode jdk_42_method_66_code 18 = .ok (.astore_n 2, 1) := by decide +kernel
theorem d33_19 : decode jdk_42_method_66_code 19 = .ok (.getstatic 38, 3) := by decide +kernel
theorem d33_22 : decode jdk_42_method_66_code 22 = .ok (.ifCond .eq 14, 3) := by decide +kernel
theorem d33_25 : decode jdk_42_method_66_code 25 = .ok (.aload_n 0, 1) := by decide +kernel
theorem d33_26 : decode jdk_42_method_66_code 26 = .ok (.getfield 15, 3) := by decide +kernel
theorem d33_29 : decode jdk_42_method_66_code 29 = .ok (.aload_n 2, 1) := by decide +kernel
theorem d33_30 : decode jdk_42_method_66_code 30 = .ok (.getfield 15, 3) := by decide +kernel
theorem d33_33 : decode jdk_42_method_66_code 33 = .ok (.if_icmp .ne 21, 3) := by decide +kernel
theorem d33_36 : decode jdk_42_method_66_code 36 = .ok (.aload_n 0, 1) := by decide +kernel
theorem d33_37 : decode jdk_42_method_66_code 37 = .ok (.getfield 9, 3) := by decide +kernel
theorem d33_40 : decode jdk_42_method_66_code 40 = .ok (.aload_n 2, 1) := by decide +kernel
theorem d33_41 : decode jdk_42_method_66_code 41 = .ok (.getfield 9, 3) := by decide +kernel
theorem pd_3824935658 : parseMethodDescriptor "([B[B)Z" = some ⟨[(.array .byte), (.array .byte)], some .boolean⟩ := by decide +kernel
theorem d33_44 : decode jdk_42_method_66_code 44 = .ok (.invokestatic 541, 3) := by decide +kernel
theorem d33_47 : decode jdk_42_method_66_code 47 = .ok (.ifCond .eq 7, 3) := by decide +kernel
theorem d33_50 : decode jdk_42_method_66_code 50 = .ok (.iconst 1, 1) := by decide +kernel
theorem d33_51 : decode jdk_42_method_66_code 51 = .ok (.goto 4, 3) := by decide +kernel
theorem d33_55 : decode jdk_42_method_66_code 55 = .ok (.ireturn, 1) := by decide +kernel
theorem pf_0 : plainFor (⟨"com/example/riskweave/riskweave/scenario/JsonValueBoolPinLaw", "law", "(I)Z"⟩ : MethodName) = true := by first | exact plainFor_of_name (by first | (simp [plainName, overriddenIn]; done) | decide +kernel) | decide +kernel
theorem pd_2300949434 : parseMethodDescriptor "(Z)Lcom/example/riskweave/riskweave/scenario/JsonValue;" = some ⟨[.boolean], some (.object "com/example/riskweave/riskweave/scenario/JsonValue")⟩ := by decide +kernel
theorem pd_396412080 : parseMethodDescriptor "(Ljava/lang/Object;)Z" = some ⟨[(.object "java/lang/Object")], some .boolean⟩ := by decide +kernel
section OwnMoreM
variable {md en : Bool} {p : Program} {l : Launch} {e : Env} {R : Room} {s : State} {m : MethodId} {args : Array Value} {below : List Frame} {meth : Method} {c : Code} {T T' : State} {Z : State} {own : String} {h h' : Heap} {n0 k n C S : Nat} {a0 : Array Value} {P : Option Value → Heap → Prop} {g g' : JFrame} {pc : Nat} {Ls : Array Slot} {st rest : List Value} {a b : Addr} {ty : FieldType} {N sl : Nat} {f : Nat → Value} {v : Value} {ws : List Addr}
theorem Std.callP (X : Std md p l e R s m args below meth c Z own n0 T h k n) {index : Nat} {y : MethodName} {bytes : ByteArray} {maxL : Nat} {ret : Option FieldType} {rm : Room} {argsL : List Value} {Q : Option Value → Heap → Prop} {ps : List FieldType} {r : Option FieldType} {K : String} {b : Addr} (F : Ins Z h b K true) (w1 : (Cond.methodLink own index y).before a0 Z = true) (w2 : (Cond.sameMethod y.cls y.cls y.name y.desc).before a0 Z = true) (w3 : (Cond.instanceMethod y).before a0 Z = true) (w4 : (Cond.superclass own y.cls).before a0 Z = true) (hn : y.name ≠ "<init>") (wz : (Cond.initialized y.cls).before a0 Z = true) (wc : (Cond.code y bytes maxL ret).before a0 Z = true)
    (hpd : parseMethodDescriptor y.desc = some ⟨ps, r⟩) (hlen : argsL.length = ps.length) (M : Met l Z n0 y bytes maxL ret rm (.ref b :: argsL).toArray h Q) (hsz : Ls.size = c.maxLocals) (hstk : st = argsL.reverse ++ .ref b :: rest) (hf : rm.frames + 1 ≤ R.frames) (hl : (rest.map fun v => v.category).sum + (maxL + 11) + rm.locals ≤ R.locals) (hd : decode c.code pc = .ok (.invokespecial index, 3)) (hc : k + rm.cells ≤ R.cells) (hs : n + rm.slots ≤ R.slots)
    (G : ∀ T h' v, Std md p l e R s m args below meth c Z own n0 T h' (k + rm.cells) (n + rm.slots) → Q v h' → Goes en p e below s n0 C S P T (mkF m (pc + 3) Ls (v.toList ++ rest))) : Goes en p e below s n0 C S P T (mkF m pc Ls st) := by
  obtain ⟨vm0, ⟨L0, X, N⟩, eT, hx, hZ, hown, hB, r⟩ := X
  subst eT
  have hZ' : Z.Warmed39 (s.setVm vm0).vm := hZ
  have M := M.grows
  obtain ⟨v, vm1, ⟨T1, L1, k1, n1⟩, -, X1, ⟨L2, ⟨N2, hQ⟩, l1, y1, z1⟩, st1⟩ := Jvm.RoadKit.superBack X hx hZ' (y := y) hown w1 w2 w3 w4 hn (backOf (Q := fun v h' L => Fr n0 L ∧ (Q v h' ∧ T.heap.size ≤ h'.size)) (W := (rest.map fun v => v.category).sum) M hZ' wc wz hf hl) rfl F (g := mkF m pc Ls st) rfl hsz wc (argsL := argsL) (rest := rest) (lenOf hpd hlen) hstk (by show 2 * 0 + _ ≤ _; omega) hd (fun _ _ => ⟨rfl, rfl, hc, hs⟩)
  dsimp only [Pt.U, Pt.locs, Pt.cells, Pt.slots] at X1 l1 y1 z1 st1 hQ
  subst l1 y1 z1
  exact Goes.by (fun _ q => st1.trans q) (G T1 _ v ⟨vm0, ⟨_, X1, Fr.app N N2⟩, rfl, hx, hZ, hown, hB.mono hQ.2, r⟩ hQ.1)
theorem PArr.arv (A : PArr Z h a ty N f) (hf : ∀ i, i < N → fits ty (f i) = true) (d : Value) : ∃ k, Arv Z h a k ty N.toInt32 ((List.range N).map f) d := by
  obtain ⟨cl, A, r1, r2, r3⟩ := A
  have hz := len_toInt r2
  refine ⟨cl.cls, cl, A, rfl, by rw [r1, (idxN hz).1], (idxN hz).2, fun i hi => ?_, fun i hi => ?_⟩
  · rw [r1] at hi
    rw [r3 i hi]
    simp [List.getD_eq_getElem?_getD, hi]
  · rw [r1] at hi
    simp [List.getD_eq_getElem?_getD, hi, hf i hi]
theorem Arv.parr {k : ClassId} {z : Int32} {vs : List Value} {d : Value} (A : Arv Z h a k ty z vs d) (hz : z.toInt = N) : PArr Z h a ty N (fun i => vs.getD i d) := by
  obtain ⟨cl, A, -, r1, -, r3, -⟩ := A
  have q := Int32.toInt_lt z
  rw [(idxN hz).1] at r1
  exact ⟨cl, A, r1, by omega, fun i hi => r3 i (by rw [r1]; exact hi)⟩
theorem Std.copy (X : Std md p l e R s m args below meth c Z own n0 T h k n) {index M cnt : Nat} {f' : Nat → Value} {nn : Int32} (w1 : (Cond.methodLink own index Jvm.Stand.acN).before a0 Z = true) (w2 : (Cond.native Jvm.Stand.acN).before a0 Z = true) (w3 : (Cond.static Jvm.Stand.acN).before a0 Z = true) (w4 : (Cond.initialized "java/lang/System").before a0 Z = true)
    (A : PArr Z h a ty N f) (B : PArr Z h b ty M f') (hty : refKind ty = false) (hfa : ∀ i, i < N → fits ty (f i) = true) (hfb : ∀ i, i < M → fits ty (f' i) = true) (hn : nn.toInt = cnt) (h4 : cnt ≤ N) (h5 : cnt ≤ M) (ge : n0 ≤ b) (hsz : Ls.size = c.maxLocals) (hd : decode c.code pc = .ok (.invokestatic index, 3)) (hf : 1 ≤ R.frames) (hl : (rest.map fun v => v.category).sum + 18 ≤ R.locals)
    (G : ∀ T h', Std md p l e R s m args below meth c Z own n0 T h' k n → Keep h h' [b] → PArr Z h' b ty M (fun i => if i < cnt then f i else f' i) → Goes en p e below s n0 C S P T (mkF m (pc + 3) Ls rest)) : Goes en p e below s n0 C S P T (mkF m pc Ls (.int nn :: .int 0 :: .ref b :: .int 0 :: .ref a :: rest)) := by
  obtain ⟨vm0, ⟨L, X, NF⟩, eT, hx, hZ, hown, hB, r⟩ := X
  have sA := len_toInt A.small
  have sB := len_toInt B.small
  obtain ⟨ka, A'⟩ := A.arv hfa (.int 0)
  obtain ⟨kb, B'⟩ := B.arv hfb (.int 0)
  have en' : nn.toNatClampNeg = cnt := (idxN hn).1
  have e0 : (0 : Int32).toNatClampNeg = 0 := by decide
  obtain ⟨T1, h1, L1, X1, e1, N1, K1, A1, st1⟩ := cpA X hx hZ hown w1 w2 w3 w4 eT A' B' (us := (List.range cnt).map fun i => ((List.range N).map f).getD (0 + i) (.int 0)) (Or.inl ⟨rfl, hty⟩) (sp := 0) (dp := 0) (nn := nn) (by decide) (by decide) (idxN hn).2 (by rw [e0, en', (idxN sA).1]; omega) (by rw [e0, en', (idxN sB).1]; omega) (by rw [en', e0]) (by rw [e0, en']; simp; omega) NF ge (g := mkF m pc Ls (.int nn :: .int 0 :: .ref b :: .int 0 :: .ref a :: rest)) rfl hsz rfl hd hf (W := (rest.map fun v => v.category).sum) (by show 2 * 0 + _ ≤ _; omega) (by rw [show nativeFrameWords "java/lang/System" "arraycopy" 5 + 11 = 18 from by decide]; exact hl)
  refine Goes.by st1 (G T1 h1 ⟨vm0, ⟨L1, X1, N1⟩, e1, hx, hZ, hown, hB.mono K1.1, r⟩ K1 (PArr.congr (Arv.parr A1 sB) fun i hi => ?_))
  rw [e0, en']
  by_cases q : i < cnt
  · have q2 : i < N := by omega
    simp [List.getD_eq_getElem?_getD, q, q2, List.getElem?_append]
  · simp [List.getD_eq_getElem?_getD, q, hi, List.getElem?_append]
    have q3 : cnt + (i - cnt) = i := by omega
    simp [q3, hi]
/-- the first String constant of a walk that has interned nothing: its text -/
theorem Std.ldcV (X : Std false p l e R s m args below meth c Z own n0 T h k n) {index n' : Nat} {text : String} (w : (Cond.stringLink own index text).before a0 Z = true) (wS : ∀ a ∈ Bundle.stringAtoms, a.before a0 Z = true) (hh : Jvm.Lit.constHeld Z own index) (hcw : Jvm.Lit.compactW.before a0 Z = true) (hsz : s.heap.size = n0) (hkeep : ∀ (b : Addr) (cl : Cell), Z.heap[b]? = some cl → s.heap[b]? = some cl) (hint : s.vm.interned = Z.vm.interned)
    {vs : List Value} {z : Int32} (ht : (∀ c ∈ text.toList, c.toNat < 256) ∧ text.toList.map (fun c => Value.int (Jvm.Lit.byteI c.toNat.toUInt16)) = vs) (hz : z.toInt = N) (hl : N = vs.length) (hd : decode c.code pc = .ok (.ldc index, 2)) (hn : 4 * text.toList.length ≤ n') (hbig : n' ≤ 536870912) (hc : k + 2 ≤ R.cells) (hs : n + (n' + 4) ≤ R.slots)
    (G : ∀ T h' a b, Std true p l e R s m args below meth c Z own n0 T h' (k + 2) (n + (n' + 4)) → Ext h h' → Exa Z h' a "java/lang/String" → Fld Z h' a "java/lang/String" "coder" "B" (.int 0) → Fld Z h' a "java/lang/String" "value" "[B" (.ref b) → PArr Z h' b .byte N (fun i => vs.getD i (.int 0)) → Goes en p e below s n0 C S P T (mkF m (pc + 2) Ls (.ref a :: st))) : Goes en p e below s n0 C S P T (mkF m pc Ls st) := by
  obtain ⟨vm0, ⟨L, X, NF⟩, eT, hx, hZ, hown, hB, r⟩ := X
  obtain rfl : vm0 = s.vm := hB
  obtain ⟨a, T1, h1, k1, b, kk, X1, e1, E1, hS1, hk1, hZ1, hown1, q1, q2, q3, q4, -, -, -, st1⟩ := ldcSV X hx hZ hown w wS eT (k0 := 0) ((State.WarmedH.refl s).since 0) (Nat.zero_le _) (hsz ▸ NF) hkeep (Ts := []) ⟨#[], by simp [hint], by simp⟩ (by simp) hh hcw ht (idxN hz).2 (by rw [(idxN hz).1]; exact hl) (g := mkF m pc Ls st) rfl hd hn hbig hc hs
  exact Goes.by st1 (G T1 h1 a b ⟨T1.vm, ⟨L, X1, NF⟩, e1, hx, hZ1, hown1, ⟨k1, hS1, hk1⟩, r⟩ E1 q1 q2 q3 (Arv.parr q4 hz))
end OwnMoreM

def tv (L : List Int32) (i : Nat) : Value := .int (L.getD i 0)
theorem strAtoms : ∀ d ∈ Bundle.stringAtoms, d ∈ allW := by decide +kernel
theorem exaF {args : Array Value} {s : State} {t : Term} {a : Addr} {C n d K : String} (ht : t.eval args s none [] s = some (.ref a)) (h : (Jvm.Cond.exactly (.field t C n d) K).value args s none s [] = some true) : ∃ x, (Term.field t C n d).eval args s none [] s = some (.ref x) ∧ Fld s s.heap a C n d (.ref x) ∧ Exa s s.heap x K := by
  obtain ⟨x, ex⟩ := exa_v h
  exact ⟨x, ex, Fld.start ((fld_at ht).symm.trans ex), Exa.start ex h⟩
theorem cell0 {args : Array Value} {s : State} {t : Term} {b : Addr} {ty : FieldType} (ht : t.eval args s none [] s = some (.ref b)) (h : (Jvm.Cond.arrayOf t ty).value args s none s [] = some true) {k : Int32} {N : Nat} (hk : k.toInt = N) (hl : (Jvm.Cond.eq (.length t) (.int k)).value args s none s [] = some true) (L : List Int32) (he : ∀ i, i < N → (Jvm.Cond.eq (.elem t (.int (Int32.ofNat i))) (.int (L.getD i 0))).value args s none s [] = some true) : PArr s s.heap b ty N (tv L) := by
  obtain ⟨c, A⟩ := Arr.start ht h
  obtain ⟨x, y, ex, ey, kx, ky⟩ := cmp_v (Or.inl hl)
  have hy : y = .int k := Option.some.inj (ey.symm.trans (Term.int_eval k))
  subst hy
  obtain ⟨z, rfl⟩ : ∃ z, x = .int z := ky
  have q := gotT (Cond.eq_ints ex (Term.int_eval k)) hl
  subst q
  have hat : s.arrayAt? b = some c := Arr.fin (Vm.Alike.refl _) A
  have hsm : c.slots.size < 2 ^ 31 := by
    by_cases q : c.slots.size < 2 ^ 31
    · exact q
    · simp [Term.eval, ht, hat] at ex
      omega
  have hsz : c.slots.size.toInt32 = z := by
    have q := len_f (args := args) (first := s) (o := none) (idx := []) ht hat hsm
    exact Value.int.inj (Option.some.inj (q.symm.trans ex))
  have hN : c.slots.size = N := by
    have q := len_toInt hsm
    rw [hsz, hk] at q
    omega
  refine ⟨c, A, hN, by omega, fun i hi => ?_⟩
  have hi2 : (Int32.ofNat i).toInt = i := len_toInt (n := i) (by omega)
  obtain ⟨x, y, ex, ey, kx, ky⟩ := cmp_v (Or.inl (he i hi))
  have hy : y = .int (L.getD i 0) := Option.some.inj (ey.symm.trans (Term.int_eval _))
  subst hy
  obtain ⟨w, rfl⟩ : ∃ w, x = .int w := ky
  have q := gotT (Cond.eq_ints ex (Term.int_eval _)) (he i hi)
  subst q
  obtain ⟨cell, g1, g2, g3⟩ := elem_at ex ht (Term.int_eval _)
  cases g1.symm.trans A.1
  rw [(idxN hi2).1] at g3
  exact g3
set_option maxRecDepth 65536 in
set_option maxHeartbeats 40000000 in
theorem rmBool1 (l : Launch) (Z : State) (a0 : Array Value) (hw : ∀ d ∈ allW, d.before a0 Z = true) (n0 : Nat) (h0 : Heap) (hn0 : n0 ≤ h0.size) (a_TRUE : Addr) (S_TRUE : Sta Z Z.heap "com/example/riskweave/riskweave/scenario/JsonValue" "TRUE" "Lcom/example/riskweave/riskweave/scenario/JsonValue;" (.ref a_TRUE)) (O_ : Old Z n0 h0) :
    Met l Z n0 (⟨"com/example/riskweave/riskweave/scenario/JsonValue", "bool", "(Z)Lcom/example/riskweave/riskweave/scenario/JsonValue;"⟩ : MethodName) prog_74_method_6_code 1 (Option.some (.object "com/example/riskweave/riskweave/scenario/JsonValue")) ({ frames := 0, cells := 0, slots := 0, locals := 0 } : Room) #[(.int (1 : Int32))] h0 (fun (v : Option Value) (h' : Heap) => v = some (.ref a_TRUE) ∧ h' = h0) := by
  refine metW (Q := fun (v : Option Value) (h' : Heap) => v = some (.ref a_TRUE) ∧ h' = h0) pf_1 hn0 ?_
  intro p e s m below meth c T X hby hml hret hnm
  refine Goes.by (g' := (mkF m 0 #[.val (.int (1 : Int32))] [])) (fun _ q => castTop (by first | rfl | (simp [entryFrame, mkF, argsToLocals, Value.category]; done)) q) ?_
  refine Goes.by (g' := (mkF m 1 #[.val (.int (1 : Int32))] [(.int (1 : Int32))])) (fun _ q => XS.iloadN X.here X.hx rfl (hb hby d1_0) rfl q) ?_
  refine Goes.by (g' := (mkF m 4 #[.val (.int (1 : Int32))] [])) (fun _ q => XS.ifNo X.here X.hx rfl (hb hby d1_1) rfl ((if0 _ _).trans (feq (show ¬ (1 : Int32) = (0 : Int32) from (by decide))).1) q) ?_
  refine X.getS (Or.inl (hw _ (List.mem_of_getElem? (i := 56) rfl))) (host := "") Via.refl (S_TRUE.ext O_.2) (hb hby d1_4) (fun T X => ?_)
  show Goes _ _ _ _ _ _ _ _ _ T (mkF m 7 #[.val (.int (1 : Int32))] [(.ref a_TRUE)])
  refine Goes.by (g' := (mkF m 13 #[.val (.int (1 : Int32))] [(.ref a_TRUE)])) (fun _ q => XS.goto X.here X.hx rfl (pc0 := 7) (pc' := 13) rfl (hb hby d1_7) (by decide) (by decide) q) ?_
  exact X.retA hret rfl rfl (hb hby d1_13) (by decide) (by decide) ⟨rfl, rfl⟩
set_option maxRecDepth 65536 in
set_option maxHeartbeats 40000000 in
theorem rmBool0 (l : Launch) (Z : State) (a0 : Array Value) (hw : ∀ d ∈ allW, d.before a0 Z = true) (n0 : Nat) (h0 : Heap) (hn0 : n0 ≤ h0.size) (a_FALSE : Addr) (S_FALSE : Sta Z Z.heap "com/example/riskweave/riskweave/scenario/JsonValue" "FALSE" "Lcom/example/riskweave/riskweave/scenario/JsonValue;" (.ref a_FALSE)) (O_ : Old Z n0 h0) :
    Met l Z n0 (⟨"com/example/riskweave/riskweave/scenario/JsonValue", "bool", "(Z)Lcom/example/riskweave/riskweave/scenario/JsonValue;"⟩ : MethodName) prog_74_method_6_code 1 (Option.some (.object "com/example/riskweave/riskweave/scenario/JsonValue")) ({ frames := 0, cells := 0, slots := 0, locals := 0 } : Room) #[(.int (0 : Int32))] h0 (fun (v : Option Value) (h' : Heap) => v = some (.ref a_FALSE) ∧ h' = h0) := by
  refine metW (Q := fun (v : Option Value) (h' : Heap) => v = some (.ref a_FALSE) ∧ h' = h0) pf_1 hn0 ?_
  intro p e s m below meth c T X hby hml hret hnm
  refine Goes.by (g' := (mkF m 0 #[.val (.int (0 : Int32))] [])) (fun _ q => castTop (by first | rfl | (simp [entryFrame, mkF, argsToLocals, Value.category]; done)) q) ?_
  refine Goes.by (g' := (mkF m 1 #[.val (.int (0 : Int32))] [(.int (0 : Int32))])) (fun _ q => XS.iloadN X.here X.hx rfl (hb hby d1_0) rfl q) ?_
  refine Goes.by (g' := (mkF m 10 #[.val (.int (0 : Int32))] [])) (fun _ q => XS.ifYes X.here X.hx rfl (pc0 := 1) (pc' := 10) rfl (hb hby d1_1) rfl ((if0 _ _).trans (teq (show (0 : Int32) = (0 : Int32) from (by decide))).1) (by decide) (by decide) q) ?_
  refine X.getS (Or.inl (hw _ (List.mem_of_getElem? (i := 4) rfl))) (host := "") Via.refl (S_FALSE.ext O_.2) (hb hby d1_10) (fun T X => ?_)
  show Goes _ _ _ _ _ _ _ _ _ T (mkF m 13 #[.val (.int (0 : Int32))] [(.ref a_FALSE)])
  exact X.retA hret rfl rfl (hb hby d1_13) (by decide) (by decide) ⟨rfl, rfl⟩
set_option maxRecDepth 65536 in
set_option maxHeartbeats 40000000 in
theorem rm_isBoolean (l : Launch) (Z : State) (a0 : Array Value) (hw : ∀ d ∈ allW, d.before a0 Z = true) (n0 : Nat) (h0 : Heap) (hn0 : n0 ≤ h0.size) (a_BOOLEAN : Addr) (S_BOOLEAN : Sta Z Z.heap "com/example/riskweave/riskweave/scenario/JsonValue$Kind" "BOOLEAN" "Lcom/example/riskweave/riskweave/scenario/JsonValue$Kind;" (.ref a_BOOLEAN)) (a : Addr) (F_a_kind : Fld Z h0 a "com/example/riskweave/riskweave/scenario/JsonValue" "kind" "Lcom/example/riskweave/riskweave/scenario/JsonValue$Kind;" (.ref a_BOOLEAN)) (O_ : Old Z n0 h0) :
    Met l Z n0 (⟨"com/example/riskweave/riskweave/scenario/JsonValue", "isBoolean", "()Z"⟩ : MethodName) prog_74_method_13_code 1 (Option.some .boolean) ({ frames := 0, cells := 0, slots := 0, locals := 0 } : Room) #[(.ref a)] h0 (fun (v : Option Value) (h' : Heap) => v = some (.int 1) ∧ h' = h0) := by
  refine metW (Q := fun (v : Option Value) (h' : Heap) => v = some (.int 1) ∧ h' = h0) pf_2 hn0 ?_
  intro p e s m below meth c T X hby hml hret hnm
  refine Goes.by (g' := (mkF m 0 #[.val (.ref a)] [])) (fun _ q => castTop (by first | rfl | (simp [entryFrame, mkF, argsToLocals, Value.category]; done)) q) ?_
  refine Goes.by (g' := (mkF m 1 #[.val (.ref a)] [(.ref a)])) (fun _ q => XS.aloadN X.here X.hx rfl (hb hby d2_0) rfl rfl q) ?_
  refine X.getF (host := "") (Or.inl (hw _ (List.mem_of_getElem? (i := 11) rfl))) Via.refl F_a_kind (hb hby d2_1) (fun T X => ?_)
  show Goes _ _ _ _ _ _ _ _ _ T (mkF m 4 #[.val (.ref a)] [(.ref a_BOOLEAN)])
  refine X.getS (Or.inl (hw _ (List.mem_of_getElem? (i := 15) rfl))) (host := "") Via.refl (S_BOOLEAN.ext O_.2) (hb hby d2_4) (fun T X => ?_)
  show Goes _ _ _ _ _ _ _ _ _ T (mkF m 7 #[.val (.ref a)] [(.ref a_BOOLEAN), (.ref a_BOOLEAN)])
  refine X.acmp rfl rfl (cd := .ne) (x := (.ref a_BOOLEAN)) (y := (.ref a_BOOLEAN)) (same := true) (pc' := 10) (hb hby d2_7) (decide_eq_true rfl) (by decide) (by decide) ?_
  show Goes _ _ _ _ _ _ _ _ _ T (mkF m 10 #[.val (.ref a)] [])
  refine Goes.by (g' := (mkF m 11 #[.val (.ref a)] [(.int (1 : Int32))])) (fun _ q => XS.iconst X.here X.hx rfl (hb hby d2_10) q) ?_
  refine Goes.by (g' := (mkF m 15 #[.val (.ref a)] [(.int (1 : Int32))])) (fun _ q => XS.goto X.here X.hx rfl (pc0 := 11) (pc' := 15) rfl (hb hby d2_11) (by decide) (by decide) q) ?_
  exact X.retZ hret (hb hby d2_15) (by decide) (by decide) ⟨rfl, rfl⟩
set_option maxRecDepth 65536 in
set_option maxHeartbeats 40000000 in
theorem rm_isNull (l : Launch) (Z : State) (a0 : Array Value) (hw : ∀ d ∈ allW, d.before a0 Z = true) (n0 : Nat) (h0 : Heap) (hn0 : n0 ≤ h0.size) (a_BOOLEAN : Addr) (a_NULL : Addr) (S_NULL : Sta Z Z.heap "com/example/riskweave/riskweave/scenario/JsonValue$Kind" "NULL" "Lcom/example/riskweave/riskweave/scenario/JsonValue$Kind;" (.ref a_NULL)) (hne : a_BOOLEAN ≠ a_NULL) (a : Addr) (F_a_kind : Fld Z h0 a "com/example/riskweave/riskweave/scenario/JsonValue" "kind" "Lcom/example/riskweave/riskweave/scenario/JsonValue$Kind;" (.ref a_BOOLEAN)) (O_ : Old Z n0 h0) :
    Met l Z n0 (⟨"com/example/riskweave/riskweave/scenario/JsonValue", "isNull", "()Z"⟩ : MethodName) prog_74_method_14_code 1 (Option.some .boolean) ({ frames := 0, cells := 0, slots := 0, locals := 0 } : Room) #[(.ref a)] h0 (fun (v : Option Value) (h' : Heap) => v = some (.int 0) ∧ h' = h0) := by
  refine metW (Q := fun (v : Option Value) (h' : Heap) => v = some (.int 0) ∧ h' = h0) pf_3 hn0 ?_
  intro p e s m below meth c T X hby hml hret hnm
  refine Goes.by (g' := (mkF m 0 #[.val (.ref a)] [])) (fun _ q => castTop (by first | rfl | (simp [entryFrame, mkF, argsToLocals, Value.category]; done)) q) ?_
  refine Goes.by (g' := (mkF m 1 #[.val (.ref a)] [(.ref a)])) (fun _ q => XS.aloadN X.here X.hx rfl (hb hby d3_0) rfl rfl q) ?_
  refine X.getF (host := "") (Or.inl (hw _ (List.mem_of_getElem? (i := 11) rfl))) Via.refl F_a_kind (hb hby d3_1) (fun T X => ?_)
  show Goes _ _ _ _ _ _ _ _ _ T (mkF m 4 #[.val (.ref a)] [(.ref a_BOOLEAN)])
  refine X.getS (Or.inl (hw _ (List.mem_of_getElem? (i := 21) rfl))) (host := "") Via.refl (S_NULL.ext O_.2) (hb hby d3_4) (fun T X => ?_)
  show Goes _ _ _ _ _ _ _ _ _ T (mkF m 7 #[.val (.ref a)] [(.ref a_NULL), (.ref a_BOOLEAN)])
  refine X.acmp rfl rfl (cd := .ne) (x := (.ref a_BOOLEAN)) (y := (.ref a_NULL)) (same := false) (pc' := 14) (hb hby d3_7) (decide_eq_false fun q => hne (Value.ref.inj q)) (by decide) (by decide) ?_
  show Goes _ _ _ _ _ _ _ _ _ T (mkF m 14 #[.val (.ref a)] [])
  refine Goes.by (g' := (mkF m 15 #[.val (.ref a)] [(.int (0 : Int32))])) (fun _ q => XS.iconst X.here X.hx rfl (hb hby d3_14) q) ?_
  exact X.retZ hret (hb hby d3_15) (by decide) (by decide) ⟨rfl, rfl⟩
set_option maxRecDepth 65536 in
set_option maxHeartbeats 40000000 in
theorem rm_isObject (l : Launch) (Z : State) (a0 : Array Value) (hw : ∀ d ∈ allW, d.before a0 Z = true) (n0 : Nat) (h0 : Heap) (hn0 : n0 ≤ h0.size) (a_BOOLEAN : Addr) (a_OBJECT : Addr) (S_OBJECT : Sta Z Z.heap "com/example/riskweave/riskweave/scenario/JsonValue$Kind" "OBJECT" "Lcom/example/riskweave/riskweave/scenario/JsonValue$Kind;" (.ref a_OBJECT)) (hne : a_BOOLEAN ≠ a_OBJECT) (a : Addr) (F_a_kind : Fld Z h0 a "com/example/riskweave/riskweave/scenario/JsonValue" "kind" "Lcom/example/riskweave/riskweave/scenario/JsonValue$Kind;" (.ref a_BOOLEAN)) (O_ : Old Z n0 h0) :
    Met l Z n0 (⟨"com/example/riskweave/riskweave/scenario/JsonValue", "isObject", "()Z"⟩ : MethodName) prog_74_method_8_code 1 (Option.some .boolean) ({ frames := 0, cells := 0, slots := 0, locals := 0 } : Room) #[(.ref a)] h0 (fun (v : Option Value) (h' : Heap) => v = some (.int 0) ∧ h' = h0) := by
  refine metW (Q := fun (v : Option Value) (h' : Heap) => v = some (.int 0) ∧ h' = h0) pf_4 hn0 ?_
  intro p e s m below meth c T X hby hml hret hnm
  refine Goes.by (g' := (mkF m 0 #[.val (.ref a)] [])) (fun _ q => castTop (by first | rfl | (simp [entryFrame, mkF, argsToLocals, Value.category]; done)) q) ?_
  refine Goes.by (g' := (mkF m 1 #[.val (.ref a)] [(.ref a)])) (fun _ q => XS.aloadN X.here X.hx rfl (hb hby d4_0) rfl rfl q) ?_
  refine X.getF (host := "") (Or.inl (hw _ (List.mem_of_getElem? (i := 11) rfl))) Via.refl F_a_kind (hb hby d4_1) (fun T X => ?_)
  show Goes _ _ _ _ _ _ _ _ _ T (mkF m 4 #[.val (.ref a)] [(.ref a_BOOLEAN)])
  refine X.getS (Or.inl (hw _ (List.mem_of_getElem? (i := 28) rfl))) (host := "") Via.refl (S_OBJECT.ext O_.2) (hb hby d4_4) (fun T X => ?_)
  show Goes _ _ _ _ _ _ _ _ _ T (mkF m 7 #[.val (.ref a)] [(.ref a_OBJECT), (.ref a_BOOLEAN)])
  refine X.acmp rfl rfl (cd := .ne) (x := (.ref a_BOOLEAN)) (y := (.ref a_OBJECT)) (same := false) (pc' := 14) (hb hby d4_7) (decide_eq_false fun q => hne (Value.ref.inj q)) (by decide) (by decide) ?_
  show Goes _ _ _ _ _ _ _ _ _ T (mkF m 14 #[.val (.ref a)] [])
  refine Goes.by (g' := (mkF m 15 #[.val (.ref a)] [(.int (0 : Int32))])) (fun _ q => XS.iconst X.here X.hx rfl (hb hby d4_14) q) ?_
  exact X.retZ hret (hb hby d4_15) (by decide) (by decide) ⟨rfl, rfl⟩
set_option maxRecDepth 65536 in
set_option maxHeartbeats 40000000 in
theorem rm_isArray (l : Launch) (Z : State) (a0 : Array Value) (hw : ∀ d ∈ allW, d.before a0 Z = true) (n0 : Nat) (h0 : Heap) (hn0 : n0 ≤ h0.size) (a_BOOLEAN : Addr) (a_ARRAY : Addr) (S_ARRAY : Sta Z Z.heap "com/example/riskweave/riskweave/scenario/JsonValue$Kind" "ARRAY" "Lcom/example/riskweave/riskweave/scenario/JsonValue$Kind;" (.ref a_ARRAY)) (hne : a_BOOLEAN ≠ a_ARRAY) (a : Addr) (F_a_kind : Fld Z h0 a "com/example/riskweave/riskweave/scenario/JsonValue" "kind" "Lcom/example/riskweave/riskweave/scenario/JsonValue$Kind;" (.ref a_BOOLEAN)) (O_ : Old Z n0 h0) :
    Met l Z n0 (⟨"com/example/riskweave/riskweave/scenario/JsonValue", "isArray", "()Z"⟩ : MethodName) prog_74_method_9_code 1 (Option.some .boolean) ({ frames := 0, cells := 0, slots := 0, locals := 0 } : Room) #[(.ref a)] h0 (fun (v : Option Value) (h' : Heap) => v = some (.int 0) ∧ h' = h0) := by
  refine metW (Q := fun (v : Option Value) (h' : Heap) => v = some (.int 0) ∧ h' = h0) pf_5 hn0 ?_
  intro p e s m below meth c T X hby hml hret hnm
  refine Goes.by (g' := (mkF m 0 #[.val (.ref a)] [])) (fun _ q => castTop (by first | rfl | (simp [entryFrame, mkF, argsToLocals, Value.category]; done)) q) ?_
  refine Goes.by (g' := (mkF m 1 #[.val (.ref a)] [(.ref a)])) (fun _ q => XS.aloadN X.here X.hx rfl (hb hby d5_0) rfl rfl q) ?_
  refine X.getF (host := "") (Or.inl (hw _ (List.mem_of_getElem? (i := 11) rfl))) Via.refl F_a_kind (hb hby d5_1) (fun T X => ?_)
  show Goes _ _ _ _ _ _ _ _ _ T (mkF m 4 #[.val (.ref a)] [(.ref a_BOOLEAN)])
  refine X.getS (Or.inl (hw _ (List.mem_of_getElem? (i := 35) rfl))) (host := "") Via.refl (S_ARRAY.ext O_.2) (hb hby d5_4) (fun T X => ?_)
  show Goes _ _ _ _ _ _ _ _ _ T (mkF m 7 #[.val (.ref a)] [(.ref a_ARRAY), (.ref a_BOOLEAN)])
  refine X.acmp rfl rfl (cd := .ne) (x := (.ref a_BOOLEAN)) (y := (.ref a_ARRAY)) (same := false) (pc' := 14) (hb hby d5_7) (decide_eq_false fun q => hne (Value.ref.inj q)) (by decide) (by decide) ?_
  show Goes _ _ _ _ _ _ _ _ _ T (mkF m 14 #[.val (.ref a)] [])
  refine Goes.by (g' := (mkF m 15 #[.val (.ref a)] [(.int (0 : Int32))])) (fun _ q => XS.iconst X.here X.hx rfl (hb hby d5_14) q) ?_
  exact X.retZ hret (hb hby d5_15) (by decide) (by decide) ⟨rfl, rfl⟩
set_option maxRecDepth 65536 in
set_option maxHeartbeats 40000000 in
theorem rm_isText (l : Launch) (Z : State) (a0 : Array Value) (hw : ∀ d ∈ allW, d.before a0 Z = true) (n0 : Nat) (h0 : Heap) (hn0 : n0 ≤ h0.size) (a_BOOLEAN : Addr) (a_STRING : Addr) (S_STRING : Sta Z Z.heap "com/example/riskweave/riskweave/scenario/JsonValue$Kind" "STRING" "Lcom/example/riskweave/riskweave/scenario/JsonValue$Kind;" (.ref a_STRING)) (hne : a_BOOLEAN ≠ a_STRING) (a : Addr) (F_a_kind : Fld Z h0 a "com/example/riskweave/riskweave/scenario/JsonValue" "kind" "Lcom/example/riskweave/riskweave/scenario/JsonValue$Kind;" (.ref a_BOOLEAN)) (O_ : Old Z n0 h0) :
    Met l Z n0 (⟨"com/example/riskweave/riskweave/scenario/JsonValue", "isText", "()Z"⟩ : MethodName) prog_74_method_10_code 1 (Option.some .boolean) ({ frames := 0, cells := 0, slots := 0, locals := 0 } : Room) #[(.ref a)] h0 (fun (v : Option Value) (h' : Heap) => v = some (.int 0) ∧ h' = h0) := by
  refine metW (Q := fun (v : Option Value) (h' : Heap) => v = some (.int 0) ∧ h' = h0) pf_6 hn0 ?_
  intro p e s m below meth c T X hby hml hret hnm
  refine Goes.by (g' := (mkF m 0 #[.val (.ref a)] [])) (fun _ q => castTop (by first | rfl | (simp [entryFrame, mkF, argsToLocals, Value.category]; done)) q) ?_
  refine Goes.by (g' := (mkF m 1 #[.val (.ref a)] [(.ref a)])) (fun _ q => XS.aloadN X.here X.hx rfl (hb hby d6_0) rfl rfl q) ?_
  refine X.getF (host := "") (Or.inl (hw _ (List.mem_of_getElem? (i := 11) rfl))) Via.refl F_a_kind (hb hby d6_1) (fun T X => ?_)
  show Goes _ _ _ _ _ _ _ _ _ T (mkF m 4 #[.val (.ref a)] [(.ref a_BOOLEAN)])
  refine X.getS (Or.inl (hw _ (List.mem_of_getElem? (i := 42) rfl))) (host := "") Via.refl (S_STRING.ext O_.2) (hb hby d6_4) (fun T X => ?_)
  show Goes _ _ _ _ _ _ _ _ _ T (mkF m 7 #[.val (.ref a)] [(.ref a_STRING), (.ref a_BOOLEAN)])
  refine X.acmp rfl rfl (cd := .ne) (x := (.ref a_BOOLEAN)) (y := (.ref a_STRING)) (same := false) (pc' := 14) (hb hby d6_7) (decide_eq_false fun q => hne (Value.ref.inj q)) (by decide) (by decide) ?_
  show Goes _ _ _ _ _ _ _ _ _ T (mkF m 14 #[.val (.ref a)] [])
  refine Goes.by (g' := (mkF m 15 #[.val (.ref a)] [(.int (0 : Int32))])) (fun _ q => XS.iconst X.here X.hx rfl (hb hby d6_14) q) ?_
  exact X.retZ hret (hb hby d6_15) (by decide) (by decide) ⟨rfl, rfl⟩
set_option maxRecDepth 65536 in
set_option maxHeartbeats 40000000 in
theorem rm_isNumber (l : Launch) (Z : State) (a0 : Array Value) (hw : ∀ d ∈ allW, d.before a0 Z = true) (n0 : Nat) (h0 : Heap) (hn0 : n0 ≤ h0.size) (a_BOOLEAN : Addr) (a_NUMBER : Addr) (S_NUMBER : Sta Z Z.heap "com/example/riskweave/riskweave/scenario/JsonValue$Kind" "NUMBER" "Lcom/example/riskweave/riskweave/scenario/JsonValue$Kind;" (.ref a_NUMBER)) (hne : a_BOOLEAN ≠ a_NUMBER) (a : Addr) (F_a_kind : Fld Z h0 a "com/example/riskweave/riskweave/scenario/JsonValue" "kind" "Lcom/example/riskweave/riskweave/scenario/JsonValue$Kind;" (.ref a_BOOLEAN)) (O_ : Old Z n0 h0) :
    Met l Z n0 (⟨"com/example/riskweave/riskweave/scenario/JsonValue", "isNumber", "()Z"⟩ : MethodName) prog_74_method_11_code 1 (Option.some .boolean) ({ frames := 0, cells := 0, slots := 0, locals := 0 } : Room) #[(.ref a)] h0 (fun (v : Option Value) (h' : Heap) => v = some (.int 0) ∧ h' = h0) := by
  refine metW (Q := fun (v : Option Value) (h' : Heap) => v = some (.int 0) ∧ h' = h0) pf_7 hn0 ?_
  intro p e s m below meth c T X hby hml hret hnm
  refine Goes.by (g' := (mkF m 0 #[.val (.ref a)] [])) (fun _ q => castTop (by first | rfl | (simp [entryFrame, mkF, argsToLocals, Value.category]; done)) q) ?_
  refine Goes.by (g' := (mkF m 1 #[.val (.ref a)] [(.ref a)])) (fun _ q => XS.aloadN X.here X.hx rfl (hb hby d7_0) rfl rfl q) ?_
  refine X.getF (host := "") (Or.inl (hw _ (List.mem_of_getElem? (i := 11) rfl))) Via.refl F_a_kind (hb hby d7_1) (fun T X => ?_)
  show Goes _ _ _ _ _ _ _ _ _ T (mkF m 4 #[.val (.ref a)] [(.ref a_BOOLEAN)])
  refine X.getS (Or.inl (hw _ (List.mem_of_getElem? (i := 49) rfl))) (host := "") Via.refl (S_NUMBER.ext O_.2) (hb hby d7_4) (fun T X => ?_)
  show Goes _ _ _ _ _ _ _ _ _ T (mkF m 7 #[.val (.ref a)] [(.ref a_NUMBER), (.ref a_BOOLEAN)])
  refine X.acmp rfl rfl (cd := .ne) (x := (.ref a_BOOLEAN)) (y := (.ref a_NUMBER)) (same := false) (pc' := 14) (hb hby d7_7) (decide_eq_false fun q => hne (Value.ref.inj q)) (by decide) (by decide) ?_
  show Goes _ _ _ _ _ _ _ _ _ T (mkF m 14 #[.val (.ref a)] [])
  refine Goes.by (g' := (mkF m 15 #[.val (.ref a)] [(.int (0 : Int32))])) (fun _ q => XS.iconst X.here X.hx rfl (hb hby d7_14) q) ?_
  exact X.retZ hret (hb hby d7_15) (by decide) (by decide) ⟨rfl, rfl⟩
set_option maxRecDepth 65536 in
set_option maxHeartbeats 40000000 in
theorem rmT1 (l : Launch) (Z : State) (a0 : Array Value) (hw : ∀ d ∈ allW, d.before a0 Z = true) (n0 : Nat) (h0 : Heap) (hn0 : n0 ≤ h0.size) (a_TRUE : Addr) (S_TRUE : Sta Z Z.heap "com/example/riskweave/riskweave/scenario/JsonValue" "TRUE" "Lcom/example/riskweave/riskweave/scenario/JsonValue;" (.ref a_TRUE)) (O_ : Old Z n0 h0) :
    Met l Z n0 (⟨"com/example/riskweave/riskweave/scenario/JsonValue", "isTrue", "()Z"⟩ : MethodName) prog_74_method_22_code 1 (Option.some .boolean) ({ frames := 0, cells := 0, slots := 0, locals := 0 } : Room) #[(.ref a_TRUE)] h0 (fun (v : Option Value) (h' : Heap) => v = some (.int 1) ∧ h' = h0) := by
  refine metW (Q := fun (v : Option Value) (h' : Heap) => v = some (.int 1) ∧ h' = h0) pf_8 hn0 ?_
  intro p e s m below meth c T X hby hml hret hnm
  refine Goes.by (g' := (mkF m 0 #[.val (.ref a_TRUE)] [])) (fun _ q => castTop (by first | rfl | (simp [entryFrame, mkF, argsToLocals, Value.category]; done)) q) ?_
  refine Goes.by (g' := (mkF m 1 #[.val (.ref a_TRUE)] [(.ref a_TRUE)])) (fun _ q => XS.aloadN X.here X.hx rfl (hb hby d8_0) rfl rfl q) ?_
  refine X.getS (Or.inl (hw _ (List.mem_of_getElem? (i := 56) rfl))) (host := "") Via.refl (S_TRUE.ext O_.2) (hb hby d8_1) (fun T X => ?_)
  show Goes _ _ _ _ _ _ _ _ _ T (mkF m 4 #[.val (.ref a_TRUE)] [(.ref a_TRUE), (.ref a_TRUE)])
  refine X.acmp rfl rfl (cd := .ne) (x := (.ref a_TRUE)) (y := (.ref a_TRUE)) (same := true) (pc' := 7) (hb hby d8_4) (decide_eq_true rfl) (by decide) (by decide) ?_
  show Goes _ _ _ _ _ _ _ _ _ T (mkF m 7 #[.val (.ref a_TRUE)] [])
  refine Goes.by (g' := (mkF m 8 #[.val (.ref a_TRUE)] [(.int (1 : Int32))])) (fun _ q => XS.iconst X.here X.hx rfl (hb hby d8_7) q) ?_
  refine Goes.by (g' := (mkF m 12 #[.val (.ref a_TRUE)] [(.int (1 : Int32))])) (fun _ q => XS.goto X.here X.hx rfl (pc0 := 8) (pc' := 12) rfl (hb hby d8_8) (by decide) (by decide) q) ?_
  exact X.retZ hret (hb hby d8_12) (by decide) (by decide) ⟨rfl, rfl⟩
set_option maxRecDepth 65536 in
set_option maxHeartbeats 40000000 in
theorem rmT0 (l : Launch) (Z : State) (a0 : Array Value) (hw : ∀ d ∈ allW, d.before a0 Z = true) (n0 : Nat) (h0 : Heap) (hn0 : n0 ≤ h0.size) (a_TRUE : Addr) (S_TRUE : Sta Z Z.heap "com/example/riskweave/riskweave/scenario/JsonValue" "TRUE" "Lcom/example/riskweave/riskweave/scenario/JsonValue;" (.ref a_TRUE)) (a : Addr) (hne : a ≠ a_TRUE) (O_ : Old Z n0 h0) :
    Met l Z n0 (⟨"com/example/riskweave/riskweave/scenario/JsonValue", "isTrue", "()Z"⟩ : MethodName) prog_74_method_22_code 1 (Option.some .boolean) ({ frames := 0, cells := 0, slots := 0, locals := 0 } : Room) #[(.ref a)] h0 (fun (v : Option Value) (h' : Heap) => v = some (.int 0) ∧ h' = h0) := by
  refine metW (Q := fun (v : Option Value) (h' : Heap) => v = some (.int 0) ∧ h' = h0) pf_8 hn0 ?_
  intro p e s m below meth c T X hby hml hret hnm
  refine Goes.by (g' := (mkF m 0 #[.val (.ref a)] [])) (fun _ q => castTop (by first | rfl | (simp [entryFrame, mkF, argsToLocals, Value.category]; done)) q) ?_
  refine Goes.by (g' := (mkF m 1 #[.val (.ref a)] [(.ref a)])) (fun _ q => XS.aloadN X.here X.hx rfl (hb hby d8_0) rfl rfl q) ?_
  refine X.getS (Or.inl (hw _ (List.mem_of_getElem? (i := 56) rfl))) (host := "") Via.refl (S_TRUE.ext O_.2) (hb hby d8_1) (fun T X => ?_)
  show Goes _ _ _ _ _ _ _ _ _ T (mkF m 4 #[.val (.ref a)] [(.ref a_TRUE), (.ref a)])
  refine X.acmp rfl rfl (cd := .ne) (x := (.ref a)) (y := (.ref a_TRUE)) (same := false) (pc' := 11) (hb hby d8_4) (decide_eq_false fun q => hne (Value.ref.inj q)) (by decide) (by decide) ?_
  show Goes _ _ _ _ _ _ _ _ _ T (mkF m 11 #[.val (.ref a)] [])
  refine Goes.by (g' := (mkF m 12 #[.val (.ref a)] [(.int (0 : Int32))])) (fun _ q => XS.iconst X.here X.hx rfl (hb hby d8_11) q) ?_
  exact X.retZ hret (hb hby d8_12) (by decide) (by decide) ⟨rfl, rfl⟩
set_option maxRecDepth 65536 in
set_option maxHeartbeats 40000000 in
theorem rmCod (l : Launch) (Z : State) (a0 : Array Value) (hw : ∀ d ∈ allW, d.before a0 Z = true) (n0 : Nat) (h0 : Heap) (hn0 : n0 ≤ h0.size) (x : Addr) (F_x_coder : Fld Z h0 x "java/lang/String" "coder" "B" (.int 0)) (zc : Int32) (hzc : ¬ zc = 0) (S_C : Sta Z Z.heap "java/lang/String" "COMPACT_STRINGS" "Z" (.int zc)) (O_ : Old Z n0 h0) :
    Met l Z n0 (⟨"java/lang/String", "coder", "()B"⟩ : MethodName) jdk_42_method_152_code 1 (Option.some .byte) ({ frames := 0, cells := 0, slots := 0, locals := 0 } : Room) #[(.ref x)] h0 (fun (v : Option Value) (h' : Heap) => v = some (.int 0) ∧ h' = h0) := by
  refine metW (Q := fun (v : Option Value) (h' : Heap) => v = some (.int 0) ∧ h' = h0) pf_17 hn0 ?_
  intro p e s m below meth c T X hby hml hret hnm
  refine Goes.by (g' := (mkF m 0 #[.val (.ref x)] [])) (fun _ q => castTop (by first | rfl | (simp [entryFrame, mkF, argsToLocals, Value.category]; done)) q) ?_
  refine X.getS (Or.inl (hw _ (List.mem_of_getElem? (i := 118) rfl))) (host := "") Via.refl (S_C.ext O_.2) (hb hby d17_0) (fun T X => ?_)
  show Goes _ _ _ _ _ _ _ _ _ T (mkF m 3 #[.val (.ref x)] [(.int zc)])
  refine Goes.by (g' := (mkF m 6 #[.val (.ref x)] [])) (fun _ q => XS.ifNo X.here X.hx rfl (hb hby d17_3) rfl ((if0 _ _).trans (feq (show ¬ zc = (0 : Int32) from hzc)).1) q) ?_
  refine Goes.by (g' := (mkF m 7 #[.val (.ref x)] [(.ref x)])) (fun _ q => XS.aloadN X.here X.hx rfl (hb hby d17_6) rfl rfl q) ?_
  refine X.getF (host := "") (Or.inl (hw _ (List.mem_of_getElem? (i := 119) rfl))) Via.refl F_x_coder (hb hby d17_7) (fun T X => ?_)
  show Goes _ _ _ _ _ _ _ _ _ T (mkF m 10 #[.val (.ref x)] [(.int (0 : Int32))])
  refine Goes.by (g' := (mkF m 14 #[.val (.ref x)] [(.int (0 : Int32))])) (fun _ q => XS.goto X.here X.hx rfl (pc0 := 10) (pc' := 14) rfl (hb hby d17_10) (by decide) (by decide) q) ?_
  exact X.retN hret (by simp) (hb hby d17_14) (by decide) (by decide) ⟨rfl, rfl⟩
set_option maxRecDepth 65536 in
set_option maxHeartbeats 40000000 in
theorem rmInf (l : Launch) (Z : State) (a0 : Array Value) (hw : ∀ d ∈ allW, d.before a0 Z = true) (n0 : Nat) (h0 : Heap) (hn0 : n0 ≤ h0.size) (b x : Addr) (F_b_coder : Fld Z h0 b "java/lang/AbstractStringBuilder" "coder" "B" (.int 0)) (E_x : Exa Z h0 x "java/lang/String") (F_x_coder : Fld Z h0 x "java/lang/String" "coder" "B" (.int 0)) (zc : Int32) (hzc : ¬ zc = 0) (S_C : Sta Z Z.heap "java/lang/String" "COMPACT_STRINGS" "Z" (.int zc)) (O_ : Old Z n0 h0) :
    Met l Z n0 (⟨"java/lang/AbstractStringBuilder", "inflateIfNeededFor", "(Ljava/lang/String;)V"⟩ : MethodName) jdk_68_method_71_code 2 (Option.none : Option FieldType) ({ frames := 1, cells := 0, slots := 0, locals := 13 } : Room) #[(.ref b), (.ref x)] h0 (fun (v : Option Value) (h' : Heap) => v = none ∧ h' = h0) := by
  refine metW (Q := fun (v : Option Value) (h' : Heap) => v = none ∧ h' = h0) pf_20 hn0 ?_
  intro p e s m below meth c T X hby hml hret hnm
  refine Goes.by (g' := (mkF m 0 #[.val (.ref b), .val (.ref x)] [])) (fun _ q => castTop (by first | rfl | (simp [entryFrame, mkF, argsToLocals, Value.category]; done)) q) ?_
  refine X.getS (Or.inl (hw _ (List.mem_of_getElem? (i := 86) rfl))) (host := "") Via.refl (S_C.ext O_.2) (hb hby d20_0) (fun T X => ?_)
  show Goes _ _ _ _ _ _ _ _ _ T (mkF m 3 #[.val (.ref b), .val (.ref x)] [(.int zc)])
  refine Goes.by (g' := (mkF m 6 #[.val (.ref b), .val (.ref x)] [])) (fun _ q => XS.ifNo X.here X.hx rfl (hb hby d20_3) rfl ((if0 _ _).trans (feq (show ¬ zc = (0 : Int32) from hzc)).1) q) ?_
  refine Goes.by (g' := (mkF m 7 #[.val (.ref b), .val (.ref x)] [(.ref b)])) (fun _ q => XS.aloadN X.here X.hx rfl (hb hby d20_6) rfl rfl q) ?_
  refine X.getF (host := "") (Or.inl (hw _ (List.mem_of_getElem? (i := 89) rfl))) Via.refl F_b_coder (hb hby d20_7) (fun T X => ?_)
  show Goes _ _ _ _ _ _ _ _ _ T (mkF m 10 #[.val (.ref b), .val (.ref x)] [(.int (0 : Int32))])
  refine Goes.by (g' := (mkF m 11 #[.val (.ref b), .val (.ref x)] [(.ref x), (.int (0 : Int32))])) (fun _ q => XS.aloadN X.here X.hx rfl (hb hby d20_10) rfl rfl q) ?_
  have X_o := X
  refine X.callV E_x (hw _ (List.mem_of_getElem? (i := 137) rfl)) (hw _ (List.mem_of_getElem? (i := 114) rfl)) (hw _ (List.mem_of_getElem? (i := 116) rfl)) (hw _ (List.mem_of_getElem? (i := 110) rfl)) rfl (hw _ (List.mem_of_getElem? (i := 115) rfl)) (hw _ (List.mem_of_getElem? (i := 59) rfl)) (hw _ (List.mem_of_getElem? (i := 117) rfl)) (by decide) pd_193421976 (argsL := []) rfl (rmCod l Z a0 hw n0 h0 X.n0le x F_x_coder zc hzc S_C O_) (by rw [hml]; rfl) rfl (by decide) (leB rfl) (hb hby d20_11) (by decide) (by decide) (fun T h1 v X hQ => ?_)
  obtain ⟨rfl, hh⟩ := hQ
  rw [hh] at X
  clear hh
  show Goes _ _ _ _ _ _ _ _ _ T (mkF m 14 #[.val (.ref b), .val (.ref x)] [(.int (0 : Int32)), (.int (0 : Int32))])
  refine Goes.by (g' := (mkF m 21 #[.val (.ref b), .val (.ref x)] [])) (fun _ q => XS.icmpYes X.here X.hx rfl (pc0 := 14) (pc' := 21) rfl (hb hby d20_14) rfl (teq (show (0 : Int32) = (0 : Int32) from (by decide))).1 (by decide) (by decide) q) ?_
  exact X.retV hret (hb hby d20_21) (by decide) (by decide) ⟨rfl, rfl⟩
set_option maxRecDepth 65536 in
set_option maxHeartbeats 40000000 in
theorem rmIsL (l : Launch) (Z : State) (a0 : Array Value) (hw : ∀ d ∈ allW, d.before a0 Z = true) (n0 : Nat) (h0 : Heap) (hn0 : n0 ≤ h0.size) (b : Addr) (F_b_coder : Fld Z h0 b "java/lang/AbstractStringBuilder" "coder" "B" (.int 0)) (zc : Int32) (hzc : ¬ zc = 0) (S_C : Sta Z Z.heap "java/lang/String" "COMPACT_STRINGS" "Z" (.int zc)) (O_ : Old Z n0 h0) :
    Met l Z n0 (⟨"java/lang/AbstractStringBuilder", "isLatin1", "()Z"⟩ : MethodName) jdk_68_method_68_code 1 (Option.some .boolean) ({ frames := 0, cells := 0, slots := 0, locals := 0 } : Room) #[(.ref b)] h0 (fun (v : Option Value) (h' : Heap) => v = some (.int 1) ∧ h' = h0) := by
  refine metW (Q := fun (v : Option Value) (h' : Heap) => v = some (.int 1) ∧ h' = h0) pf_28 hn0 ?_
  intro p e s m below meth c T X hby hml hret hnm
  refine Goes.by (g' := (mkF m 0 #[.val (.ref b)] [])) (fun _ q => castTop (by first | rfl | (simp [entryFrame, mkF, argsToLocals, Value.category]; done)) q) ?_
  refine X.getS (Or.inl (hw _ (List.mem_of_getElem? (i := 86) rfl))) (host := "") Via.refl (S_C.ext O_.2) (hb hby d28_0) (fun T X => ?_)
  show Goes _ _ _ _ _ _ _ _ _ T (mkF m 3 #[.val (.ref b)] [(.int zc)])
  refine Goes.by (g' := (mkF m 6 #[.val (.ref b)] [])) (fun _ q => XS.ifNo X.here X.hx rfl (hb hby d28_3) rfl ((if0 _ _).trans (feq (show ¬ zc = (0 : Int32) from hzc)).1) q) ?_
  refine Goes.by (g' := (mkF m 7 #[.val (.ref b)] [(.ref b)])) (fun _ q => XS.aloadN X.here X.hx rfl (hb hby d28_6) rfl rfl q) ?_
  refine X.getF (host := "") (Or.inl (hw _ (List.mem_of_getElem? (i := 89) rfl))) Via.refl F_b_coder (hb hby d28_7) (fun T X => ?_)
  show Goes _ _ _ _ _ _ _ _ _ T (mkF m 10 #[.val (.ref b)] [(.int (0 : Int32))])
  refine Goes.by (g' := (mkF m 13 #[.val (.ref b)] [])) (fun _ q => XS.ifNo X.here X.hx rfl (hb hby d28_10) rfl ((if0 _ _).trans (teq (show (0 : Int32) = (0 : Int32) from (by decide))).2) q) ?_
  refine Goes.by (g' := (mkF m 14 #[.val (.ref b)] [(.int (1 : Int32))])) (fun _ q => XS.iconst X.here X.hx rfl (hb hby d28_13) q) ?_
  refine Goes.by (g' := (mkF m 18 #[.val (.ref b)] [(.int (1 : Int32))])) (fun _ q => XS.goto X.here X.hx rfl (pc0 := 14) (pc' := 18) rfl (hb hby d28_14) (by decide) (by decide) q) ?_
  exact X.retZ hret (hb hby d28_18) (by decide) (by decide) ⟨rfl, rfl⟩
set_option maxRecDepth 65536 in
set_option maxHeartbeats 40000000 in
theorem rmGV (l : Launch) (Z : State) (a0 : Array Value) (hw : ∀ d ∈ allW, d.before a0 Z = true) (n0 : Nat) (h0 : Heap) (hn0 : n0 ≤ h0.size) (b va : Addr) (F_b_value : Fld Z h0 b "java/lang/AbstractStringBuilder" "value" "[B" (.ref va)) :
    Met l Z n0 (⟨"java/lang/AbstractStringBuilder", "getValue", "()[B"⟩ : MethodName) jdk_68_method_64_code 1 (Option.some (.array .byte)) ({ frames := 0, cells := 0, slots := 0, locals := 0 } : Room) #[(.ref b)] h0 (fun (v : Option Value) (h' : Heap) => v = some (.ref va) ∧ h' = h0) := by
  refine metW (Q := fun (v : Option Value) (h' : Heap) => v = some (.ref va) ∧ h' = h0) pf_25 hn0 ?_
  intro p e s m below meth c T X hby hml hret hnm
  refine Goes.by (g' := (mkF m 0 #[.val (.ref b)] [])) (fun _ q => castTop (by first | rfl | (simp [entryFrame, mkF, argsToLocals, Value.category]; done)) q) ?_
  refine Goes.by (g' := (mkF m 1 #[.val (.ref b)] [(.ref b)])) (fun _ q => XS.aloadN X.here X.hx rfl (hb hby d25_0) rfl rfl q) ?_
  refine X.getF (host := "") (Or.inl (hw _ (List.mem_of_getElem? (i := 87) rfl))) Via.refl F_b_value (hb hby d25_1) (fun T X => ?_)
  show Goes _ _ _ _ _ _ _ _ _ T (mkF m 4 #[.val (.ref b)] [(.ref va)])
  exact X.retA hret rfl rfl (hb hby d25_4) (by decide) (by decide) ⟨rfl, rfl⟩
set_option maxRecDepth 65536 in
set_option maxHeartbeats 40000000 in
theorem rmASI (l : Launch) (Z : State) (a0 : Array Value) (hw : ∀ d ∈ allW, d.before a0 Z = true) (n0 : Nat) (h0 : Heap) (hn0 : n0 ≤ h0.size) (b : Addr) (ga_b : n0 ≤ b) (E_b : Exa Z h0 b "java/lang/StringBuilder") (F_b_value : Fld Z h0 b "java/lang/AbstractStringBuilder" "value" "[B" .null) (F_b_coder : Fld Z h0 b "java/lang/AbstractStringBuilder" "coder" "B" (.int (0 : Int32))) (F_b_count : Fld Z h0 b "java/lang/AbstractStringBuilder" "count" "I" (.int (0 : Int32))) (zc : Int32) (hzc : ¬ zc = 0) (S_C : Sta Z Z.heap "java/lang/String" "COMPACT_STRINGS" "Z" (.int zc)) (O_ : Old Z n0 h0) :
    Met l Z n0 (⟨"java/lang/AbstractStringBuilder", "<init>", "(I)V"⟩ : MethodName) jdk_68_method_2_code 2 (Option.none : Option FieldType) ({ frames := 1, cells := 1, slots := 16, locals := 12 } : Room) #[(.ref b), (.int (16 : Int32))] h0 (fun (v : Option Value) (h' : Heap) => v = none ∧ Keep h0 h' [b] ∧ ∃ va, h0.size ≤ va ∧ Fld Z h' b "java/lang/AbstractStringBuilder" "value" "[B" (.ref va) ∧ Fld Z h' b "java/lang/AbstractStringBuilder" "coder" "B" (.int 0) ∧ Fld Z h' b "java/lang/AbstractStringBuilder" "count" "I" (.int 0) ∧ PArr Z h' va .byte 16 (fun _ => .int 0)) := by
  refine metW (Q := fun (v : Option Value) (h' : Heap) => v = none ∧ Keep h0 h' [b] ∧ ∃ va, h0.size ≤ va ∧ Fld Z h' b "java/lang/AbstractStringBuilder" "value" "[B" (.ref va) ∧ Fld Z h' b "java/lang/AbstractStringBuilder" "coder" "B" (.int 0) ∧ Fld Z h' b "java/lang/AbstractStringBuilder" "count" "I" (.int 0) ∧ PArr Z h' va .byte 16 (fun _ => .int 0)) pf_11 hn0 ?_
  intro p e s m below meth c T X hby hml hret hnm
  refine Goes.by (g' := (mkF m 0 #[.val (.ref b), .val (.int (16 : Int32))] [])) (fun _ q => castTop (by first | rfl | (simp [entryFrame, mkF, argsToLocals, Value.category]; done)) q) ?_
  have K0 := Keep.refl h0 [b]
  refine Goes.by (g' := (mkF m 1 #[.val (.ref b), .val (.int (16 : Int32))] [(.ref b)])) (fun _ q => XS.aloadN X.here X.hx rfl (hb hby d11_0) rfl rfl q) ?_
  refine X.initO (hw _ (List.mem_of_getElem? (i := 83) rfl)) (hw _ (List.mem_of_getElem? (i := 84) rfl)) (hw _ (List.mem_of_getElem? (i := 85) rfl)) (by rw [hml]; rfl) (hb hby d11_1) (by decide) (leB rfl) (fun T X => ?_)
  show Goes _ _ _ _ _ _ _ _ _ T (mkF m 4 #[.val (.ref b), .val (.int (16 : Int32))] [])
  refine X.getS (Or.inl (hw _ (List.mem_of_getElem? (i := 86) rfl))) (host := "") Via.refl (S_C.ext O_.2) (hb hby d11_4) (fun T X => ?_)
  show Goes _ _ _ _ _ _ _ _ _ T (mkF m 7 #[.val (.ref b), .val (.int (16 : Int32))] [(.int zc)])
  refine Goes.by (g' := (mkF m 10 #[.val (.ref b), .val (.int (16 : Int32))] [])) (fun _ q => XS.ifNo X.here X.hx rfl (hb hby d11_7) rfl ((if0 _ _).trans (feq (show ¬ zc = (0 : Int32) from hzc)).1) q) ?_
  refine Goes.by (g' := (mkF m 11 #[.val (.ref b), .val (.int (16 : Int32))] [(.ref b)])) (fun _ q => XS.aloadN X.here X.hx rfl (hb hby d11_10) rfl rfl q) ?_
  refine Goes.by (g' := (mkF m 12 #[.val (.ref b), .val (.int (16 : Int32))] [(.int (16 : Int32)), (.ref b)])) (fun _ q => XS.iloadN X.here X.hx rfl (hb hby d11_11) rfl q) ?_
  refine X.newA (N := 16) (ad := "[B") (by decide) (hw _ (List.mem_of_getElem? (i := 61) rfl)) (hb hby d11_12) (by decide) (cap := 16) (by decide) (by decide) (by decide) (by decide) (fun T h3 b2 X g_b2 ga_b2 E E_b2 A_b2 => ?_)
  have gz_b2 : h0.size ≤ b2 := by rw [g_b2]; exact K0.1
  have ne_b_b2 : b ≠ b2 := by rw [g_b2]; exact Nat.ne_of_lt E_b.lt
  have K0 := K0.ext E
  have O_ := O_.ext E
  have E_b := E_b.ext E
  have F_b_value := F_b_value.ext E
  have F_b_coder := F_b_coder.ext E
  have F_b_count := F_b_count.ext E
  show Goes _ _ _ _ _ _ _ _ _ T (mkF m 14 #[.val (.ref b), .val (.int (16 : Int32))] [(.ref b2), (.ref b)])
  refine X.putF (host := "") (Or.inl (hw _ (List.mem_of_getElem? (i := 87) rfl))) Via.refl F_b_value E_b (Or.inl (hw _ (List.mem_of_getElem? (i := 88) rfl))) (hw _ (List.mem_of_getElem? (i := 72) rfl)) (ty := (.array .byte)) (by decide) rfl rfl ga_b (hb hby d11_14) (fun T h4 X W => ?_)
  have K0 := K0.wr W (Or.inl (by simp))
  have O_ := O_.wr W ga_b
  have E_b := E_b.wr W
  have F_b_value := F_b_value.same W
  have F_b_coder := F_b_coder.other W (Or.inr (slot_ne (Or.inl (hw _ (List.mem_of_getElem? (i := 90) rfl))) (Or.inl (hw _ (List.mem_of_getElem? (i := 88) rfl))) (by decide) (t := .byte) (t' := (.array .byte)) (by decide) (by decide)))
  have F_b_count := F_b_count.other W (Or.inr (slot_ne (Or.inl (hw _ (List.mem_of_getElem? (i := 121) rfl))) (Or.inl (hw _ (List.mem_of_getElem? (i := 88) rfl))) (by decide) (t := .int) (t' := (.array .byte)) (by decide) (by decide)))
  have E_b2 := E_b2.wr W
  have A_b2 := PArr.other A_b2 W (Ne.symm ne_b_b2)
  show Goes _ _ _ _ _ _ _ _ _ T (mkF m 17 #[.val (.ref b), .val (.int (16 : Int32))] [])
  refine Goes.by (g' := (mkF m 18 #[.val (.ref b), .val (.int (16 : Int32))] [(.ref b)])) (fun _ q => XS.aloadN X.here X.hx rfl (hb hby d11_17) rfl rfl q) ?_
  refine Goes.by (g' := (mkF m 19 #[.val (.ref b), .val (.int (16 : Int32))] [(.int (0 : Int32)), (.ref b)])) (fun _ q => XS.iconst X.here X.hx rfl (hb hby d11_18) q) ?_
  refine X.putF (host := "") (Or.inl (hw _ (List.mem_of_getElem? (i := 89) rfl))) Via.refl F_b_coder E_b (Or.inl (hw _ (List.mem_of_getElem? (i := 90) rfl))) (hw _ (List.mem_of_getElem? (i := 72) rfl)) (ty := .byte) (by decide) rfl rfl ga_b (hb hby d11_19) (fun T h5 X W => ?_)
  have K0 := K0.wr W (Or.inl (by simp))
  have O_ := O_.wr W ga_b
  have E_b := E_b.wr W
  have F_b_value := F_b_value.other W (Or.inr (slot_ne (Or.inl (hw _ (List.mem_of_getElem? (i := 88) rfl))) (Or.inl (hw _ (List.mem_of_getElem? (i := 90) rfl))) (by decide) (t := (.array .byte)) (t' := .byte) (by decide) (by decide)))
  have F_b_coder := F_b_coder.same W
  have F_b_count := F_b_count.other W (Or.inr (slot_ne (Or.inl (hw _ (List.mem_of_getElem? (i := 121) rfl))) (Or.inl (hw _ (List.mem_of_getElem? (i := 90) rfl))) (by decide) (t := .int) (t' := .byte) (by decide) (by decide)))
  have E_b2 := E_b2.wr W
  have A_b2 := PArr.other A_b2 W (Ne.symm ne_b_b2)
  show Goes _ _ _ _ _ _ _ _ _ T (mkF m 22 #[.val (.ref b), .val (.int (16 : Int32))] [])
  refine Goes.by (g' := (mkF m 38 #[.val (.ref b), .val (.int (16 : Int32))] [])) (fun _ q => XS.goto X.here X.hx rfl (pc0 := 22) (pc' := 38) rfl (hb hby d11_22) (by decide) (by decide) q) ?_
  exact X.retV hret (hb hby d11_38) (by decide) (by decide) ⟨rfl, K0, b2, gz_b2, F_b_value, F_b_coder, F_b_count, A_b2⟩
set_option maxRecDepth 65536 in
set_option maxHeartbeats 40000000 in
theorem rmSBI (l : Launch) (Z : State) (a0 : Array Value) (hw : ∀ d ∈ allW, d.before a0 Z = true) (n0 : Nat) (h0 : Heap) (hn0 : n0 ≤ h0.size) (b : Addr) (ga_b : n0 ≤ b) (E_b : Exa Z h0 b "java/lang/StringBuilder") (F_b_value : Fld Z h0 b "java/lang/AbstractStringBuilder" "value" "[B" .null) (F_b_coder : Fld Z h0 b "java/lang/AbstractStringBuilder" "coder" "B" (.int (0 : Int32))) (F_b_count : Fld Z h0 b "java/lang/AbstractStringBuilder" "count" "I" (.int (0 : Int32))) (zc : Int32) (hzc : ¬ zc = 0) (S_C : Sta Z Z.heap "java/lang/String" "COMPACT_STRINGS" "Z" (.int zc)) (O_ : Old Z n0 h0) :
    Met l Z n0 (⟨"java/lang/StringBuilder", "<init>", "()V"⟩ : MethodName) jdk_67_method_1_code 1 (Option.none : Option FieldType) ({ frames := 2, cells := 1, slots := 16, locals := 25 } : Room) #[(.ref b)] h0 (fun (v : Option Value) (h' : Heap) => v = none ∧ Keep h0 h' [b] ∧ ∃ va, h0.size ≤ va ∧ Fld Z h' b "java/lang/AbstractStringBuilder" "value" "[B" (.ref va) ∧ Fld Z h' b "java/lang/AbstractStringBuilder" "coder" "B" (.int 0) ∧ Fld Z h' b "java/lang/AbstractStringBuilder" "count" "I" (.int 0) ∧ PArr Z h' va .byte 16 (fun _ => .int 0)) := by
  refine metW (Q := fun (v : Option Value) (h' : Heap) => v = none ∧ Keep h0 h' [b] ∧ ∃ va, h0.size ≤ va ∧ Fld Z h' b "java/lang/AbstractStringBuilder" "value" "[B" (.ref va) ∧ Fld Z h' b "java/lang/AbstractStringBuilder" "coder" "B" (.int 0) ∧ Fld Z h' b "java/lang/AbstractStringBuilder" "count" "I" (.int 0) ∧ PArr Z h' va .byte 16 (fun _ => .int 0)) pf_10 hn0 ?_
  intro p e s m below meth c T X hby hml hret hnm
  refine Goes.by (g' := (mkF m 0 #[.val (.ref b)] [])) (fun _ q => castTop (by first | rfl | (simp [entryFrame, mkF, argsToLocals, Value.category]; done)) q) ?_
  have K0 := Keep.refl h0 [b]
  refine Goes.by (g' := (mkF m 1 #[.val (.ref b)] [(.ref b)])) (fun _ q => XS.aloadN X.here X.hx rfl (hb hby d10_0) rfl rfl q) ?_
  refine Goes.by (g' := (mkF m 3 #[.val (.ref b)] [(.int (16 : Int32)), (.ref b)])) (fun _ q => XS.bipush X.here X.hx rfl (hb hby d10_1) q) ?_
  have X_o := X
  refine X.callN rfl (hw _ (List.mem_of_getElem? (i := 77) rfl)) (hw _ (List.mem_of_getElem? (i := 78) rfl)) (hw _ (List.mem_of_getElem? (i := 81) rfl)) (hw _ (List.mem_of_getElem? (i := 82) rfl)) (by decide) pd_2087992021 (argsL := [(.int (16 : Int32))]) rfl (rmASI l Z a0 hw n0 h0 X.n0le b ga_b E_b F_b_value F_b_coder F_b_count zc hzc S_C O_) (by rw [hml]; rfl) rfl (by decide) (leB rfl) (hb hby d10_3) (by decide) (by decide) (fun T h6 v X hQ => ?_)
  obtain ⟨rfl, K, va, gz, F_b_value, F_b_coder, F_b_count, A_va⟩ := hQ
  have gz_va : h0.size ≤ va := Nat.le_trans K0.1 gz
  have ga_va : n0 ≤ va := Nat.le_trans X_o.n0le gz
  have ne_b_va : b ≠ va := Nat.ne_of_lt (Nat.lt_of_lt_of_le E_b.lt gz)
  have K0 := K0.trans K (allS (Or.inl (by simp)) all0)
  have O_ := O_.keep K (allS ga_b all0)
  have E_b := E_b.keep K
  show Goes _ _ _ _ _ _ _ _ _ T (mkF m 6 #[.val (.ref b)] [])
  exact X.retV hret (hb hby d10_6) (by decide) (by decide) ⟨rfl, K0, va, gz_va, F_b_value, F_b_coder, F_b_count, A_va⟩
set_option maxRecDepth 65536 in
set_option maxHeartbeats 40000000 in
theorem rmLen4 (l : Launch) (Z : State) (a0 : Array Value) (hw : ∀ d ∈ allW, d.before a0 Z = true) (n0 : Nat) (h0 : Heap) (hn0 : n0 ≤ h0.size) (x tb : Addr) (E_x : Exa Z h0 x "java/lang/String") (F_x_value : Fld Z h0 x "java/lang/String" "value" "[B" (.ref tb)) (F_x_coder : Fld Z h0 x "java/lang/String" "coder" "B" (.int 0)) (A_tb : PArr Z h0 tb .byte 4 (tv [116, 114, 117, 101])) (zc : Int32) (hzc : ¬ zc = 0) (S_C : Sta Z Z.heap "java/lang/String" "COMPACT_STRINGS" "Z" (.int zc)) (O_ : Old Z n0 h0) :
    Met l Z n0 (⟨"java/lang/String", "length", "()I"⟩ : MethodName) jdk_42_method_54_code 1 (Option.some .int) ({ frames := 1, cells := 0, slots := 0, locals := 13 } : Room) #[(.ref x)] h0 (fun (v : Option Value) (h' : Heap) => v = some (.int 4) ∧ h' = h0) := by
  refine metW (Q := fun (v : Option Value) (h' : Heap) => v = some (.int 4) ∧ h' = h0) pf_16 hn0 ?_
  intro p e s m below meth c T X hby hml hret hnm
  refine Goes.by (g' := (mkF m 0 #[.val (.ref x)] [])) (fun _ q => castTop (by first | rfl | (simp [entryFrame, mkF, argsToLocals, Value.category]; done)) q) ?_
  refine Goes.by (g' := (mkF m 1 #[.val (.ref x)] [(.ref x)])) (fun _ q => XS.aloadN X.here X.hx rfl (hb hby d16_0) rfl rfl q) ?_
  refine X.getF (host := "") (Or.inl (hw _ (List.mem_of_getElem? (i := 112) rfl))) Via.refl F_x_value (hb hby d16_1) (fun T X => ?_)
  show Goes _ _ _ _ _ _ _ _ _ T (mkF m 4 #[.val (.ref x)] [(.ref tb)])
  refine X.alen A_tb (z := (4 : Int32)) (by decide) (hb hby d16_4) ?_
  show Goes _ _ _ _ _ _ _ _ _ T (mkF m 5 #[.val (.ref x)] [(.int (4 : Int32))])
  refine Goes.by (g' := (mkF m 6 #[.val (.ref x)] [(.ref x), (.int (4 : Int32))])) (fun _ q => XS.aloadN X.here X.hx rfl (hb hby d16_5) rfl rfl q) ?_
  have X_o := X
  refine X.callV E_x (hw _ (List.mem_of_getElem? (i := 113) rfl)) (hw _ (List.mem_of_getElem? (i := 114) rfl)) (hw _ (List.mem_of_getElem? (i := 116) rfl)) (hw _ (List.mem_of_getElem? (i := 110) rfl)) rfl (hw _ (List.mem_of_getElem? (i := 115) rfl)) (hw _ (List.mem_of_getElem? (i := 59) rfl)) (hw _ (List.mem_of_getElem? (i := 117) rfl)) (by decide) pd_193421976 (argsL := []) rfl (rmCod l Z a0 hw n0 h0 X.n0le x F_x_coder zc hzc S_C O_) (by rw [hml]; rfl) rfl (by decide) (leB rfl) (hb hby d16_6) (by decide) (by decide) (fun T h7 v X hQ => ?_)
  obtain ⟨rfl, hh⟩ := hQ
  rw [hh] at X
  clear hh
  show Goes _ _ _ _ _ _ _ _ _ T (mkF m 9 #[.val (.ref x)] [(.int (0 : Int32)), (.int (4 : Int32))])
  refine Goes.by (g' := (mkF m 10 #[.val (.ref x)] [(.int (4 : Int32))])) (fun _ q => XS.ishr X.here X.hx rfl (hb hby d16_9) rfl q) ?_
  exact X.retI hret (hb hby d16_10) (by decide) (by decide) ⟨rfl, rfl⟩
set_option maxRecDepth 65536 in
set_option maxHeartbeats 40000000 in
theorem rmEns4 (l : Launch) (Z : State) (a0 : Array Value) (hw : ∀ d ∈ allW, d.before a0 Z = true) (n0 : Nat) (h0 : Heap) (hn0 : n0 ≤ h0.size) (b va : Addr) (F_b_value : Fld Z h0 b "java/lang/AbstractStringBuilder" "value" "[B" (.ref va)) (F_b_coder : Fld Z h0 b "java/lang/AbstractStringBuilder" "coder" "B" (.int 0)) (A_va : PArr Z h0 va .byte 16 (fun _ => .int 0)) :
    Met l Z n0 (⟨"java/lang/AbstractStringBuilder", "ensureCapacityInternal", "(I)V"⟩ : MethodName) jdk_68_method_9_code 3 (Option.none : Option FieldType) ({ frames := 0, cells := 0, slots := 0, locals := 0 } : Room) #[(.ref b), (.int (4 : Int32))] h0 (fun (v : Option Value) (h' : Heap) => v = none ∧ h' = h0) := by
  refine metW (Q := fun (v : Option Value) (h' : Heap) => v = none ∧ h' = h0) pf_18 hn0 ?_
  intro p e s m below meth c T X hby hml hret hnm
  refine Goes.by (g' := (mkF m 0 #[.val (.ref b), .val (.int (4 : Int32)), .unset] [])) (fun _ q => castTop (by first | rfl | (simp [entryFrame, mkF, argsToLocals, Value.category]; done)) q) ?_
  refine Goes.by (g' := (mkF m 1 #[.val (.ref b), .val (.int (4 : Int32)), .unset] [(.ref b)])) (fun _ q => XS.aloadN X.here X.hx rfl (hb hby d18_0) rfl rfl q) ?_
  refine X.getF (host := "") (Or.inl (hw _ (List.mem_of_getElem? (i := 87) rfl))) Via.refl F_b_value (hb hby d18_1) (fun T X => ?_)
  show Goes _ _ _ _ _ _ _ _ _ T (mkF m 4 #[.val (.ref b), .val (.int (4 : Int32)), .unset] [(.ref va)])
  refine X.alen A_va (z := (16 : Int32)) (by decide) (hb hby d18_4) ?_
  show Goes _ _ _ _ _ _ _ _ _ T (mkF m 5 #[.val (.ref b), .val (.int (4 : Int32)), .unset] [(.int (16 : Int32))])
  refine Goes.by (g' := (mkF m 6 #[.val (.ref b), .val (.int (4 : Int32)), .unset] [(.ref b), (.int (16 : Int32))])) (fun _ q => XS.aloadN X.here X.hx rfl (hb hby d18_5) rfl rfl q) ?_
  refine X.getF (host := "") (Or.inl (hw _ (List.mem_of_getElem? (i := 89) rfl))) Via.refl F_b_coder (hb hby d18_6) (fun T X => ?_)
  show Goes _ _ _ _ _ _ _ _ _ T (mkF m 9 #[.val (.ref b), .val (.int (4 : Int32)), .unset] [(.int (0 : Int32)), (.int (16 : Int32))])
  refine Goes.by (g' := (mkF m 10 #[.val (.ref b), .val (.int (4 : Int32)), .unset] [(.int (16 : Int32))])) (fun _ q => XS.ishr X.here X.hx rfl (hb hby d18_9) rfl q) ?_
  refine Goes.by (g' := (mkF m 11 #[.val (.ref b), .val (.int (4 : Int32)), .val (.int (16 : Int32))] [])) (fun _ q => XS.istoreN X.here X.hx rfl (hb hby d18_10) rfl (l' := #[.val (.ref b), .val (.int (4 : Int32)), .val (.int (16 : Int32))]) rfl q) ?_
  refine Goes.by (g' := (mkF m 12 #[.val (.ref b), .val (.int (4 : Int32)), .val (.int (16 : Int32))] [(.int (4 : Int32))])) (fun _ q => XS.iloadN X.here X.hx rfl (hb hby d18_11) rfl q) ?_
  refine Goes.by (g' := (mkF m 13 #[.val (.ref b), .val (.int (4 : Int32)), .val (.int (16 : Int32))] [(.int (16 : Int32)), (.int (4 : Int32))])) (fun _ q => XS.iloadN X.here X.hx rfl (hb hby d18_12) rfl q) ?_
  refine Goes.by (g' := (mkF m 14 #[.val (.ref b), .val (.int (4 : Int32)), .val (.int (16 : Int32))] [(.int (-12 : Int32))])) (fun _ q => XS.isub X.here X.hx rfl (hb hby d18_13) rfl q) ?_
  refine Goes.by (g' := (mkF m 38 #[.val (.ref b), .val (.int (4 : Int32)), .val (.int (16 : Int32))] [])) (fun _ q => XS.ifYes X.here X.hx rfl (pc0 := 14) (pc' := 38) rfl (hb hby d18_14) rfl ((if0 _ _).trans (flt (show ¬ (0 : Int32) < (-12 : Int32) from (by decide))).2.2.2) (by decide) (by decide) q) ?_
  exact X.retV hret (hb hby d18_38) (by decide) (by decide) ⟨rfl, rfl⟩
set_option maxRecDepth 65536 in
set_option maxHeartbeats 40000000 in
theorem rmGet4 (l : Launch) (Z : State) (a0 : Array Value) (hw : ∀ d ∈ allW, d.before a0 Z = true) (n0 : Nat) (h0 : Heap) (hn0 : n0 ≤ h0.size) (x tb : Addr) (E_x : Exa Z h0 x "java/lang/String") (F_x_value : Fld Z h0 x "java/lang/String" "value" "[B" (.ref tb)) (F_x_coder : Fld Z h0 x "java/lang/String" "coder" "B" (.int 0)) (A_tb : PArr Z h0 tb .byte 4 (tv [116, 114, 117, 101])) (va : Addr) (ga_va : n0 ≤ va) (A_va : PArr Z h0 va .byte 16 (fun _ => .int 0)) (zc : Int32) (hzc : ¬ zc = 0) (S_C : Sta Z Z.heap "java/lang/String" "COMPACT_STRINGS" "Z" (.int zc)) (O_ : Old Z n0 h0) :
    Met l Z n0 (⟨"java/lang/String", "getBytes", "([BIB)V"⟩ : MethodName) jdk_42_method_147_code 4 (Option.none : Option FieldType) ({ frames := 1, cells := 0, slots := 0, locals := 18 } : Room) #[(.ref x), (.ref va), (.int (0 : Int32)), (.int (0 : Int32))] h0 (fun (v : Option Value) (h' : Heap) => v = none ∧ Keep h0 h' [va] ∧ PArr Z h' va .byte 16 (fun i => if i < 4 then (tv [116, 114, 117, 101]) i else .int 0)) := by
  refine metW (Q := fun (v : Option Value) (h' : Heap) => v = none ∧ Keep h0 h' [va] ∧ PArr Z h' va .byte 16 (fun i => if i < 4 then (tv [116, 114, 117, 101]) i else .int 0)) pf_21 hn0 ?_
  intro p e s m below meth c T X hby hml hret hnm
  refine Goes.by (g' := (mkF m 0 #[.val (.ref x), .val (.ref va), .val (.int (0 : Int32)), .val (.int (0 : Int32))] [])) (fun _ q => castTop (by first | rfl | (simp [entryFrame, mkF, argsToLocals, Value.category]; done)) q) ?_
  have K0 := Keep.refl h0 [va]
  refine Goes.by (g' := (mkF m 1 #[.val (.ref x), .val (.ref va), .val (.int (0 : Int32)), .val (.int (0 : Int32))] [(.ref x)])) (fun _ q => XS.aloadN X.here X.hx rfl (hb hby d21_0) rfl rfl q) ?_
  have X_o := X
  refine X.callV E_x (hw _ (List.mem_of_getElem? (i := 113) rfl)) (hw _ (List.mem_of_getElem? (i := 114) rfl)) (hw _ (List.mem_of_getElem? (i := 116) rfl)) (hw _ (List.mem_of_getElem? (i := 110) rfl)) rfl (hw _ (List.mem_of_getElem? (i := 115) rfl)) (hw _ (List.mem_of_getElem? (i := 59) rfl)) (hw _ (List.mem_of_getElem? (i := 117) rfl)) (by decide) pd_193421976 (argsL := []) rfl (rmCod l Z a0 hw n0 h0 X.n0le x F_x_coder zc hzc S_C O_) (by rw [hml]; rfl) rfl (by decide) (leB rfl) (hb hby d21_1) (by decide) (by decide) (fun T h8 v X hQ => ?_)
  obtain ⟨rfl, hh⟩ := hQ
  rw [hh] at X
  clear hh
  show Goes _ _ _ _ _ _ _ _ _ T (mkF m 4 #[.val (.ref x), .val (.ref va), .val (.int (0 : Int32)), .val (.int (0 : Int32))] [(.int (0 : Int32))])
  refine Goes.by (g' := (mkF m 5 #[.val (.ref x), .val (.ref va), .val (.int (0 : Int32)), .val (.int (0 : Int32))] [(.int (0 : Int32)), (.int (0 : Int32))])) (fun _ q => XS.iloadN X.here X.hx rfl (hb hby d21_4) rfl q) ?_
  refine Goes.by (g' := (mkF m 8 #[.val (.ref x), .val (.ref va), .val (.int (0 : Int32)), .val (.int (0 : Int32))] [])) (fun _ q => XS.icmpNo X.here X.hx rfl (hb hby d21_5) rfl (teq (show (0 : Int32) = (0 : Int32) from (by decide))).2 q) ?_
  refine Goes.by (g' := (mkF m 9 #[.val (.ref x), .val (.ref va), .val (.int (0 : Int32)), .val (.int (0 : Int32))] [(.ref x)])) (fun _ q => XS.aloadN X.here X.hx rfl (hb hby d21_8) rfl rfl q) ?_
  refine X.getF (host := "") (Or.inl (hw _ (List.mem_of_getElem? (i := 112) rfl))) Via.refl F_x_value (hb hby d21_9) (fun T X => ?_)
  show Goes _ _ _ _ _ _ _ _ _ T (mkF m 12 #[.val (.ref x), .val (.ref va), .val (.int (0 : Int32)), .val (.int (0 : Int32))] [(.ref tb)])
  refine Goes.by (g' := (mkF m 13 #[.val (.ref x), .val (.ref va), .val (.int (0 : Int32)), .val (.int (0 : Int32))] [(.int (0 : Int32)), (.ref tb)])) (fun _ q => XS.iconst X.here X.hx rfl (hb hby d21_12) q) ?_
  refine Goes.by (g' := (mkF m 14 #[.val (.ref x), .val (.ref va), .val (.int (0 : Int32)), .val (.int (0 : Int32))] [(.ref va), (.int (0 : Int32)), (.ref tb)])) (fun _ q => XS.aloadN X.here X.hx rfl (hb hby d21_13) rfl rfl q) ?_
  refine Goes.by (g' := (mkF m 15 #[.val (.ref x), .val (.ref va), .val (.int (0 : Int32)), .val (.int (0 : Int32))] [(.int (0 : Int32)), (.ref va), (.int (0 : Int32)), (.ref tb)])) (fun _ q => XS.iloadN X.here X.hx rfl (hb hby d21_14) rfl q) ?_
  refine Goes.by (g' := (mkF m 16 #[.val (.ref x), .val (.ref va), .val (.int (0 : Int32)), .val (.int (0 : Int32))] [(.int (0 : Int32)), (.int (0 : Int32)), (.ref va), (.int (0 : Int32)), (.ref tb)])) (fun _ q => XS.iloadN X.here X.hx rfl (hb hby d21_15) rfl q) ?_
  refine Goes.by (g' := (mkF m 17 #[.val (.ref x), .val (.ref va), .val (.int (0 : Int32)), .val (.int (0 : Int32))] [(.int (0 : Int32)), (.ref va), (.int (0 : Int32)), (.ref tb)])) (fun _ q => XS.ishl X.here X.hx rfl (hb hby d21_16) rfl q) ?_
  refine Goes.by (g' := (mkF m 18 #[.val (.ref x), .val (.ref va), .val (.int (0 : Int32)), .val (.int (0 : Int32))] [(.ref x), (.int (0 : Int32)), (.ref va), (.int (0 : Int32)), (.ref tb)])) (fun _ q => XS.aloadN X.here X.hx rfl (hb hby d21_17) rfl rfl q) ?_
  refine X.getF (host := "") (Or.inl (hw _ (List.mem_of_getElem? (i := 112) rfl))) Via.refl F_x_value (hb hby d21_18) (fun T X => ?_)
  show Goes _ _ _ _ _ _ _ _ _ T (mkF m 21 #[.val (.ref x), .val (.ref va), .val (.int (0 : Int32)), .val (.int (0 : Int32))] [(.ref tb), (.int (0 : Int32)), (.ref va), (.int (0 : Int32)), (.ref tb)])
  refine X.alen A_tb (z := (4 : Int32)) (by decide) (hb hby d21_21) ?_
  show Goes _ _ _ _ _ _ _ _ _ T (mkF m 22 #[.val (.ref x), .val (.ref va), .val (.int (0 : Int32)), .val (.int (0 : Int32))] [(.int (4 : Int32)), (.int (0 : Int32)), (.ref va), (.int (0 : Int32)), (.ref tb)])
  refine X.copy (hw _ (List.mem_of_getElem? (i := 143) rfl)) (hw _ (List.mem_of_getElem? (i := 146) rfl)) (hw _ (List.mem_of_getElem? (i := 144) rfl)) (hw _ (List.mem_of_getElem? (i := 145) rfl)) A_tb A_va rfl (by decide) (by decide) (cnt := 4) (by decide) (by decide) (by decide) ga_va (by rw [hml]; rfl) (hb hby d21_22) (by decide) (leB rfl) (fun T h9 X K B => ?_)
  have K0 := K0.trans K (allS (Or.inl (by simp)) all0)
  have O_ := O_.keep K (allS ga_va all0)
  have E_x := E_x.keep K
  have A_va := B
  show Goes _ _ _ _ _ _ _ _ _ T (mkF m 25 #[.val (.ref x), .val (.ref va), .val (.int (0 : Int32)), .val (.int (0 : Int32))] [])
  refine Goes.by (g' := (mkF m 43 #[.val (.ref x), .val (.ref va), .val (.int (0 : Int32)), .val (.int (0 : Int32))] [])) (fun _ q => XS.goto X.here X.hx rfl (pc0 := 25) (pc' := 43) rfl (hb hby d21_25) (by decide) (by decide) q) ?_
  exact X.retV hret (hb hby d21_43) (by decide) (by decide) ⟨rfl, K0, A_va⟩
set_option maxRecDepth 65536 in
set_option maxHeartbeats 40000000 in
theorem rmPut4 (l : Launch) (Z : State) (a0 : Array Value) (hw : ∀ d ∈ allW, d.before a0 Z = true) (n0 : Nat) (h0 : Heap) (hn0 : n0 ≤ h0.size) (x tb : Addr) (E_x : Exa Z h0 x "java/lang/String") (F_x_value : Fld Z h0 x "java/lang/String" "value" "[B" (.ref tb)) (F_x_coder : Fld Z h0 x "java/lang/String" "coder" "B" (.int 0)) (A_tb : PArr Z h0 tb .byte 4 (tv [116, 114, 117, 101])) (b va : Addr) (ga_b : n0 ≤ b) (ga_va : n0 ≤ va) (ne_b_va : b ≠ va) (E_b : Exa Z h0 b "java/lang/StringBuilder") (F_b_value : Fld Z h0 b "java/lang/AbstractStringBuilder" "value" "[B" (.ref va)) (F_b_coder : Fld Z h0 b "java/lang/AbstractStringBuilder" "coder" "B" (.int 0)) (F_b_count : Fld Z h0 b "java/lang/AbstractStringBuilder" "count" "I" (.int 0)) (A_va : PArr Z h0 va .byte 16 (fun _ => .int 0)) (zc : Int32) (hzc : ¬ zc = 0) (S_C : Sta Z Z.heap "java/lang/String" "COMPACT_STRINGS" "Z" (.int zc)) (O_ : Old Z n0 h0) :
    Met l Z n0 (⟨"java/lang/AbstractStringBuilder", "putStringAt", "(ILjava/lang/String;)V"⟩ : MethodName) jdk_68_method_73_code 3 (Option.none : Option FieldType) ({ frames := 2, cells := 0, slots := 0, locals := 33 } : Room) #[(.ref b), (.int (0 : Int32)), (.ref x)] h0 (fun (v : Option Value) (h' : Heap) => v = none ∧ Keep h0 h' [va] ∧ PArr Z h' va .byte 16 (fun i => if i < 4 then (tv [116, 114, 117, 101]) i else .int 0)) := by
  refine metW (Q := fun (v : Option Value) (h' : Heap) => v = none ∧ Keep h0 h' [va] ∧ PArr Z h' va .byte 16 (fun i => if i < 4 then (tv [116, 114, 117, 101]) i else .int 0)) pf_19 hn0 ?_
  intro p e s m below meth c T X hby hml hret hnm
  refine Goes.by (g' := (mkF m 0 #[.val (.ref b), .val (.int (0 : Int32)), .val (.ref x)] [])) (fun _ q => castTop (by first | rfl | (simp [entryFrame, mkF, argsToLocals, Value.category]; done)) q) ?_
  have K0 := Keep.refl h0 [va]
  refine Goes.by (g' := (mkF m 1 #[.val (.ref b), .val (.int (0 : Int32)), .val (.ref x)] [(.ref b)])) (fun _ q => XS.aloadN X.here X.hx rfl (hb hby d19_0) rfl rfl q) ?_
  refine Goes.by (g' := (mkF m 2 #[.val (.ref b), .val (.int (0 : Int32)), .val (.ref x)] [(.ref x), (.ref b)])) (fun _ q => XS.aloadN X.here X.hx rfl (hb hby d19_1) rfl rfl q) ?_
  have X_o := X
  refine X.callV E_b (hw _ (List.mem_of_getElem? (i := 132) rfl)) (decl_of (hw _ (List.mem_of_getElem? (i := 133) rfl)) (hw _ (List.mem_of_getElem? (i := 136) rfl))) (hw _ (List.mem_of_getElem? (i := 135) rfl)) (hw _ (List.mem_of_getElem? (i := 125) rfl)) rfl (hw _ (List.mem_of_getElem? (i := 133) rfl)) (hw _ (List.mem_of_getElem? (i := 81) rfl)) (hw _ (List.mem_of_getElem? (i := 136) rfl)) (by decide) pd_4162450860 (argsL := [(.ref x)]) rfl (rmInf l Z a0 hw n0 h0 X.n0le b x F_b_coder E_x F_x_coder zc hzc S_C O_) (by rw [hml]; rfl) rfl (by decide) (leB rfl) (hb hby d19_2) (by decide) (by decide) (fun T h10 v X hQ => ?_)
  obtain ⟨rfl, hh⟩ := hQ
  rw [hh] at X
  clear hh
  show Goes _ _ _ _ _ _ _ _ _ T (mkF m 5 #[.val (.ref b), .val (.int (0 : Int32)), .val (.ref x)] [])
  refine Goes.by (g' := (mkF m 6 #[.val (.ref b), .val (.int (0 : Int32)), .val (.ref x)] [(.ref x)])) (fun _ q => XS.aloadN X.here X.hx rfl (hb hby d19_5) rfl rfl q) ?_
  refine Goes.by (g' := (mkF m 7 #[.val (.ref b), .val (.int (0 : Int32)), .val (.ref x)] [(.ref b), (.ref x)])) (fun _ q => XS.aloadN X.here X.hx rfl (hb hby d19_6) rfl rfl q) ?_
  refine X.getF (host := "") (Or.inl (hw _ (List.mem_of_getElem? (i := 87) rfl))) Via.refl F_b_value (hb hby d19_7) (fun T X => ?_)
  show Goes _ _ _ _ _ _ _ _ _ T (mkF m 10 #[.val (.ref b), .val (.int (0 : Int32)), .val (.ref x)] [(.ref va), (.ref x)])
  refine Goes.by (g' := (mkF m 11 #[.val (.ref b), .val (.int (0 : Int32)), .val (.ref x)] [(.int (0 : Int32)), (.ref va), (.ref x)])) (fun _ q => XS.iloadN X.here X.hx rfl (hb hby d19_10) rfl q) ?_
  refine Goes.by (g' := (mkF m 12 #[.val (.ref b), .val (.int (0 : Int32)), .val (.ref x)] [(.ref b), (.int (0 : Int32)), (.ref va), (.ref x)])) (fun _ q => XS.aloadN X.here X.hx rfl (hb hby d19_11) rfl rfl q) ?_
  refine X.getF (host := "") (Or.inl (hw _ (List.mem_of_getElem? (i := 89) rfl))) Via.refl F_b_coder (hb hby d19_12) (fun T X => ?_)
  show Goes _ _ _ _ _ _ _ _ _ T (mkF m 15 #[.val (.ref b), .val (.int (0 : Int32)), .val (.ref x)] [(.int (0 : Int32)), (.int (0 : Int32)), (.ref va), (.ref x)])
  have X_o := X
  refine X.callV E_x (hw _ (List.mem_of_getElem? (i := 138) rfl)) (hw _ (List.mem_of_getElem? (i := 139) rfl)) (hw _ (List.mem_of_getElem? (i := 141) rfl)) (hw _ (List.mem_of_getElem? (i := 110) rfl)) rfl (hw _ (List.mem_of_getElem? (i := 140) rfl)) (hw _ (List.mem_of_getElem? (i := 59) rfl)) (hw _ (List.mem_of_getElem? (i := 142) rfl)) (by decide) pd_3824288788 (argsL := [(.ref va), (.int (0 : Int32)), (.int (0 : Int32))]) rfl (rmGet4 l Z a0 hw n0 h0 X.n0le x tb E_x F_x_value F_x_coder A_tb va ga_va A_va zc hzc S_C O_) (by rw [hml]; rfl) rfl (by decide) (leB rfl) (hb hby d19_15) (by decide) (by decide) (fun T h11 v X hQ => ?_)
  obtain ⟨rfl, K, A_va⟩ := hQ
  have K0 := K0.trans K (allS (Or.inl (by simp)) all0)
  have O_ := O_.keep K (allS ga_va all0)
  have E_b := E_b.keep K
  have F_b_value := F_b_value.keep K (ninS ne_b_va nin0)
  have F_b_coder := F_b_coder.keep K (ninS ne_b_va nin0)
  have F_b_count := F_b_count.keep K (ninS ne_b_va nin0)
  show Goes _ _ _ _ _ _ _ _ _ T (mkF m 18 #[.val (.ref b), .val (.int (0 : Int32)), .val (.ref x)] [])
  exact X.retV hret (hb hby d19_18) (by decide) (by decide) ⟨rfl, K0, A_va⟩
set_option maxRecDepth 65536 in
set_option maxHeartbeats 40000000 in
theorem rmAap4 (l : Launch) (Z : State) (a0 : Array Value) (hw : ∀ d ∈ allW, d.before a0 Z = true) (n0 : Nat) (h0 : Heap) (hn0 : n0 ≤ h0.size) (x tb : Addr) (E_x : Exa Z h0 x "java/lang/String") (F_x_value : Fld Z h0 x "java/lang/String" "value" "[B" (.ref tb)) (F_x_coder : Fld Z h0 x "java/lang/String" "coder" "B" (.int 0)) (A_tb : PArr Z h0 tb .byte 4 (tv [116, 114, 117, 101])) (b va : Addr) (ga_b : n0 ≤ b) (ga_va : n0 ≤ va) (ne_b_va : b ≠ va) (E_b : Exa Z h0 b "java/lang/StringBuilder") (F_b_value : Fld Z h0 b "java/lang/AbstractStringBuilder" "value" "[B" (.ref va)) (F_b_coder : Fld Z h0 b "java/lang/AbstractStringBuilder" "coder" "B" (.int 0)) (F_b_count : Fld Z h0 b "java/lang/AbstractStringBuilder" "count" "I" (.int 0)) (A_va : PArr Z h0 va .byte 16 (fun _ => .int 0)) (zc : Int32) (hzc : ¬ zc = 0) (S_C : Sta Z Z.heap "java/lang/String" "COMPACT_STRINGS" "Z" (.int zc)) (O_ : Old Z n0 h0) :
    Met l Z n0 (⟨"java/lang/AbstractStringBuilder", "append", "(Ljava/lang/String;)Ljava/lang/AbstractStringBuilder;"⟩ : MethodName) jdk_68_method_22_code 3 (Option.some (.object "java/lang/AbstractStringBuilder")) ({ frames := 3, cells := 0, slots := 0, locals := 47 } : Room) #[(.ref b), (.ref x)] h0 (fun (v : Option Value) (h' : Heap) => v = some (.ref b) ∧ Keep h0 h' [b, va] ∧ Fld Z h' b "java/lang/AbstractStringBuilder" "value" "[B" (.ref va) ∧ Fld Z h' b "java/lang/AbstractStringBuilder" "coder" "B" (.int 0) ∧ Fld Z h' b "java/lang/AbstractStringBuilder" "count" "I" (.int 4) ∧ PArr Z h' va .byte 16 (fun i => if i < 4 then (tv [116, 114, 117, 101]) i else .int 0)) := by
  refine metW (Q := fun (v : Option Value) (h' : Heap) => v = some (.ref b) ∧ Keep h0 h' [b, va] ∧ Fld Z h' b "java/lang/AbstractStringBuilder" "value" "[B" (.ref va) ∧ Fld Z h' b "java/lang/AbstractStringBuilder" "coder" "B" (.int 0) ∧ Fld Z h' b "java/lang/AbstractStringBuilder" "count" "I" (.int 4) ∧ PArr Z h' va .byte 16 (fun i => if i < 4 then (tv [116, 114, 117, 101]) i else .int 0)) pf_15 hn0 ?_
  intro p e s m below meth c T X hby hml hret hnm
  refine Goes.by (g' := (mkF m 0 #[.val (.ref b), .val (.ref x), .unset] [])) (fun _ q => castTop (by first | rfl | (simp [entryFrame, mkF, argsToLocals, Value.category]; done)) q) ?_
  have K0 := Keep.refl h0 [b, va]
  refine Goes.by (g' := (mkF m 1 #[.val (.ref b), .val (.ref x), .unset] [(.ref x)])) (fun _ q => XS.aloadN X.here X.hx rfl (hb hby d15_0) rfl rfl q) ?_
  refine Goes.by (g' := (mkF m 9 #[.val (.ref b), .val (.ref x), .unset] [])) (fun _ q => XS.ifnonnullYes X.here X.hx rfl (pc0 := 1) (pc' := 9) rfl (hb hby d15_1) rfl (by decide) (by decide) q) ?_
  refine Goes.by (g' := (mkF m 10 #[.val (.ref b), .val (.ref x), .unset] [(.ref x)])) (fun _ q => XS.aloadN X.here X.hx rfl (hb hby d15_9) rfl rfl q) ?_
  have X_o := X
  refine X.callV E_x (hw _ (List.mem_of_getElem? (i := 107) rfl)) (hw _ (List.mem_of_getElem? (i := 108) rfl)) (hw _ (List.mem_of_getElem? (i := 110) rfl)) (hw _ (List.mem_of_getElem? (i := 110) rfl)) rfl (hw _ (List.mem_of_getElem? (i := 109) rfl)) (hw _ (List.mem_of_getElem? (i := 59) rfl)) (hw _ (List.mem_of_getElem? (i := 111) rfl)) (by decide) pd_193421983 (argsL := []) rfl (rmLen4 l Z a0 hw n0 h0 X.n0le x tb E_x F_x_value F_x_coder A_tb zc hzc S_C O_) (by rw [hml]; rfl) rfl (by decide) (leB rfl) (hb hby d15_10) (by decide) (by decide) (fun T h12 v X hQ => ?_)
  obtain ⟨rfl, hh⟩ := hQ
  rw [hh] at X
  clear hh
  show Goes _ _ _ _ _ _ _ _ _ T (mkF m 13 #[.val (.ref b), .val (.ref x), .unset] [(.int (4 : Int32))])
  refine Goes.by (g' := (mkF m 14 #[.val (.ref b), .val (.ref x), .val (.int (4 : Int32))] [])) (fun _ q => XS.istoreN X.here X.hx rfl (hb hby d15_13) rfl (l' := #[.val (.ref b), .val (.ref x), .val (.int (4 : Int32))]) rfl q) ?_
  refine Goes.by (g' := (mkF m 15 #[.val (.ref b), .val (.ref x), .val (.int (4 : Int32))] [(.ref b)])) (fun _ q => XS.aloadN X.here X.hx rfl (hb hby d15_14) rfl rfl q) ?_
  refine Goes.by (g' := (mkF m 16 #[.val (.ref b), .val (.ref x), .val (.int (4 : Int32))] [(.ref b), (.ref b)])) (fun _ q => XS.aloadN X.here X.hx rfl (hb hby d15_15) rfl rfl q) ?_
  refine X.getF (host := "") (Or.inl (hw _ (List.mem_of_getElem? (i := 120) rfl))) Via.refl F_b_count (hb hby d15_16) (fun T X => ?_)
  show Goes _ _ _ _ _ _ _ _ _ T (mkF m 19 #[.val (.ref b), .val (.ref x), .val (.int (4 : Int32))] [(.int (0 : Int32)), (.ref b)])
  refine Goes.by (g' := (mkF m 20 #[.val (.ref b), .val (.ref x), .val (.int (4 : Int32))] [(.int (4 : Int32)), (.int (0 : Int32)), (.ref b)])) (fun _ q => XS.iloadN X.here X.hx rfl (hb hby d15_19) rfl q) ?_
  refine Goes.by (g' := (mkF m 21 #[.val (.ref b), .val (.ref x), .val (.int (4 : Int32))] [(.int (4 : Int32)), (.ref b)])) (fun _ q => XS.iadd X.here X.hx rfl (hb hby d15_20) rfl q) ?_
  have X_o := X
  refine X.callV E_b (hw _ (List.mem_of_getElem? (i := 122) rfl)) (decl_of (hw _ (List.mem_of_getElem? (i := 123) rfl)) (hw _ (List.mem_of_getElem? (i := 126) rfl))) (hw _ (List.mem_of_getElem? (i := 125) rfl)) (hw _ (List.mem_of_getElem? (i := 125) rfl)) rfl (hw _ (List.mem_of_getElem? (i := 123) rfl)) (hw _ (List.mem_of_getElem? (i := 81) rfl)) (hw _ (List.mem_of_getElem? (i := 126) rfl)) (by decide) pd_2087992021 (argsL := [(.int (4 : Int32))]) rfl (rmEns4 l Z a0 hw n0 h0 X.n0le b va F_b_value F_b_coder A_va) (by rw [hml]; rfl) rfl (by decide) (leB rfl) (hb hby d15_21) (by decide) (by decide) (fun T h13 v X hQ => ?_)
  obtain ⟨rfl, hh⟩ := hQ
  rw [hh] at X
  clear hh
  show Goes _ _ _ _ _ _ _ _ _ T (mkF m 24 #[.val (.ref b), .val (.ref x), .val (.int (4 : Int32))] [])
  refine Goes.by (g' := (mkF m 25 #[.val (.ref b), .val (.ref x), .val (.int (4 : Int32))] [(.ref b)])) (fun _ q => XS.aloadN X.here X.hx rfl (hb hby d15_24) rfl rfl q) ?_
  refine Goes.by (g' := (mkF m 26 #[.val (.ref b), .val (.ref x), .val (.int (4 : Int32))] [(.ref b), (.ref b)])) (fun _ q => XS.aloadN X.here X.hx rfl (hb hby d15_25) rfl rfl q) ?_
  refine X.getF (host := "") (Or.inl (hw _ (List.mem_of_getElem? (i := 120) rfl))) Via.refl F_b_count (hb hby d15_26) (fun T X => ?_)
  show Goes _ _ _ _ _ _ _ _ _ T (mkF m 29 #[.val (.ref b), .val (.ref x), .val (.int (4 : Int32))] [(.int (0 : Int32)), (.ref b)])
  refine Goes.by (g' := (mkF m 30 #[.val (.ref b), .val (.ref x), .val (.int (4 : Int32))] [(.ref x), (.int (0 : Int32)), (.ref b)])) (fun _ q => XS.aloadN X.here X.hx rfl (hb hby d15_29) rfl rfl q) ?_
  have X_o := X
  refine X.callV E_b (hw _ (List.mem_of_getElem? (i := 127) rfl)) (decl_of (hw _ (List.mem_of_getElem? (i := 128) rfl)) (hw _ (List.mem_of_getElem? (i := 131) rfl))) (hw _ (List.mem_of_getElem? (i := 130) rfl)) (hw _ (List.mem_of_getElem? (i := 125) rfl)) rfl (hw _ (List.mem_of_getElem? (i := 128) rfl)) (hw _ (List.mem_of_getElem? (i := 81) rfl)) (hw _ (List.mem_of_getElem? (i := 131) rfl)) (by decide) pd_1162292757 (argsL := [(.int (0 : Int32)), (.ref x)]) rfl (rmPut4 l Z a0 hw n0 h0 X.n0le x tb E_x F_x_value F_x_coder A_tb b va ga_b ga_va ne_b_va E_b F_b_value F_b_coder F_b_count A_va zc hzc S_C O_) (by rw [hml]; rfl) rfl (by decide) (leB rfl) (hb hby d15_30) (by decide) (by decide) (fun T h14 v X hQ => ?_)
  obtain ⟨rfl, K, A_va⟩ := hQ
  have K0 := K0.trans K (allS (Or.inl (by simp)) all0)
  have O_ := O_.keep K (allS ga_va all0)
  have E_b := E_b.keep K
  have F_b_value := F_b_value.keep K (ninS ne_b_va nin0)
  have F_b_coder := F_b_coder.keep K (ninS ne_b_va nin0)
  have F_b_count := F_b_count.keep K (ninS ne_b_va nin0)
  show Goes _ _ _ _ _ _ _ _ _ T (mkF m 33 #[.val (.ref b), .val (.ref x), .val (.int (4 : Int32))] [])
  refine Goes.by (g' := (mkF m 34 #[.val (.ref b), .val (.ref x), .val (.int (4 : Int32))] [(.ref b)])) (fun _ q => XS.aloadN X.here X.hx rfl (hb hby d15_33) rfl rfl q) ?_
  refine Goes.by (g' := (mkF m 35 #[.val (.ref b), .val (.ref x), .val (.int (4 : Int32))] [(.ref b), (.ref b)])) (fun _ q => XS.dup X.here X.hx rfl (hb hby d15_34) rfl rfl q) ?_
  refine X.getF (host := "") (Or.inl (hw _ (List.mem_of_getElem? (i := 120) rfl))) Via.refl F_b_count (hb hby d15_35) (fun T X => ?_)
  show Goes _ _ _ _ _ _ _ _ _ T (mkF m 38 #[.val (.ref b), .val (.ref x), .val (.int (4 : Int32))] [(.int (0 : Int32)), (.ref b)])
  refine Goes.by (g' := (mkF m 39 #[.val (.ref b), .val (.ref x), .val (.int (4 : Int32))] [(.int (4 : Int32)), (.int (0 : Int32)), (.ref b)])) (fun _ q => XS.iloadN X.here X.hx rfl (hb hby d15_38) rfl q) ?_
  refine Goes.by (g' := (mkF m 40 #[.val (.ref b), .val (.ref x), .val (.int (4 : Int32))] [(.int (4 : Int32)), (.ref b)])) (fun _ q => XS.iadd X.here X.hx rfl (hb hby d15_39) rfl q) ?_
  refine X.putF (host := "") (Or.inl (hw _ (List.mem_of_getElem? (i := 120) rfl))) Via.refl F_b_count E_b (Or.inl (hw _ (List.mem_of_getElem? (i := 121) rfl))) (hw _ (List.mem_of_getElem? (i := 72) rfl)) (ty := .int) (by decide) rfl rfl ga_b (hb hby d15_40) (fun T h15 X W => ?_)
  have K0 := K0.wr W (Or.inl (by simp))
  have O_ := O_.wr W ga_b
  have E_b := E_b.wr W
  have F_b_value := F_b_value.other W (Or.inr (slot_ne (Or.inl (hw _ (List.mem_of_getElem? (i := 88) rfl))) (Or.inl (hw _ (List.mem_of_getElem? (i := 121) rfl))) (by decide) (t := (.array .byte)) (t' := .int) (by decide) (by decide)))
  have F_b_coder := F_b_coder.other W (Or.inr (slot_ne (Or.inl (hw _ (List.mem_of_getElem? (i := 90) rfl))) (Or.inl (hw _ (List.mem_of_getElem? (i := 121) rfl))) (by decide) (t := .byte) (t' := .int) (by decide) (by decide)))
  have F_b_count := F_b_count.same W
  have A_va := PArr.other A_va W (Ne.symm ne_b_va)
  show Goes _ _ _ _ _ _ _ _ _ T (mkF m 43 #[.val (.ref b), .val (.ref x), .val (.int (4 : Int32))] [])
  refine Goes.by (g' := (mkF m 44 #[.val (.ref b), .val (.ref x), .val (.int (4 : Int32))] [(.ref b)])) (fun _ q => XS.aloadN X.here X.hx rfl (hb hby d15_43) rfl rfl q) ?_
  exact X.retA hret rfl rfl (hb hby d15_44) (by decide) (by decide) ⟨rfl, K0, F_b_value, F_b_coder, F_b_count, A_va⟩
set_option maxRecDepth 65536 in
set_option maxHeartbeats 40000000 in
theorem rmApp4 (l : Launch) (Z : State) (a0 : Array Value) (hw : ∀ d ∈ allW, d.before a0 Z = true) (n0 : Nat) (h0 : Heap) (hn0 : n0 ≤ h0.size) (x tb : Addr) (E_x : Exa Z h0 x "java/lang/String") (F_x_value : Fld Z h0 x "java/lang/String" "value" "[B" (.ref tb)) (F_x_coder : Fld Z h0 x "java/lang/String" "coder" "B" (.int 0)) (A_tb : PArr Z h0 tb .byte 4 (tv [116, 114, 117, 101])) (b va : Addr) (ga_b : n0 ≤ b) (ga_va : n0 ≤ va) (ne_b_va : b ≠ va) (E_b : Exa Z h0 b "java/lang/StringBuilder") (F_b_value : Fld Z h0 b "java/lang/AbstractStringBuilder" "value" "[B" (.ref va)) (F_b_coder : Fld Z h0 b "java/lang/AbstractStringBuilder" "coder" "B" (.int 0)) (F_b_count : Fld Z h0 b "java/lang/AbstractStringBuilder" "count" "I" (.int 0)) (A_va : PArr Z h0 va .byte 16 (fun _ => .int 0)) (zc : Int32) (hzc : ¬ zc = 0) (S_C : Sta Z Z.heap "java/lang/String" "COMPACT_STRINGS" "Z" (.int zc)) (O_ : Old Z n0 h0) :
    Met l Z n0 (⟨"java/lang/StringBuilder", "append", "(Ljava/lang/String;)Ljava/lang/StringBuilder;"⟩ : MethodName) jdk_67_method_7_code 2 (Option.some (.object "java/lang/StringBuilder")) ({ frames := 4, cells := 0, slots := 0, locals := 61 } : Room) #[(.ref b), (.ref x)] h0 (fun (v : Option Value) (h' : Heap) => v = some (.ref b) ∧ Keep h0 h' [b, va] ∧ Fld Z h' b "java/lang/AbstractStringBuilder" "value" "[B" (.ref va) ∧ Fld Z h' b "java/lang/AbstractStringBuilder" "coder" "B" (.int 0) ∧ Fld Z h' b "java/lang/AbstractStringBuilder" "count" "I" (.int 4) ∧ PArr Z h' va .byte 16 (fun i => if i < 4 then (tv [116, 114, 117, 101]) i else .int 0)) := by
  refine metW (Q := fun (v : Option Value) (h' : Heap) => v = some (.ref b) ∧ Keep h0 h' [b, va] ∧ Fld Z h' b "java/lang/AbstractStringBuilder" "value" "[B" (.ref va) ∧ Fld Z h' b "java/lang/AbstractStringBuilder" "coder" "B" (.int 0) ∧ Fld Z h' b "java/lang/AbstractStringBuilder" "count" "I" (.int 4) ∧ PArr Z h' va .byte 16 (fun i => if i < 4 then (tv [116, 114, 117, 101]) i else .int 0)) pf_14 hn0 ?_
  intro p e s m below meth c T X hby hml hret hnm
  refine Goes.by (g' := (mkF m 0 #[.val (.ref b), .val (.ref x)] [])) (fun _ q => castTop (by first | rfl | (simp [entryFrame, mkF, argsToLocals, Value.category]; done)) q) ?_
  have K0 := Keep.refl h0 [b, va]
  refine Goes.by (g' := (mkF m 1 #[.val (.ref b), .val (.ref x)] [(.ref b)])) (fun _ q => XS.aloadN X.here X.hx rfl (hb hby d14_0) rfl rfl q) ?_
  refine Goes.by (g' := (mkF m 2 #[.val (.ref b), .val (.ref x)] [(.ref x), (.ref b)])) (fun _ q => XS.aloadN X.here X.hx rfl (hb hby d14_1) rfl rfl q) ?_
  have X_o := X
  refine X.callP (Ins.self E_b) (hw _ (List.mem_of_getElem? (i := 102) rfl)) (same_of (hw _ (List.mem_of_getElem? (i := 103) rfl)) (by decide) (hw _ (List.mem_of_getElem? (i := 125) rfl)) rfl) (hw _ (List.mem_of_getElem? (i := 103) rfl)) (hw _ (List.mem_of_getElem? (i := 104) rfl)) (by decide) (hw _ (List.mem_of_getElem? (i := 81) rfl)) (hw _ (List.mem_of_getElem? (i := 106) rfl)) pd_2529712177 (argsL := [(.ref x)]) rfl (rmAap4 l Z a0 hw n0 h0 X.n0le x tb E_x F_x_value F_x_coder A_tb b va ga_b ga_va ne_b_va E_b F_b_value F_b_coder F_b_count A_va zc hzc S_C O_) (by rw [hml]; rfl) rfl (by decide) (leB rfl) (hb hby d14_2) (by decide) (by decide) (fun T h16 v X hQ => ?_)
  obtain ⟨rfl, K, F_b_value, F_b_coder, F_b_count, A_va⟩ := hQ
  have K0 := K0.trans K (allS (Or.inl (by simp)) (allS (Or.inl (by simp)) all0))
  have O_ := O_.keep K (allS ga_b (allS ga_va all0))
  have E_b := E_b.keep K
  show Goes _ _ _ _ _ _ _ _ _ T (mkF m 5 #[.val (.ref b), .val (.ref x)] [(.ref b)])
  refine Goes.by (g' := (mkF m 6 #[.val (.ref b), .val (.ref x)] [])) (fun _ q => XS.pop X.here X.hx rfl (hb hby d14_5) rfl rfl q) ?_
  refine Goes.by (g' := (mkF m 7 #[.val (.ref b), .val (.ref x)] [(.ref b)])) (fun _ q => XS.aloadN X.here X.hx rfl (hb hby d14_6) rfl rfl q) ?_
  exact X.retA hret rfl rfl (hb hby d14_7) (by decide) (by decide) ⟨rfl, K0, F_b_value, F_b_coder, F_b_count, A_va⟩
set_option maxRecDepth 65536 in
set_option maxHeartbeats 40000000 in
theorem rmWri4 (l : Launch) (Z : State) (a0 : Array Value) (hw : ∀ d ∈ allW, d.before a0 Z = true) (n0 : Nat) (h0 : Heap) (hn0 : n0 ≤ h0.size) (x tb : Addr) (E_x : Exa Z h0 x "java/lang/String") (F_x_value : Fld Z h0 x "java/lang/String" "value" "[B" (.ref tb)) (F_x_coder : Fld Z h0 x "java/lang/String" "coder" "B" (.int 0)) (A_tb : PArr Z h0 tb .byte 4 (tv [116, 114, 117, 101])) (b va : Addr) (ga_b : n0 ≤ b) (ga_va : n0 ≤ va) (ne_b_va : b ≠ va) (E_b : Exa Z h0 b "java/lang/StringBuilder") (F_b_value : Fld Z h0 b "java/lang/AbstractStringBuilder" "value" "[B" (.ref va)) (F_b_coder : Fld Z h0 b "java/lang/AbstractStringBuilder" "coder" "B" (.int 0)) (F_b_count : Fld Z h0 b "java/lang/AbstractStringBuilder" "count" "I" (.int 0)) (A_va : PArr Z h0 va .byte 16 (fun _ => .int 0)) (zc : Int32) (hzc : ¬ zc = 0) (S_C : Sta Z Z.heap "java/lang/String" "COMPACT_STRINGS" "Z" (.int zc)) (O_ : Old Z n0 h0) (a_BOOLEAN : Addr) (a_OBJECT : Addr) (S_OBJECT : Sta Z Z.heap "com/example/riskweave/riskweave/scenario/JsonValue$Kind" "OBJECT" "Lcom/example/riskweave/riskweave/scenario/JsonValue$Kind;" (.ref a_OBJECT)) (a_ARRAY : Addr) (S_ARRAY : Sta Z Z.heap "com/example/riskweave/riskweave/scenario/JsonValue$Kind" "ARRAY" "Lcom/example/riskweave/riskweave/scenario/JsonValue$Kind;" (.ref a_ARRAY)) (a_STRING : Addr) (S_STRING : Sta Z Z.heap "com/example/riskweave/riskweave/scenario/JsonValue$Kind" "STRING" "Lcom/example/riskweave/riskweave/scenario/JsonValue$Kind;" (.ref a_STRING)) (n_OBJECT : a_BOOLEAN ≠ a_OBJECT) (n_ARRAY : a_BOOLEAN ≠ a_ARRAY) (n_STRING : a_BOOLEAN ≠ a_STRING) (a : Addr) (F_a_kind : Fld Z h0 a "com/example/riskweave/riskweave/scenario/JsonValue" "kind" "Lcom/example/riskweave/riskweave/scenario/JsonValue$Kind;" (.ref a_BOOLEAN)) (F_a_text : Fld Z h0 a "com/example/riskweave/riskweave/scenario/JsonValue" "text" "Ljava/lang/String;" (.ref x)) :
    Met l Z n0 (⟨"com/example/riskweave/riskweave/scenario/JsonValue", "write", "(Ljava/lang/StringBuilder;)V"⟩ : MethodName) prog_74_method_24_code 5 (Option.none : Option FieldType) ({ frames := 5, cells := 0, slots := 0, locals := 74 } : Room) #[(.ref a), (.ref b)] h0 (fun (v : Option Value) (h' : Heap) => v = none ∧ Keep h0 h' [b, va] ∧ Fld Z h' b "java/lang/AbstractStringBuilder" "value" "[B" (.ref va) ∧ Fld Z h' b "java/lang/AbstractStringBuilder" "coder" "B" (.int 0) ∧ Fld Z h' b "java/lang/AbstractStringBuilder" "count" "I" (.int 4) ∧ PArr Z h' va .byte 16 (fun i => if i < 4 then (tv [116, 114, 117, 101]) i else .int 0)) := by
  refine metW (Q := fun (v : Option Value) (h' : Heap) => v = none ∧ Keep h0 h' [b, va] ∧ Fld Z h' b "java/lang/AbstractStringBuilder" "value" "[B" (.ref va) ∧ Fld Z h' b "java/lang/AbstractStringBuilder" "coder" "B" (.int 0) ∧ Fld Z h' b "java/lang/AbstractStringBuilder" "count" "I" (.int 4) ∧ PArr Z h' va .byte 16 (fun i => if i < 4 then (tv [116, 114, 117, 101]) i else .int 0)) pf_13 hn0 ?_
  intro p e s m below meth c T X hby hml hret hnm
  refine Goes.by (g' := (mkF m 0 #[.val (.ref a), .val (.ref b), .unset, .unset, .unset] [])) (fun _ q => castTop (by first | rfl | (simp [entryFrame, mkF, argsToLocals, Value.category]; done)) q) ?_
  have K0 := Keep.refl h0 [b, va]
  refine Goes.by (g' := (mkF m 1 #[.val (.ref a), .val (.ref b), .unset, .unset, .unset] [(.ref a)])) (fun _ q => XS.aloadN X.here X.hx rfl (hb hby d13_0) rfl rfl q) ?_
  refine X.getF (host := "") (Or.inl (hw _ (List.mem_of_getElem? (i := 11) rfl))) Via.refl F_a_kind (hb hby d13_1) (fun T X => ?_)
  show Goes _ _ _ _ _ _ _ _ _ T (mkF m 4 #[.val (.ref a), .val (.ref b), .unset, .unset, .unset] [(.ref a_BOOLEAN)])
  refine X.getS (Or.inl (hw _ (List.mem_of_getElem? (i := 28) rfl))) (host := "") Via.refl (S_OBJECT.ext O_.2) (hb hby d13_4) (fun T X => ?_)
  show Goes _ _ _ _ _ _ _ _ _ T (mkF m 7 #[.val (.ref a), .val (.ref b), .unset, .unset, .unset] [(.ref a_OBJECT), (.ref a_BOOLEAN)])
  refine X.acmp rfl rfl (cd := .ne) (x := (.ref a_BOOLEAN)) (y := (.ref a_OBJECT)) (same := false) (pc' := 112) (hb hby d13_7) (decide_eq_false fun q => n_OBJECT (Value.ref.inj q)) (by decide) (by decide) ?_
  show Goes _ _ _ _ _ _ _ _ _ T (mkF m 112 #[.val (.ref a), .val (.ref b), .unset, .unset, .unset] [])
  refine Goes.by (g' := (mkF m 113 #[.val (.ref a), .val (.ref b), .unset, .unset, .unset] [(.ref a)])) (fun _ q => XS.aloadN X.here X.hx rfl (hb hby d13_112) rfl rfl q) ?_
  refine X.getF (host := "") (Or.inl (hw _ (List.mem_of_getElem? (i := 11) rfl))) Via.refl F_a_kind (hb hby d13_113) (fun T X => ?_)
  show Goes _ _ _ _ _ _ _ _ _ T (mkF m 116 #[.val (.ref a), .val (.ref b), .unset, .unset, .unset] [(.ref a_BOOLEAN)])
  refine X.getS (Or.inl (hw _ (List.mem_of_getElem? (i := 35) rfl))) (host := "") Via.refl (S_ARRAY.ext O_.2) (hb hby d13_116) (fun T X => ?_)
  show Goes _ _ _ _ _ _ _ _ _ T (mkF m 119 #[.val (.ref a), .val (.ref b), .unset, .unset, .unset] [(.ref a_ARRAY), (.ref a_BOOLEAN)])
  refine X.acmp rfl rfl (cd := .ne) (x := (.ref a_BOOLEAN)) (y := (.ref a_ARRAY)) (same := false) (pc' := 190) (hb hby d13_119) (decide_eq_false fun q => n_ARRAY (Value.ref.inj q)) (by decide) (by decide) ?_
  show Goes _ _ _ _ _ _ _ _ _ T (mkF m 190 #[.val (.ref a), .val (.ref b), .unset, .unset, .unset] [])
  refine Goes.by (g' := (mkF m 191 #[.val (.ref a), .val (.ref b), .unset, .unset, .unset] [(.ref a)])) (fun _ q => XS.aloadN X.here X.hx rfl (hb hby d13_190) rfl rfl q) ?_
  refine X.getF (host := "") (Or.inl (hw _ (List.mem_of_getElem? (i := 11) rfl))) Via.refl F_a_kind (hb hby d13_191) (fun T X => ?_)
  show Goes _ _ _ _ _ _ _ _ _ T (mkF m 194 #[.val (.ref a), .val (.ref b), .unset, .unset, .unset] [(.ref a_BOOLEAN)])
  refine X.getS (Or.inl (hw _ (List.mem_of_getElem? (i := 42) rfl))) (host := "") Via.refl (S_STRING.ext O_.2) (hb hby d13_194) (fun T X => ?_)
  show Goes _ _ _ _ _ _ _ _ _ T (mkF m 197 #[.val (.ref a), .val (.ref b), .unset, .unset, .unset] [(.ref a_STRING), (.ref a_BOOLEAN)])
  refine X.acmp rfl rfl (cd := .ne) (x := (.ref a_BOOLEAN)) (y := (.ref a_STRING)) (same := false) (pc' := 211) (hb hby d13_197) (decide_eq_false fun q => n_STRING (Value.ref.inj q)) (by decide) (by decide) ?_
  show Goes _ _ _ _ _ _ _ _ _ T (mkF m 211 #[.val (.ref a), .val (.ref b), .unset, .unset, .unset] [])
  refine Goes.by (g' := (mkF m 212 #[.val (.ref a), .val (.ref b), .unset, .unset, .unset] [(.ref b)])) (fun _ q => XS.aloadN X.here X.hx rfl (hb hby d13_211) rfl rfl q) ?_
  refine Goes.by (g' := (mkF m 213 #[.val (.ref a), .val (.ref b), .unset, .unset, .unset] [(.ref a), (.ref b)])) (fun _ q => XS.aloadN X.here X.hx rfl (hb hby d13_212) rfl rfl q) ?_
  refine X.getF (host := "") (Or.inl (hw _ (List.mem_of_getElem? (i := 95) rfl))) Via.refl F_a_text (hb hby d13_213) (fun T X => ?_)
  show Goes _ _ _ _ _ _ _ _ _ T (mkF m 216 #[.val (.ref a), .val (.ref b), .unset, .unset, .unset] [(.ref x), (.ref b)])
  have X_o := X
  refine X.callV E_b (hw _ (List.mem_of_getElem? (i := 97) rfl)) (hw _ (List.mem_of_getElem? (i := 98) rfl)) (hw _ (List.mem_of_getElem? (i := 100) rfl)) (hw _ (List.mem_of_getElem? (i := 100) rfl)) rfl (hw _ (List.mem_of_getElem? (i := 99) rfl)) (hw _ (List.mem_of_getElem? (i := 73) rfl)) (hw _ (List.mem_of_getElem? (i := 101) rfl)) (by decide) pd_35207773 (argsL := [(.ref x)]) rfl (rmApp4 l Z a0 hw n0 h0 X.n0le x tb E_x F_x_value F_x_coder A_tb b va ga_b ga_va ne_b_va E_b F_b_value F_b_coder F_b_count A_va zc hzc S_C O_) (by rw [hml]; rfl) rfl (by decide) (leB rfl) (hb hby d13_216) (by decide) (by decide) (fun T h17 v X hQ => ?_)
  obtain ⟨rfl, K, F_b_value, F_b_coder, F_b_count, A_va⟩ := hQ
  have K0 := K0.trans K (allS (Or.inl (by simp)) (allS (Or.inl (by simp)) all0))
  have O_ := O_.keep K (allS ga_b (allS ga_va all0))
  have E_b := E_b.keep K
  show Goes _ _ _ _ _ _ _ _ _ T (mkF m 219 #[.val (.ref a), .val (.ref b), .unset, .unset, .unset] [(.ref b)])
  refine Goes.by (g' := (mkF m 220 #[.val (.ref a), .val (.ref b), .unset, .unset, .unset] [])) (fun _ q => XS.pop X.here X.hx rfl (hb hby d13_219) rfl rfl q) ?_
  exact X.retV hret (hb hby d13_220) (by decide) (by decide) ⟨rfl, K0, F_b_value, F_b_coder, F_b_count, A_va⟩
set_option maxRecDepth 65536 in
set_option maxHeartbeats 40000000 in
theorem rmAL4 (l : Launch) (Z : State) (a0 : Array Value) (hw : ∀ d ∈ allW, d.before a0 Z = true) (n0 : Nat) (h0 : Heap) (hn0 : n0 ≤ h0.size) (b : Addr) (E_b : Exa Z h0 b "java/lang/StringBuilder") (F_b_count : Fld Z h0 b "java/lang/AbstractStringBuilder" "count" "I" (.int 4)) :
    Met l Z n0 (⟨"java/lang/AbstractStringBuilder", "length", "()I"⟩ : MethodName) jdk_68_method_6_code 1 (Option.some .int) ({ frames := 0, cells := 0, slots := 0, locals := 0 } : Room) #[(.ref b)] h0 (fun (v : Option Value) (h' : Heap) => v = some (.int 4) ∧ h' = h0) := by
  refine metW (Q := fun (v : Option Value) (h' : Heap) => v = some (.int 4) ∧ h' = h0) pf_27 hn0 ?_
  intro p e s m below meth c T X hby hml hret hnm
  refine Goes.by (g' := (mkF m 0 #[.val (.ref b)] [])) (fun _ q => castTop (by first | rfl | (simp [entryFrame, mkF, argsToLocals, Value.category]; done)) q) ?_
  refine Goes.by (g' := (mkF m 1 #[.val (.ref b)] [(.ref b)])) (fun _ q => XS.aloadN X.here X.hx rfl (hb hby d27_0) rfl rfl q) ?_
  refine X.getF (host := "") (Or.inl (hw _ (List.mem_of_getElem? (i := 120) rfl))) Via.refl F_b_count (hb hby d27_1) (fun T X => ?_)
  show Goes _ _ _ _ _ _ _ _ _ T (mkF m 4 #[.val (.ref b)] [(.int (4 : Int32))])
  exact X.retI hret (hb hby d27_4) (by decide) (by decide) ⟨rfl, rfl⟩
set_option maxRecDepth 65536 in
set_option maxHeartbeats 40000000 in
theorem rmSL4 (l : Launch) (Z : State) (a0 : Array Value) (hw : ∀ d ∈ allW, d.before a0 Z = true) (n0 : Nat) (h0 : Heap) (hn0 : n0 ≤ h0.size) (b : Addr) (E_b : Exa Z h0 b "java/lang/StringBuilder") (F_b_count : Fld Z h0 b "java/lang/AbstractStringBuilder" "count" "I" (.int 4)) :
    Met l Z n0 (⟨"java/lang/StringBuilder", "length", "()I"⟩ : MethodName) jdk_67_method_93_code 1 (Option.some .int) ({ frames := 1, cells := 0, slots := 0, locals := 12 } : Room) #[(.ref b)] h0 (fun (v : Option Value) (h' : Heap) => v = some (.int 4) ∧ h' = h0) := by
  refine metW (Q := fun (v : Option Value) (h' : Heap) => v = some (.int 4) ∧ h' = h0) pf_26 hn0 ?_
  intro p e s m below meth c T X hby hml hret hnm
  refine Goes.by (g' := (mkF m 0 #[.val (.ref b)] [])) (fun _ q => castTop (by first | rfl | (simp [entryFrame, mkF, argsToLocals, Value.category]; done)) q) ?_
  refine Goes.by (g' := (mkF m 1 #[.val (.ref b)] [(.ref b)])) (fun _ q => XS.aloadN X.here X.hx rfl (hb hby d26_0) rfl rfl q) ?_
  have X_o := X
  refine X.callP (Ins.self E_b) (hw _ (List.mem_of_getElem? (i := 172) rfl)) (same_of (hw _ (List.mem_of_getElem? (i := 168) rfl)) (by decide) (hw _ (List.mem_of_getElem? (i := 125) rfl)) rfl) (hw _ (List.mem_of_getElem? (i := 168) rfl)) (hw _ (List.mem_of_getElem? (i := 104) rfl)) (by decide) (hw _ (List.mem_of_getElem? (i := 81) rfl)) (hw _ (List.mem_of_getElem? (i := 173) rfl)) pd_193421983 (argsL := []) rfl (rmAL4 l Z a0 hw n0 h0 X.n0le b E_b F_b_count) (by rw [hml]; rfl) rfl (by decide) (leB rfl) (hb hby d26_1) (by decide) (by decide) (fun T h18 v X hQ => ?_)
  obtain ⟨rfl, hh⟩ := hQ
  rw [hh] at X
  clear hh
  show Goes _ _ _ _ _ _ _ _ _ T (mkF m 4 #[.val (.ref b)] [(.int (4 : Int32))])
  exact X.retI hret (hb hby d26_4) (by decide) (by decide) ⟨rfl, rfl⟩
set_option maxRecDepth 65536 in
set_option maxHeartbeats 40000000 in
theorem rmMin4 (l : Launch) (Z : State) (a0 : Array Value) (hw : ∀ d ∈ allW, d.before a0 Z = true) (n0 : Nat) (h0 : Heap) (hn0 : n0 ≤ h0.size)  :
    Met l Z n0 (⟨"java/lang/Math", "min", "(II)I"⟩ : MethodName) jdk_29_method_69_code 2 (Option.some .int) ({ frames := 0, cells := 0, slots := 0, locals := 0 } : Room) #[(.int (16 : Int32)), (.int (4 : Int32))] h0 (fun (v : Option Value) (h' : Heap) => v = some (.int 4) ∧ h' = h0) := by
  refine metW (Q := fun (v : Option Value) (h' : Heap) => v = some (.int 4) ∧ h' = h0) pf_32 hn0 ?_
  intro p e s m below meth c T X hby hml hret hnm
  refine Goes.by (g' := (mkF m 0 #[.val (.int (16 : Int32)), .val (.int (4 : Int32))] [])) (fun _ q => castTop (by first | rfl | (simp [entryFrame, mkF, argsToLocals, Value.category]; done)) q) ?_
  refine Goes.by (g' := (mkF m 1 #[.val (.int (16 : Int32)), .val (.int (4 : Int32))] [(.int (16 : Int32))])) (fun _ q => XS.iloadN X.here X.hx rfl (hb hby d32_0) rfl q) ?_
  refine Goes.by (g' := (mkF m 2 #[.val (.int (16 : Int32)), .val (.int (4 : Int32))] [(.int (4 : Int32)), (.int (16 : Int32))])) (fun _ q => XS.iloadN X.here X.hx rfl (hb hby d32_1) rfl q) ?_
  refine Goes.by (g' := (mkF m 9 #[.val (.int (16 : Int32)), .val (.int (4 : Int32))] [])) (fun _ q => XS.icmpYes X.here X.hx rfl (pc0 := 2) (pc' := 9) rfl (hb hby d32_2) rfl (tlt (show (4 : Int32) < (16 : Int32) from (by decide))).2.2.1 (by decide) (by decide) q) ?_
  refine Goes.by (g' := (mkF m 10 #[.val (.int (16 : Int32)), .val (.int (4 : Int32))] [(.int (4 : Int32))])) (fun _ q => XS.iloadN X.here X.hx rfl (hb hby d32_9) rfl q) ?_
  exact X.retI hret (hb hby d32_10) (by decide) (by decide) ⟨rfl, rfl⟩
set_option maxRecDepth 65536 in
set_option maxHeartbeats 40000000 in
theorem rmChk4 (l : Launch) (Z : State) (a0 : Array Value) (hw : ∀ d ∈ allW, d.before a0 Z = true) (n0 : Nat) (h0 : Heap) (hn0 : n0 ≤ h0.size)  :
    Met l Z n0 (⟨"java/util/Arrays", "checkLength", "(II)V"⟩ : MethodName) jdk_65_method_131_code 2 (Option.none : Option FieldType) ({ frames := 0, cells := 0, slots := 0, locals := 0 } : Room) #[(.int (0 : Int32)), (.int (4 : Int32))] h0 (fun (v : Option Value) (h' : Heap) => v = none ∧ h' = h0) := by
  refine metW (Q := fun (v : Option Value) (h' : Heap) => v = none ∧ h' = h0) pf_31 hn0 ?_
  intro p e s m below meth c T X hby hml hret hnm
  refine Goes.by (g' := (mkF m 0 #[.val (.int (0 : Int32)), .val (.int (4 : Int32))] [])) (fun _ q => castTop (by first | rfl | (simp [entryFrame, mkF, argsToLocals, Value.category]; done)) q) ?_
  refine Goes.by (g' := (mkF m 1 #[.val (.int (0 : Int32)), .val (.int (4 : Int32))] [(.int (4 : Int32))])) (fun _ q => XS.iloadN X.here X.hx rfl (hb hby d31_0) rfl q) ?_
  refine Goes.by (g' := (mkF m 2 #[.val (.int (0 : Int32)), .val (.int (4 : Int32))] [(.int (0 : Int32)), (.int (4 : Int32))])) (fun _ q => XS.iloadN X.here X.hx rfl (hb hby d31_1) rfl q) ?_
  refine Goes.by (g' := (mkF m 37 #[.val (.int (0 : Int32)), .val (.int (4 : Int32))] [])) (fun _ q => XS.icmpYes X.here X.hx rfl (pc0 := 2) (pc' := 37) rfl (hb hby d31_2) rfl (flt (show ¬ (4 : Int32) < (0 : Int32) from (by decide))).2.1 (by decide) (by decide) q) ?_
  exact X.retV hret (hb hby d31_37) (by decide) (by decide) ⟨rfl, rfl⟩
set_option maxRecDepth 65536 in
set_option maxHeartbeats 40000000 in
theorem rmCob4 (l : Launch) (Z : State) (a0 : Array Value) (hw : ∀ d ∈ allW, d.before a0 Z = true) (n0 : Nat) (h0 : Heap) (hn0 : n0 ≤ h0.size) (va : Addr) (A_va : PArr Z h0 va .byte 16 (fun i => if i < 4 then (tv [116, 114, 117, 101]) i else .int 0)) :
    Met l Z n0 (⟨"java/util/Arrays", "copyOfRangeByte", "([BII)[B"⟩ : MethodName) jdk_65_method_133_code 5 (Option.some (.array .byte)) ({ frames := 1, cells := 1, slots := 4, locals := 18 } : Room) #[(.ref va), (.int (0 : Int32)), (.int (4 : Int32))] h0 (fun (v : Option Value) (h' : Heap) => ∃ rb, v = some (.ref rb) ∧ h0.size ≤ rb ∧ Keep h0 h' [] ∧ PArr Z h' rb .byte 4 (tv [116, 114, 117, 101])) := by
  refine metW (Q := fun (v : Option Value) (h' : Heap) => ∃ rb, v = some (.ref rb) ∧ h0.size ≤ rb ∧ Keep h0 h' [] ∧ PArr Z h' rb .byte 4 (tv [116, 114, 117, 101])) pf_30 hn0 ?_
  intro p e s m below meth c T X hby hml hret hnm
  refine Goes.by (g' := (mkF m 0 #[.val (.ref va), .val (.int (0 : Int32)), .val (.int (4 : Int32)), .unset, .unset] [])) (fun _ q => castTop (by first | rfl | (simp [entryFrame, mkF, argsToLocals, Value.category]; done)) q) ?_
  have K0 := Keep.refl h0 []
  refine Goes.by (g' := (mkF m 1 #[.val (.ref va), .val (.int (0 : Int32)), .val (.int (4 : Int32)), .unset, .unset] [(.int (0 : Int32))])) (fun _ q => XS.iloadN X.here X.hx rfl (hb hby d30_0) rfl q) ?_
  refine Goes.by (g' := (mkF m 2 #[.val (.ref va), .val (.int (0 : Int32)), .val (.int (4 : Int32)), .unset, .unset] [(.int (4 : Int32)), (.int (0 : Int32))])) (fun _ q => XS.iloadN X.here X.hx rfl (hb hby d30_1) rfl q) ?_
  have X_o := X
  refine X.callS (hw _ (List.mem_of_getElem? (i := 186) rfl)) (hw _ (List.mem_of_getElem? (i := 187) rfl)) (hw _ (List.mem_of_getElem? (i := 181) rfl)) (hw _ (List.mem_of_getElem? (i := 188) rfl)) (by decide) pd_184293406 (argsL := [(.int (0 : Int32)), (.int (4 : Int32))]) rfl (rmChk4 l Z a0 hw n0 h0 X.n0le) (by rw [hml]; rfl) rfl (by decide) (leB rfl) (hb hby d30_2) (by decide) (by decide) (fun T h19 v X hQ => ?_)
  obtain ⟨rfl, hh⟩ := hQ
  rw [hh] at X
  clear hh
  show Goes _ _ _ _ _ _ _ _ _ T (mkF m 5 #[.val (.ref va), .val (.int (0 : Int32)), .val (.int (4 : Int32)), .unset, .unset] [])
  refine Goes.by (g' := (mkF m 6 #[.val (.ref va), .val (.int (0 : Int32)), .val (.int (4 : Int32)), .unset, .unset] [(.int (4 : Int32))])) (fun _ q => XS.iloadN X.here X.hx rfl (hb hby d30_5) rfl q) ?_
  refine Goes.by (g' := (mkF m 7 #[.val (.ref va), .val (.int (0 : Int32)), .val (.int (4 : Int32)), .unset, .unset] [(.int (0 : Int32)), (.int (4 : Int32))])) (fun _ q => XS.iloadN X.here X.hx rfl (hb hby d30_6) rfl q) ?_
  refine Goes.by (g' := (mkF m 8 #[.val (.ref va), .val (.int (0 : Int32)), .val (.int (4 : Int32)), .unset, .unset] [(.int (4 : Int32))])) (fun _ q => XS.isub X.here X.hx rfl (hb hby d30_7) rfl q) ?_
  refine Goes.by (g' := (mkF m 9 #[.val (.ref va), .val (.int (0 : Int32)), .val (.int (4 : Int32)), .val (.int (4 : Int32)), .unset] [])) (fun _ q => XS.istoreN X.here X.hx rfl (hb hby d30_8) rfl (l' := #[.val (.ref va), .val (.int (0 : Int32)), .val (.int (4 : Int32)), .val (.int (4 : Int32)), .unset]) rfl q) ?_
  refine Goes.by (g' := (mkF m 10 #[.val (.ref va), .val (.int (0 : Int32)), .val (.int (4 : Int32)), .val (.int (4 : Int32)), .unset] [(.int (4 : Int32))])) (fun _ q => XS.iloadN X.here X.hx rfl (hb hby d30_9) rfl q) ?_
  refine X.newA (N := 4) (ad := "[B") (by decide) (hw _ (List.mem_of_getElem? (i := 61) rfl)) (hb hby d30_10) (by decide) (cap := 4) (by decide) (by decide) (by decide) (by decide) (fun T h21 b20 X g_b20 ga_b20 E E_b20 A_b20 => ?_)
  have gz_b20 : h0.size ≤ b20 := by rw [g_b20]; exact K0.1
  have ne_va_b20 : va ≠ b20 := by rw [g_b20]; exact Nat.ne_of_lt A_va.lt
  have K0 := K0.ext E
  have A_va := PArr.ext A_va E
  show Goes _ _ _ _ _ _ _ _ _ T (mkF m 12 #[.val (.ref va), .val (.int (0 : Int32)), .val (.int (4 : Int32)), .val (.int (4 : Int32)), .unset] [(.ref b20)])
  refine Goes.by (g' := (mkF m 14 #[.val (.ref va), .val (.int (0 : Int32)), .val (.int (4 : Int32)), .val (.int (4 : Int32)), .val (.ref b20)] [])) (fun _ q => XS.astore X.here X.hx rfl (hb hby d30_12) rfl rfl (l' := #[.val (.ref va), .val (.int (0 : Int32)), .val (.int (4 : Int32)), .val (.int (4 : Int32)), .val (.ref b20)]) rfl q) ?_
  refine Goes.by (g' := (mkF m 15 #[.val (.ref va), .val (.int (0 : Int32)), .val (.int (4 : Int32)), .val (.int (4 : Int32)), .val (.ref b20)] [(.ref va)])) (fun _ q => XS.aloadN X.here X.hx rfl (hb hby d30_14) rfl rfl q) ?_
  refine Goes.by (g' := (mkF m 16 #[.val (.ref va), .val (.int (0 : Int32)), .val (.int (4 : Int32)), .val (.int (4 : Int32)), .val (.ref b20)] [(.int (0 : Int32)), (.ref va)])) (fun _ q => XS.iloadN X.here X.hx rfl (hb hby d30_15) rfl q) ?_
  refine Goes.by (g' := (mkF m 18 #[.val (.ref va), .val (.int (0 : Int32)), .val (.int (4 : Int32)), .val (.int (4 : Int32)), .val (.ref b20)] [(.ref b20), (.int (0 : Int32)), (.ref va)])) (fun _ q => XS.aload X.here X.hx rfl (hb hby d30_16) rfl rfl q) ?_
  refine Goes.by (g' := (mkF m 19 #[.val (.ref va), .val (.int (0 : Int32)), .val (.int (4 : Int32)), .val (.int (4 : Int32)), .val (.ref b20)] [(.int (0 : Int32)), (.ref b20), (.int (0 : Int32)), (.ref va)])) (fun _ q => XS.iconst X.here X.hx rfl (hb hby d30_18) q) ?_
  refine Goes.by (g' := (mkF m 20 #[.val (.ref va), .val (.int (0 : Int32)), .val (.int (4 : Int32)), .val (.int (4 : Int32)), .val (.ref b20)] [(.ref va), (.int (0 : Int32)), (.ref b20), (.int (0 : Int32)), (.ref va)])) (fun _ q => XS.aloadN X.here X.hx rfl (hb hby d30_19) rfl rfl q) ?_
  refine X.alen A_va (z := (16 : Int32)) (by decide) (hb hby d30_20) ?_
  show Goes _ _ _ _ _ _ _ _ _ T (mkF m 21 #[.val (.ref va), .val (.int (0 : Int32)), .val (.int (4 : Int32)), .val (.int (4 : Int32)), .val (.ref b20)] [(.int (16 : Int32)), (.int (0 : Int32)), (.ref b20), (.int (0 : Int32)), (.ref va)])
  refine Goes.by (g' := (mkF m 22 #[.val (.ref va), .val (.int (0 : Int32)), .val (.int (4 : Int32)), .val (.int (4 : Int32)), .val (.ref b20)] [(.int (0 : Int32)), (.int (16 : Int32)), (.int (0 : Int32)), (.ref b20), (.int (0 : Int32)), (.ref va)])) (fun _ q => XS.iloadN X.here X.hx rfl (hb hby d30_21) rfl q) ?_
  refine Goes.by (g' := (mkF m 23 #[.val (.ref va), .val (.int (0 : Int32)), .val (.int (4 : Int32)), .val (.int (4 : Int32)), .val (.ref b20)] [(.int (16 : Int32)), (.int (0 : Int32)), (.ref b20), (.int (0 : Int32)), (.ref va)])) (fun _ q => XS.isub X.here X.hx rfl (hb hby d30_22) rfl q) ?_
  refine Goes.by (g' := (mkF m 24 #[.val (.ref va), .val (.int (0 : Int32)), .val (.int (4 : Int32)), .val (.int (4 : Int32)), .val (.ref b20)] [(.int (4 : Int32)), (.int (16 : Int32)), (.int (0 : Int32)), (.ref b20), (.int (0 : Int32)), (.ref va)])) (fun _ q => XS.iloadN X.here X.hx rfl (hb hby d30_23) rfl q) ?_
  have X_o := X
  refine X.callS (hw _ (List.mem_of_getElem? (i := 189) rfl)) (hw _ (List.mem_of_getElem? (i := 190) rfl)) (hw _ (List.mem_of_getElem? (i := 191) rfl)) (hw _ (List.mem_of_getElem? (i := 192) rfl)) (by decide) pd_184293393 (argsL := [(.int (16 : Int32)), (.int (4 : Int32))]) rfl (rmMin4 l Z a0 hw n0 h21 X.n0le) (by rw [hml]; rfl) rfl (by decide) (leB rfl) (hb hby d30_24) (by decide) (by decide) (fun T h22 v X hQ => ?_)
  obtain ⟨rfl, hh⟩ := hQ
  rw [hh] at X
  clear hh
  show Goes _ _ _ _ _ _ _ _ _ T (mkF m 27 #[.val (.ref va), .val (.int (0 : Int32)), .val (.int (4 : Int32)), .val (.int (4 : Int32)), .val (.ref b20)] [(.int (4 : Int32)), (.int (0 : Int32)), (.ref b20), (.int (0 : Int32)), (.ref va)])
  refine X.copy (hw _ (List.mem_of_getElem? (i := 193) rfl)) (hw _ (List.mem_of_getElem? (i := 146) rfl)) (hw _ (List.mem_of_getElem? (i := 144) rfl)) (hw _ (List.mem_of_getElem? (i := 145) rfl)) A_va A_b20 rfl (by decide) (by decide) (cnt := 4) (by decide) (by decide) (by decide) ga_b20 (by rw [hml]; rfl) (hb hby d30_27) (by decide) (leB rfl) (fun T h23 X K B => ?_)
  have K0 := K0.trans K (allS (Or.inr gz_b20) all0)
  have A_va := PArr.keep A_va K (ninS ne_va_b20 nin0)
  have E_b20 := E_b20.keep K
  have A_b20 := B
  show Goes _ _ _ _ _ _ _ _ _ T (mkF m 30 #[.val (.ref va), .val (.int (0 : Int32)), .val (.int (4 : Int32)), .val (.int (4 : Int32)), .val (.ref b20)] [])
  refine Goes.by (g' := (mkF m 32 #[.val (.ref va), .val (.int (0 : Int32)), .val (.int (4 : Int32)), .val (.int (4 : Int32)), .val (.ref b20)] [(.ref b20)])) (fun _ q => XS.aload X.here X.hx rfl (hb hby d30_30) rfl rfl q) ?_
  exact X.retA hret rfl rfl (hb hby d30_32) (by decide) (by decide) ⟨b20, rfl, gz_b20, K0, PArr.congr A_b20 fun i hi => by simp [hi]⟩
set_option maxRecDepth 65536 in
set_option maxHeartbeats 40000000 in
theorem rmCop4 (l : Launch) (Z : State) (a0 : Array Value) (hw : ∀ d ∈ allW, d.before a0 Z = true) (n0 : Nat) (h0 : Heap) (hn0 : n0 ≤ h0.size) (va : Addr) (A_va : PArr Z h0 va .byte 16 (fun i => if i < 4 then (tv [116, 114, 117, 101]) i else .int 0)) :
    Met l Z n0 (⟨"java/util/Arrays", "copyOfRange", "([BII)[B"⟩ : MethodName) jdk_65_method_132_code 3 (Option.some (.array .byte)) ({ frames := 2, cells := 1, slots := 4, locals := 34 } : Room) #[(.ref va), (.int (0 : Int32)), (.int (4 : Int32))] h0 (fun (v : Option Value) (h' : Heap) => ∃ rb, v = some (.ref rb) ∧ h0.size ≤ rb ∧ Keep h0 h' [] ∧ PArr Z h' rb .byte 4 (tv [116, 114, 117, 101])) := by
  refine metW (Q := fun (v : Option Value) (h' : Heap) => ∃ rb, v = some (.ref rb) ∧ h0.size ≤ rb ∧ Keep h0 h' [] ∧ PArr Z h' rb .byte 4 (tv [116, 114, 117, 101])) pf_29 hn0 ?_
  intro p e s m below meth c T X hby hml hret hnm
  refine Goes.by (g' := (mkF m 0 #[.val (.ref va), .val (.int (0 : Int32)), .val (.int (4 : Int32))] [])) (fun _ q => castTop (by first | rfl | (simp [entryFrame, mkF, argsToLocals, Value.category]; done)) q) ?_
  have K0 := Keep.refl h0 []
  refine Goes.by (g' := (mkF m 1 #[.val (.ref va), .val (.int (0 : Int32)), .val (.int (4 : Int32))] [(.int (0 : Int32))])) (fun _ q => XS.iloadN X.here X.hx rfl (hb hby d29_0) rfl q) ?_
  refine Goes.by (g' := (mkF m 4 #[.val (.ref va), .val (.int (0 : Int32)), .val (.int (4 : Int32))] [])) (fun _ q => XS.ifNo X.here X.hx rfl (hb hby d29_1) rfl ((if0 _ _).trans (teq (show (0 : Int32) = (0 : Int32) from (by decide))).2) q) ?_
  refine Goes.by (g' := (mkF m 5 #[.val (.ref va), .val (.int (0 : Int32)), .val (.int (4 : Int32))] [(.int (4 : Int32))])) (fun _ q => XS.iloadN X.here X.hx rfl (hb hby d29_4) rfl q) ?_
  refine Goes.by (g' := (mkF m 6 #[.val (.ref va), .val (.int (0 : Int32)), .val (.int (4 : Int32))] [(.ref va), (.int (4 : Int32))])) (fun _ q => XS.aloadN X.here X.hx rfl (hb hby d29_5) rfl rfl q) ?_
  refine X.alen A_va (z := (16 : Int32)) (by decide) (hb hby d29_6) ?_
  show Goes _ _ _ _ _ _ _ _ _ T (mkF m 7 #[.val (.ref va), .val (.int (0 : Int32)), .val (.int (4 : Int32))] [(.int (16 : Int32)), (.int (4 : Int32))])
  refine Goes.by (g' := (mkF m 10 #[.val (.ref va), .val (.int (0 : Int32)), .val (.int (4 : Int32))] [])) (fun _ q => XS.icmpNo X.here X.hx rfl (hb hby d29_7) rfl (feq (show ¬ (4 : Int32) = (16 : Int32) from (by decide))).1 q) ?_
  refine Goes.by (g' := (mkF m 11 #[.val (.ref va), .val (.int (0 : Int32)), .val (.int (4 : Int32))] [(.ref va)])) (fun _ q => XS.aloadN X.here X.hx rfl (hb hby d29_10) rfl rfl q) ?_
  refine Goes.by (g' := (mkF m 12 #[.val (.ref va), .val (.int (0 : Int32)), .val (.int (4 : Int32))] [(.int (0 : Int32)), (.ref va)])) (fun _ q => XS.iloadN X.here X.hx rfl (hb hby d29_11) rfl q) ?_
  refine Goes.by (g' := (mkF m 13 #[.val (.ref va), .val (.int (0 : Int32)), .val (.int (4 : Int32))] [(.int (4 : Int32)), (.int (0 : Int32)), (.ref va)])) (fun _ q => XS.iloadN X.here X.hx rfl (hb hby d29_12) rfl q) ?_
  have X_o := X
  refine X.callS (hw _ (List.mem_of_getElem? (i := 183) rfl)) (hw _ (List.mem_of_getElem? (i := 184) rfl)) (hw _ (List.mem_of_getElem? (i := 181) rfl)) (hw _ (List.mem_of_getElem? (i := 185) rfl)) (by decide) pd_1647730210 (argsL := [(.ref va), (.int (0 : Int32)), (.int (4 : Int32))]) rfl (rmCob4 l Z a0 hw n0 h0 X.n0le va A_va) (by rw [hml]; rfl) rfl (by decide) (leB rfl) (hb hby d29_13) (by decide) (by decide) (fun T h24 v X hQ => ?_)
  obtain ⟨rb, rfl, gz, K, A_rb⟩ := hQ
  have gz_rb : h0.size ≤ rb := Nat.le_trans K0.1 gz
  have ga_rb : n0 ≤ rb := Nat.le_trans X_o.n0le gz
  have ne_va_rb : va ≠ rb := Nat.ne_of_lt (Nat.lt_of_lt_of_le A_va.lt gz)
  have K0 := K0.trans K all0
  have A_va := PArr.keep A_va K nin0
  show Goes _ _ _ _ _ _ _ _ _ T (mkF m 16 #[.val (.ref va), .val (.int (0 : Int32)), .val (.int (4 : Int32))] [(.ref rb)])
  exact X.retA hret rfl rfl (hb hby d29_16) (by decide) (by decide) ⟨rb, rfl, gz_rb, K0, A_rb⟩
set_option maxRecDepth 65536 in
set_option maxHeartbeats 40000000 in
theorem rmSi24 (l : Launch) (Z : State) (a0 : Array Value) (hw : ∀ d ∈ allW, d.before a0 Z = true) (n0 : Nat) (h0 : Heap) (hn0 : n0 ≤ h0.size) (b va : Addr) (ga_b : n0 ≤ b) (ga_va : n0 ≤ va) (ne_b_va : b ≠ va) (E_b : Exa Z h0 b "java/lang/StringBuilder") (F_b_value : Fld Z h0 b "java/lang/AbstractStringBuilder" "value" "[B" (.ref va)) (F_b_coder : Fld Z h0 b "java/lang/AbstractStringBuilder" "coder" "B" (.int 0)) (F_b_count : Fld Z h0 b "java/lang/AbstractStringBuilder" "count" "I" (.int 4)) (A_va : PArr Z h0 va .byte 16 (fun i => if i < 4 then (tv [116, 114, 117, 101]) i else .int 0)) (r : Addr) (ga_r : n0 ≤ r) (E_r : Exa Z h0 r "java/lang/String") (F_r_value : Fld Z h0 r "java/lang/String" "value" "[B" .null) (F_r_coder : Fld Z h0 r "java/lang/String" "coder" "B" (.int (0 : Int32))) (zc : Int32) (hzc : ¬ zc = 0) (S_C : Sta Z Z.heap "java/lang/String" "COMPACT_STRINGS" "Z" (.int zc)) (O_ : Old Z n0 h0) (ne_r_b : r ≠ b) (ne_r_va : r ≠ va) :
    Met l Z n0 (⟨"java/lang/String", "<init>", "(Ljava/lang/AbstractStringBuilder;Ljava/lang/Void;)V"⟩ : MethodName) jdk_42_method_150_code 5 (Option.none : Option FieldType) ({ frames := 3, cells := 1, slots := 4, locals := 49 } : Room) #[(.ref r), (.ref b), .null] h0 (fun (v : Option Value) (h' : Heap) => v = none ∧ Keep h0 h' [r] ∧ ∃ rb, h0.size ≤ rb ∧ Fld Z h' r "java/lang/String" "value" "[B" (.ref rb) ∧ Fld Z h' r "java/lang/String" "coder" "B" (.int 0) ∧ PArr Z h' rb .byte 4 (tv [116, 114, 117, 101])) := by
  refine metW (Q := fun (v : Option Value) (h' : Heap) => v = none ∧ Keep h0 h' [r] ∧ ∃ rb, h0.size ≤ rb ∧ Fld Z h' r "java/lang/String" "value" "[B" (.ref rb) ∧ Fld Z h' r "java/lang/String" "coder" "B" (.int 0) ∧ PArr Z h' rb .byte 4 (tv [116, 114, 117, 101])) pf_24 hn0 ?_
  intro p e s m below meth c T X hby hml hret hnm
  refine Goes.by (g' := (mkF m 0 #[.val (.ref r), .val (.ref b), .val .null, .unset, .unset] [])) (fun _ q => castTop (by first | rfl | (simp [entryFrame, mkF, argsToLocals, Value.category]; done)) q) ?_
  have K0 := Keep.refl h0 [r]
  refine Goes.by (g' := (mkF m 1 #[.val (.ref r), .val (.ref b), .val .null, .unset, .unset] [(.ref r)])) (fun _ q => XS.aloadN X.here X.hx rfl (hb hby d24_0) rfl rfl q) ?_
  refine X.initO (hw _ (List.mem_of_getElem? (i := 160) rfl)) (hw _ (List.mem_of_getElem? (i := 84) rfl)) (hw _ (List.mem_of_getElem? (i := 85) rfl)) (by rw [hml]; rfl) (hb hby d24_1) (by decide) (leB rfl) (fun T X => ?_)
  show Goes _ _ _ _ _ _ _ _ _ T (mkF m 4 #[.val (.ref r), .val (.ref b), .val .null, .unset, .unset] [])
  refine Goes.by (g' := (mkF m 5 #[.val (.ref r), .val (.ref b), .val .null, .unset, .unset] [(.ref b)])) (fun _ q => XS.aloadN X.here X.hx rfl (hb hby d24_4) rfl rfl q) ?_
  have X_o := X
  refine X.callV E_b (hw _ (List.mem_of_getElem? (i := 161) rfl)) (hw _ (List.mem_of_getElem? (i := 162) rfl)) (hw _ (List.mem_of_getElem? (i := 164) rfl)) (hw _ (List.mem_of_getElem? (i := 125) rfl)) rfl (hw _ (List.mem_of_getElem? (i := 163) rfl)) (hw _ (List.mem_of_getElem? (i := 81) rfl)) (hw _ (List.mem_of_getElem? (i := 165) rfl)) (by decide) pd_2087958803 (argsL := []) rfl (rmGV l Z a0 hw n0 h0 X.n0le b va F_b_value) (by rw [hml]; rfl) rfl (by decide) (leB rfl) (hb hby d24_5) (by decide) (by decide) (fun T h25 v X hQ => ?_)
  obtain ⟨rfl, hh⟩ := hQ
  rw [hh] at X
  clear hh
  show Goes _ _ _ _ _ _ _ _ _ T (mkF m 8 #[.val (.ref r), .val (.ref b), .val .null, .unset, .unset] [(.ref va)])
  refine Goes.by (g' := (mkF m 9 #[.val (.ref r), .val (.ref b), .val .null, .val (.ref va), .unset] [])) (fun _ q => XS.astoreN X.here X.hx rfl (hb hby d24_8) rfl rfl (l' := #[.val (.ref r), .val (.ref b), .val .null, .val (.ref va), .unset]) rfl q) ?_
  refine Goes.by (g' := (mkF m 10 #[.val (.ref r), .val (.ref b), .val .null, .val (.ref va), .unset] [(.ref b)])) (fun _ q => XS.aloadN X.here X.hx rfl (hb hby d24_9) rfl rfl q) ?_
  have X_o := X
  refine X.callV E_b (hw _ (List.mem_of_getElem? (i := 166) rfl)) (hw _ (List.mem_of_getElem? (i := 167) rfl)) (hw _ (List.mem_of_getElem? (i := 169) rfl)) (hw _ (List.mem_of_getElem? (i := 125) rfl)) rfl (hw _ (List.mem_of_getElem? (i := 170) rfl)) (hw _ (List.mem_of_getElem? (i := 73) rfl)) (hw _ (List.mem_of_getElem? (i := 171) rfl)) (by decide) pd_193421983 (argsL := []) rfl (rmSL4 l Z a0 hw n0 h0 X.n0le b E_b F_b_count) (by rw [hml]; rfl) rfl (by decide) (leB rfl) (hb hby d24_10) (by decide) (by decide) (fun T h26 v X hQ => ?_)
  obtain ⟨rfl, hh⟩ := hQ
  rw [hh] at X
  clear hh
  show Goes _ _ _ _ _ _ _ _ _ T (mkF m 13 #[.val (.ref r), .val (.ref b), .val .null, .val (.ref va), .unset] [(.int (4 : Int32))])
  refine Goes.by (g' := (mkF m 15 #[.val (.ref r), .val (.ref b), .val .null, .val (.ref va), .val (.int (4 : Int32))] [])) (fun _ q => XS.istore X.here X.hx rfl (hb hby d24_13) rfl (l' := #[.val (.ref r), .val (.ref b), .val .null, .val (.ref va), .val (.int (4 : Int32))]) rfl q) ?_
  refine Goes.by (g' := (mkF m 16 #[.val (.ref r), .val (.ref b), .val .null, .val (.ref va), .val (.int (4 : Int32))] [(.ref b)])) (fun _ q => XS.aloadN X.here X.hx rfl (hb hby d24_15) rfl rfl q) ?_
  have X_o := X
  refine X.callV E_b (hw _ (List.mem_of_getElem? (i := 174) rfl)) (hw _ (List.mem_of_getElem? (i := 175) rfl)) (hw _ (List.mem_of_getElem? (i := 177) rfl)) (hw _ (List.mem_of_getElem? (i := 125) rfl)) rfl (hw _ (List.mem_of_getElem? (i := 176) rfl)) (hw _ (List.mem_of_getElem? (i := 81) rfl)) (hw _ (List.mem_of_getElem? (i := 178) rfl)) (by decide) pd_193422000 (argsL := []) rfl (rmIsL l Z a0 hw n0 h0 X.n0le b F_b_coder zc hzc S_C O_) (by rw [hml]; rfl) rfl (by decide) (leB rfl) (hb hby d24_16) (by decide) (by decide) (fun T h27 v X hQ => ?_)
  obtain ⟨rfl, hh⟩ := hQ
  rw [hh] at X
  clear hh
  show Goes _ _ _ _ _ _ _ _ _ T (mkF m 19 #[.val (.ref r), .val (.ref b), .val .null, .val (.ref va), .val (.int (4 : Int32))] [(.int (1 : Int32))])
  refine Goes.by (g' := (mkF m 22 #[.val (.ref r), .val (.ref b), .val .null, .val (.ref va), .val (.int (4 : Int32))] [])) (fun _ q => XS.ifNo X.here X.hx rfl (hb hby d24_19) rfl ((if0 _ _).trans (feq (show ¬ (1 : Int32) = (0 : Int32) from (by decide))).1) q) ?_
  refine Goes.by (g' := (mkF m 23 #[.val (.ref r), .val (.ref b), .val .null, .val (.ref va), .val (.int (4 : Int32))] [(.ref r)])) (fun _ q => XS.aloadN X.here X.hx rfl (hb hby d24_22) rfl rfl q) ?_
  refine Goes.by (g' := (mkF m 24 #[.val (.ref r), .val (.ref b), .val .null, .val (.ref va), .val (.int (4 : Int32))] [(.int (0 : Int32)), (.ref r)])) (fun _ q => XS.iconst X.here X.hx rfl (hb hby d24_23) q) ?_
  refine X.putF (host := "") (Or.inl (hw _ (List.mem_of_getElem? (i := 119) rfl))) Via.refl F_r_coder E_r (Or.inr ⟨(hw _ (List.mem_of_getElem? (i := 63) rfl)), rfl, hnm⟩) (hw _ (List.mem_of_getElem? (i := 60) rfl)) (ty := .byte) (by decide) rfl rfl ga_r (hb hby d24_24) (fun T h28 X W => ?_)
  have K0 := K0.wr W (Or.inl (by simp))
  have O_ := O_.wr W ga_r
  have E_r := E_r.wr W
  have F_r_value := F_r_value.other W (Or.inr (slot_ne (Or.inr (hw _ (List.mem_of_getElem? (i := 62) rfl))) (Or.inr (hw _ (List.mem_of_getElem? (i := 63) rfl))) (by decide) (t := (.array .byte)) (t' := .byte) (by decide) (by decide)))
  have F_r_coder := F_r_coder.same W
  have E_b := E_b.wr W
  have F_b_value := F_b_value.other W (Or.inl (Ne.symm ne_r_b))
  have F_b_coder := F_b_coder.other W (Or.inl (Ne.symm ne_r_b))
  have F_b_count := F_b_count.other W (Or.inl (Ne.symm ne_r_b))
  have A_va := PArr.other A_va W (Ne.symm ne_r_va)
  show Goes _ _ _ _ _ _ _ _ _ T (mkF m 27 #[.val (.ref r), .val (.ref b), .val .null, .val (.ref va), .val (.int (4 : Int32))] [])
  refine Goes.by (g' := (mkF m 28 #[.val (.ref r), .val (.ref b), .val .null, .val (.ref va), .val (.int (4 : Int32))] [(.ref r)])) (fun _ q => XS.aloadN X.here X.hx rfl (hb hby d24_27) rfl rfl q) ?_
  refine Goes.by (g' := (mkF m 29 #[.val (.ref r), .val (.ref b), .val .null, .val (.ref va), .val (.int (4 : Int32))] [(.ref va), (.ref r)])) (fun _ q => XS.aloadN X.here X.hx rfl (hb hby d24_28) rfl rfl q) ?_
  refine Goes.by (g' := (mkF m 30 #[.val (.ref r), .val (.ref b), .val .null, .val (.ref va), .val (.int (4 : Int32))] [(.int (0 : Int32)), (.ref va), (.ref r)])) (fun _ q => XS.iconst X.here X.hx rfl (hb hby d24_29) q) ?_
  refine Goes.by (g' := (mkF m 32 #[.val (.ref r), .val (.ref b), .val .null, .val (.ref va), .val (.int (4 : Int32))] [(.int (4 : Int32)), (.int (0 : Int32)), (.ref va), (.ref r)])) (fun _ q => XS.iload X.here X.hx rfl (hb hby d24_30) rfl q) ?_
  have X_o := X
  refine X.callS (hw _ (List.mem_of_getElem? (i := 179) rfl)) (hw _ (List.mem_of_getElem? (i := 180) rfl)) (hw _ (List.mem_of_getElem? (i := 181) rfl)) (hw _ (List.mem_of_getElem? (i := 182) rfl)) (by decide) pd_1647730210 (argsL := [(.ref va), (.int (0 : Int32)), (.int (4 : Int32))]) rfl (rmCop4 l Z a0 hw n0 h28 X.n0le va A_va) (by rw [hml]; rfl) rfl (by decide) (leB rfl) (hb hby d24_32) (by decide) (by decide) (fun T h29 v X hQ => ?_)
  obtain ⟨rb, rfl, gz, K, A_rb⟩ := hQ
  have gz_rb : h0.size ≤ rb := Nat.le_trans K0.1 gz
  have ga_rb : n0 ≤ rb := Nat.le_trans X_o.n0le gz
  have ne_r_rb : r ≠ rb := Nat.ne_of_lt (Nat.lt_of_lt_of_le E_r.lt gz)
  have ne_b_rb : b ≠ rb := Nat.ne_of_lt (Nat.lt_of_lt_of_le E_b.lt gz)
  have ne_va_rb : va ≠ rb := Nat.ne_of_lt (Nat.lt_of_lt_of_le A_va.lt gz)
  have K0 := K0.trans K all0
  have O_ := O_.keep K all0
  have E_r := E_r.keep K
  have F_r_value := F_r_value.keep K nin0
  have F_r_coder := F_r_coder.keep K nin0
  have E_b := E_b.keep K
  have F_b_value := F_b_value.keep K nin0
  have F_b_coder := F_b_coder.keep K nin0
  have F_b_count := F_b_count.keep K nin0
  have A_va := PArr.keep A_va K nin0
  show Goes _ _ _ _ _ _ _ _ _ T (mkF m 35 #[.val (.ref r), .val (.ref b), .val .null, .val (.ref va), .val (.int (4 : Int32))] [(.ref rb), (.ref r)])
  refine X.putF (host := "") (Or.inl (hw _ (List.mem_of_getElem? (i := 112) rfl))) Via.refl F_r_value E_r (Or.inr ⟨(hw _ (List.mem_of_getElem? (i := 62) rfl)), rfl, hnm⟩) (hw _ (List.mem_of_getElem? (i := 60) rfl)) (ty := (.array .byte)) (by decide) rfl rfl ga_r (hb hby d24_35) (fun T h30 X W => ?_)
  have K0 := K0.wr W (Or.inl (by simp))
  have O_ := O_.wr W ga_r
  have E_r := E_r.wr W
  have F_r_value := F_r_value.same W
  have F_r_coder := F_r_coder.other W (Or.inr (slot_ne (Or.inr (hw _ (List.mem_of_getElem? (i := 63) rfl))) (Or.inr (hw _ (List.mem_of_getElem? (i := 62) rfl))) (by decide) (t := .byte) (t' := (.array .byte)) (by decide) (by decide)))
  have E_b := E_b.wr W
  have F_b_value := F_b_value.other W (Or.inl (Ne.symm ne_r_b))
  have F_b_coder := F_b_coder.other W (Or.inl (Ne.symm ne_r_b))
  have F_b_count := F_b_count.other W (Or.inl (Ne.symm ne_r_b))
  have A_va := PArr.other A_va W (Ne.symm ne_r_va)
  have A_rb := PArr.other A_rb W (Ne.symm ne_r_rb)
  show Goes _ _ _ _ _ _ _ _ _ T (mkF m 38 #[.val (.ref r), .val (.ref b), .val .null, .val (.ref va), .val (.int (4 : Int32))] [])
  refine Goes.by (g' := (mkF m 97 #[.val (.ref r), .val (.ref b), .val .null, .val (.ref va), .val (.int (4 : Int32))] [])) (fun _ q => XS.goto X.here X.hx rfl (pc0 := 38) (pc' := 97) rfl (hb hby d24_38) (by decide) (by decide) q) ?_
  exact X.retV hret (hb hby d24_97) (by decide) (by decide) ⟨rfl, K0, rb, gz_rb, F_r_value, F_r_coder, A_rb⟩
set_option maxRecDepth 65536 in
set_option maxHeartbeats 40000000 in
theorem rmSi14 (l : Launch) (Z : State) (a0 : Array Value) (hw : ∀ d ∈ allW, d.before a0 Z = true) (n0 : Nat) (h0 : Heap) (hn0 : n0 ≤ h0.size) (b va : Addr) (ga_b : n0 ≤ b) (ga_va : n0 ≤ va) (ne_b_va : b ≠ va) (E_b : Exa Z h0 b "java/lang/StringBuilder") (F_b_value : Fld Z h0 b "java/lang/AbstractStringBuilder" "value" "[B" (.ref va)) (F_b_coder : Fld Z h0 b "java/lang/AbstractStringBuilder" "coder" "B" (.int 0)) (F_b_count : Fld Z h0 b "java/lang/AbstractStringBuilder" "count" "I" (.int 4)) (A_va : PArr Z h0 va .byte 16 (fun i => if i < 4 then (tv [116, 114, 117, 101]) i else .int 0)) (r : Addr) (ga_r : n0 ≤ r) (E_r : Exa Z h0 r "java/lang/String") (F_r_value : Fld Z h0 r "java/lang/String" "value" "[B" .null) (F_r_coder : Fld Z h0 r "java/lang/String" "coder" "B" (.int (0 : Int32))) (zc : Int32) (hzc : ¬ zc = 0) (S_C : Sta Z Z.heap "java/lang/String" "COMPACT_STRINGS" "Z" (.int zc)) (O_ : Old Z n0 h0) (ne_r_b : r ≠ b) (ne_r_va : r ≠ va) :
    Met l Z n0 (⟨"java/lang/String", "<init>", "(Ljava/lang/StringBuilder;)V"⟩ : MethodName) jdk_42_method_53_code 2 (Option.none : Option FieldType) ({ frames := 4, cells := 1, slots := 4, locals := 65 } : Room) #[(.ref r), (.ref b)] h0 (fun (v : Option Value) (h' : Heap) => v = none ∧ Keep h0 h' [r] ∧ ∃ rb, h0.size ≤ rb ∧ Fld Z h' r "java/lang/String" "value" "[B" (.ref rb) ∧ Fld Z h' r "java/lang/String" "coder" "B" (.int 0) ∧ PArr Z h' rb .byte 4 (tv [116, 114, 117, 101])) := by
  refine metW (Q := fun (v : Option Value) (h' : Heap) => v = none ∧ Keep h0 h' [r] ∧ ∃ rb, h0.size ≤ rb ∧ Fld Z h' r "java/lang/String" "value" "[B" (.ref rb) ∧ Fld Z h' r "java/lang/String" "coder" "B" (.int 0) ∧ PArr Z h' rb .byte 4 (tv [116, 114, 117, 101])) pf_23 hn0 ?_
  intro p e s m below meth c T X hby hml hret hnm
  refine Goes.by (g' := (mkF m 0 #[.val (.ref r), .val (.ref b)] [])) (fun _ q => castTop (by first | rfl | (simp [entryFrame, mkF, argsToLocals, Value.category]; done)) q) ?_
  have K0 := Keep.refl h0 [r]
  refine Goes.by (g' := (mkF m 1 #[.val (.ref r), .val (.ref b)] [(.ref r)])) (fun _ q => XS.aloadN X.here X.hx rfl (hb hby d23_0) rfl rfl q) ?_
  refine Goes.by (g' := (mkF m 2 #[.val (.ref r), .val (.ref b)] [(.ref b), (.ref r)])) (fun _ q => XS.aloadN X.here X.hx rfl (hb hby d23_1) rfl rfl q) ?_
  refine Goes.by (g' := (mkF m 3 #[.val (.ref r), .val (.ref b)] [.null, (.ref b), (.ref r)])) (fun _ q => XS.aconstNull X.here X.hx rfl (hb hby d23_2) q) ?_
  have X_o := X
  refine X.callN rfl (hw _ (List.mem_of_getElem? (i := 157) rfl)) (hw _ (List.mem_of_getElem? (i := 158) rfl)) (hw _ (List.mem_of_getElem? (i := 59) rfl)) (hw _ (List.mem_of_getElem? (i := 159) rfl)) (by decide) pd_235917794 (argsL := [(.ref b), .null]) rfl (rmSi24 l Z a0 hw n0 h0 X.n0le b va ga_b ga_va ne_b_va E_b F_b_value F_b_coder F_b_count A_va r ga_r E_r F_r_value F_r_coder zc hzc S_C O_ ne_r_b ne_r_va) (by rw [hml]; rfl) rfl (by decide) (leB rfl) (hb hby d23_3) (by decide) (by decide) (fun T h31 v X hQ => ?_)
  obtain ⟨rfl, K, rb, gz, F_r_value, F_r_coder, A_rb⟩ := hQ
  have gz_rb : h0.size ≤ rb := Nat.le_trans K0.1 gz
  have ga_rb : n0 ≤ rb := Nat.le_trans X_o.n0le gz
  have ne_r_rb : r ≠ rb := Nat.ne_of_lt (Nat.lt_of_lt_of_le E_r.lt gz)
  have ne_b_rb : b ≠ rb := Nat.ne_of_lt (Nat.lt_of_lt_of_le E_b.lt gz)
  have ne_va_rb : va ≠ rb := Nat.ne_of_lt (Nat.lt_of_lt_of_le A_va.lt gz)
  have K0 := K0.trans K (allS (Or.inl (by simp)) all0)
  have O_ := O_.keep K (allS ga_r all0)
  have E_r := E_r.keep K
  have E_b := E_b.keep K
  have F_b_value := F_b_value.keep K (ninS (Ne.symm ne_r_b) nin0)
  have F_b_coder := F_b_coder.keep K (ninS (Ne.symm ne_r_b) nin0)
  have F_b_count := F_b_count.keep K (ninS (Ne.symm ne_r_b) nin0)
  have A_va := PArr.keep A_va K (ninS (Ne.symm ne_r_va) nin0)
  show Goes _ _ _ _ _ _ _ _ _ T (mkF m 6 #[.val (.ref r), .val (.ref b)] [])
  exact X.retV hret (hb hby d23_6) (by decide) (by decide) ⟨rfl, K0, rb, gz_rb, F_r_value, F_r_coder, A_rb⟩
set_option maxRecDepth 65536 in
set_option maxHeartbeats 40000000 in
theorem rmToS4 (l : Launch) (Z : State) (a0 : Array Value) (hw : ∀ d ∈ allW, d.before a0 Z = true) (n0 : Nat) (h0 : Heap) (hn0 : n0 ≤ h0.size) (b va : Addr) (ga_b : n0 ≤ b) (ga_va : n0 ≤ va) (ne_b_va : b ≠ va) (E_b : Exa Z h0 b "java/lang/StringBuilder") (F_b_value : Fld Z h0 b "java/lang/AbstractStringBuilder" "value" "[B" (.ref va)) (F_b_coder : Fld Z h0 b "java/lang/AbstractStringBuilder" "coder" "B" (.int 0)) (F_b_count : Fld Z h0 b "java/lang/AbstractStringBuilder" "count" "I" (.int 4)) (A_va : PArr Z h0 va .byte 16 (fun i => if i < 4 then (tv [116, 114, 117, 101]) i else .int 0)) (zc : Int32) (hzc : ¬ zc = 0) (S_C : Sta Z Z.heap "java/lang/String" "COMPACT_STRINGS" "Z" (.int zc)) (O_ : Old Z n0 h0) :
    Met l Z n0 (⟨"java/lang/StringBuilder", "toString", "()Ljava/lang/String;"⟩ : MethodName) jdk_67_method_42_code 1 (Option.some (.object "java/lang/String")) ({ frames := 5, cells := 2, slots := 8, locals := 79 } : Room) #[(.ref b)] h0 (fun (v : Option Value) (h' : Heap) => ∃ r rb, v = some (.ref r) ∧ h0.size ≤ r ∧ h0.size ≤ rb ∧ Keep h0 h' [] ∧ Exa Z h' r "java/lang/String" ∧ Fld Z h' r "java/lang/String" "value" "[B" (.ref rb) ∧ Fld Z h' r "java/lang/String" "coder" "B" (.int 0) ∧ PArr Z h' rb .byte 4 (tv [116, 114, 117, 101])) := by
  refine metW (Q := fun (v : Option Value) (h' : Heap) => ∃ r rb, v = some (.ref r) ∧ h0.size ≤ r ∧ h0.size ≤ rb ∧ Keep h0 h' [] ∧ Exa Z h' r "java/lang/String" ∧ Fld Z h' r "java/lang/String" "value" "[B" (.ref rb) ∧ Fld Z h' r "java/lang/String" "coder" "B" (.int 0) ∧ PArr Z h' rb .byte 4 (tv [116, 114, 117, 101])) pf_22 hn0 ?_
  intro p e s m below meth c T X hby hml hret hnm
  refine Goes.by (g' := (mkF m 0 #[.val (.ref b)] [])) (fun _ q => castTop (by first | rfl | (simp [entryFrame, mkF, argsToLocals, Value.category]; done)) q) ?_
  have K0 := Keep.refl h0 []
  refine X.newO (hw _ (List.mem_of_getElem? (i := 152) rfl)) (hw _ (List.mem_of_getElem? (i := 60) rfl)) (hw _ (List.mem_of_getElem? (i := 59) rfl)) (hb hby d22_0) (by decide) (by decide) (fun T h33 b32 X g_b32 ga_b32 E E_b32 D_b32 => ?_)
  have gz_b32 : h0.size ≤ b32 := by rw [g_b32]; exact K0.1
  have ne_b_b32 : b ≠ b32 := by rw [g_b32]; exact Nat.ne_of_lt E_b.lt
  have ne_va_b32 : va ≠ b32 := by rw [g_b32]; exact Nat.ne_of_lt A_va.lt
  have K0 := K0.ext E
  have O_ := O_.ext E
  have E_b := E_b.ext E
  have F_b_value := F_b_value.ext E
  have F_b_coder := F_b_coder.ext E
  have F_b_count := F_b_count.ext E
  have A_va := PArr.ext A_va E
  have F_b32_value : Fld Z h33 b32 "java/lang/String" "value" "[B" .null := D_b32 (Or.inr (hw _ (List.mem_of_getElem? (i := 62) rfl))) (ty := (.array .byte)) (by decide)
  have F_b32_coder : Fld Z h33 b32 "java/lang/String" "coder" "B" (.int (0 : Int32)) := D_b32 (Or.inr (hw _ (List.mem_of_getElem? (i := 63) rfl))) (ty := .byte) (by decide)
  show Goes _ _ _ _ _ _ _ _ _ T (mkF m 3 #[.val (.ref b)] [(.ref b32)])
  refine Goes.by (g' := (mkF m 4 #[.val (.ref b)] [(.ref b32), (.ref b32)])) (fun _ q => XS.dup X.here X.hx rfl (hb hby d22_3) rfl rfl q) ?_
  refine Goes.by (g' := (mkF m 5 #[.val (.ref b)] [(.ref b), (.ref b32), (.ref b32)])) (fun _ q => XS.aloadN X.here X.hx rfl (hb hby d22_4) rfl rfl q) ?_
  have X_o := X
  refine X.callN rfl (hw _ (List.mem_of_getElem? (i := 153) rfl)) (hw _ (List.mem_of_getElem? (i := 154) rfl)) (hw _ (List.mem_of_getElem? (i := 59) rfl)) (hw _ (List.mem_of_getElem? (i := 156) rfl)) (by decide) pd_591813651 (argsL := [(.ref b)]) rfl (rmSi14 l Z a0 hw n0 h33 X.n0le b va ga_b ga_va ne_b_va E_b F_b_value F_b_coder F_b_count A_va b32 ga_b32 E_b32 F_b32_value F_b32_coder zc hzc S_C O_ (Ne.symm ne_b_b32) (Ne.symm ne_va_b32)) (by rw [hml]; rfl) rfl (by decide) (leB rfl) (hb hby d22_5) (by decide) (by decide) (fun T h34 v X hQ => ?_)
  obtain ⟨rfl, K, rb, gz, F_b32_value, F_b32_coder, A_rb⟩ := hQ
  have gz_rb : h0.size ≤ rb := Nat.le_trans K0.1 gz
  have ga_rb : n0 ≤ rb := Nat.le_trans X_o.n0le gz
  have ne_b_rb : b ≠ rb := Nat.ne_of_lt (Nat.lt_of_lt_of_le E_b.lt gz)
  have ne_b32_rb : b32 ≠ rb := Nat.ne_of_lt (Nat.lt_of_lt_of_le E_b32.lt gz)
  have ne_va_rb : va ≠ rb := Nat.ne_of_lt (Nat.lt_of_lt_of_le A_va.lt gz)
  have K0 := K0.trans K (allS (Or.inr gz_b32) all0)
  have O_ := O_.keep K (allS ga_b32 all0)
  have E_b := E_b.keep K
  have F_b_value := F_b_value.keep K (ninS ne_b_b32 nin0)
  have F_b_coder := F_b_coder.keep K (ninS ne_b_b32 nin0)
  have F_b_count := F_b_count.keep K (ninS ne_b_b32 nin0)
  have A_va := PArr.keep A_va K (ninS ne_va_b32 nin0)
  have E_b32 := E_b32.keep K
  show Goes _ _ _ _ _ _ _ _ _ T (mkF m 8 #[.val (.ref b)] [(.ref b32)])
  exact X.retA hret rfl rfl (hb hby d22_8) (by decide) (by decide) ⟨b32, rb, rfl, gz_b32, gz_rb, K0, E_b32, F_b32_value, F_b32_coder, A_rb⟩
set_option maxRecDepth 65536 in
set_option maxHeartbeats 40000000 in
theorem rmToJ4 (l : Launch) (Z : State) (a0 : Array Value) (hw : ∀ d ∈ allW, d.before a0 Z = true) (n0 : Nat) (h0 : Heap) (hn0 : n0 ≤ h0.size) (x tb : Addr) (E_x : Exa Z h0 x "java/lang/String") (F_x_value : Fld Z h0 x "java/lang/String" "value" "[B" (.ref tb)) (F_x_coder : Fld Z h0 x "java/lang/String" "coder" "B" (.int 0)) (A_tb : PArr Z h0 tb .byte 4 (tv [116, 114, 117, 101])) (zc : Int32) (hzc : ¬ zc = 0) (S_C : Sta Z Z.heap "java/lang/String" "COMPACT_STRINGS" "Z" (.int zc)) (O_ : Old Z n0 h0) (a_BOOLEAN : Addr) (a_OBJECT : Addr) (S_OBJECT : Sta Z Z.heap "com/example/riskweave/riskweave/scenario/JsonValue$Kind" "OBJECT" "Lcom/example/riskweave/riskweave/scenario/JsonValue$Kind;" (.ref a_OBJECT)) (a_ARRAY : Addr) (S_ARRAY : Sta Z Z.heap "com/example/riskweave/riskweave/scenario/JsonValue$Kind" "ARRAY" "Lcom/example/riskweave/riskweave/scenario/JsonValue$Kind;" (.ref a_ARRAY)) (a_STRING : Addr) (S_STRING : Sta Z Z.heap "com/example/riskweave/riskweave/scenario/JsonValue$Kind" "STRING" "Lcom/example/riskweave/riskweave/scenario/JsonValue$Kind;" (.ref a_STRING)) (n_OBJECT : a_BOOLEAN ≠ a_OBJECT) (n_ARRAY : a_BOOLEAN ≠ a_ARRAY) (n_STRING : a_BOOLEAN ≠ a_STRING) (a : Addr) (E_a : Exa Z h0 a "com/example/riskweave/riskweave/scenario/JsonValue") (F_a_kind : Fld Z h0 a "com/example/riskweave/riskweave/scenario/JsonValue" "kind" "Lcom/example/riskweave/riskweave/scenario/JsonValue$Kind;" (.ref a_BOOLEAN)) (F_a_text : Fld Z h0 a "com/example/riskweave/riskweave/scenario/JsonValue" "text" "Ljava/lang/String;" (.ref x)) :
    Met l Z n0 (⟨"com/example/riskweave/riskweave/scenario/JsonValue", "toString", "()Ljava/lang/String;"⟩ : MethodName) prog_74_method_23_code 2 (Option.some (.object "java/lang/String")) ({ frames := 6, cells := 4, slots := 28, locals := 91 } : Room) #[(.ref a)] h0 (fun (v : Option Value) (h' : Heap) => ∃ r rb, v = some (.ref r) ∧ h0.size ≤ r ∧ h0.size ≤ rb ∧ Keep h0 h' [] ∧ Exa Z h' r "java/lang/String" ∧ Fld Z h' r "java/lang/String" "value" "[B" (.ref rb) ∧ Fld Z h' r "java/lang/String" "coder" "B" (.int 0) ∧ PArr Z h' rb .byte 4 (tv [116, 114, 117, 101])) := by
  refine metW (Q := fun (v : Option Value) (h' : Heap) => ∃ r rb, v = some (.ref r) ∧ h0.size ≤ r ∧ h0.size ≤ rb ∧ Keep h0 h' [] ∧ Exa Z h' r "java/lang/String" ∧ Fld Z h' r "java/lang/String" "value" "[B" (.ref rb) ∧ Fld Z h' r "java/lang/String" "coder" "B" (.int 0) ∧ PArr Z h' rb .byte 4 (tv [116, 114, 117, 101])) pf_9 hn0 ?_
  intro p e s m below meth c T X hby hml hret hnm
  refine Goes.by (g' := (mkF m 0 #[.val (.ref a), .unset] [])) (fun _ q => castTop (by first | rfl | (simp [entryFrame, mkF, argsToLocals, Value.category]; done)) q) ?_
  have K0 := Keep.refl h0 []
  refine X.newO (hw _ (List.mem_of_getElem? (i := 71) rfl)) (hw _ (List.mem_of_getElem? (i := 72) rfl)) (hw _ (List.mem_of_getElem? (i := 73) rfl)) (hb hby d9_0) (by decide) (by decide) (fun T h36 b35 X g_b35 ga_b35 E E_b35 D_b35 => ?_)
  have gz_b35 : h0.size ≤ b35 := by rw [g_b35]; exact K0.1
  have ne_x_b35 : x ≠ b35 := by rw [g_b35]; exact Nat.ne_of_lt E_x.lt
  have ne_tb_b35 : tb ≠ b35 := by rw [g_b35]; exact Nat.ne_of_lt A_tb.lt
  have ne_a_b35 : a ≠ b35 := by rw [g_b35]; exact Nat.ne_of_lt E_a.lt
  have K0 := K0.ext E
  have O_ := O_.ext E
  have E_x := E_x.ext E
  have F_x_value := F_x_value.ext E
  have F_x_coder := F_x_coder.ext E
  have A_tb := PArr.ext A_tb E
  have E_a := E_a.ext E
  have F_a_kind := F_a_kind.ext E
  have F_a_text := F_a_text.ext E
  have F_b35_value : Fld Z h36 b35 "java/lang/AbstractStringBuilder" "value" "[B" .null := D_b35 (Or.inl (hw _ (List.mem_of_getElem? (i := 88) rfl))) (ty := (.array .byte)) (by decide)
  have F_b35_coder : Fld Z h36 b35 "java/lang/AbstractStringBuilder" "coder" "B" (.int (0 : Int32)) := D_b35 (Or.inl (hw _ (List.mem_of_getElem? (i := 90) rfl))) (ty := .byte) (by decide)
  have F_b35_count : Fld Z h36 b35 "java/lang/AbstractStringBuilder" "count" "I" (.int (0 : Int32)) := D_b35 (Or.inl (hw _ (List.mem_of_getElem? (i := 121) rfl))) (ty := .int) (by decide)
  show Goes _ _ _ _ _ _ _ _ _ T (mkF m 3 #[.val (.ref a), .unset] [(.ref b35)])
  refine Goes.by (g' := (mkF m 4 #[.val (.ref a), .unset] [(.ref b35), (.ref b35)])) (fun _ q => XS.dup X.here X.hx rfl (hb hby d9_3) rfl rfl q) ?_
  have X_o := X
  refine X.callN rfl (hw _ (List.mem_of_getElem? (i := 74) rfl)) (hw _ (List.mem_of_getElem? (i := 75) rfl)) (hw _ (List.mem_of_getElem? (i := 73) rfl)) (hw _ (List.mem_of_getElem? (i := 76) rfl)) (by decide) pd_193421996 (argsL := []) rfl (rmSBI l Z a0 hw n0 h36 X.n0le b35 ga_b35 E_b35 F_b35_value F_b35_coder F_b35_count zc hzc S_C O_) (by rw [hml]; rfl) rfl (by decide) (leB rfl) (hb hby d9_4) (by decide) (by decide) (fun T h37 v X hQ => ?_)
  obtain ⟨rfl, K, va, gz, F_b35_value, F_b35_coder, F_b35_count, A_va⟩ := hQ
  have gz_va : h0.size ≤ va := Nat.le_trans K0.1 gz
  have ga_va : n0 ≤ va := Nat.le_trans X_o.n0le gz
  have ne_x_va : x ≠ va := Nat.ne_of_lt (Nat.lt_of_lt_of_le E_x.lt gz)
  have ne_a_va : a ≠ va := Nat.ne_of_lt (Nat.lt_of_lt_of_le E_a.lt gz)
  have ne_b35_va : b35 ≠ va := Nat.ne_of_lt (Nat.lt_of_lt_of_le E_b35.lt gz)
  have ne_tb_va : tb ≠ va := Nat.ne_of_lt (Nat.lt_of_lt_of_le A_tb.lt gz)
  have K0 := K0.trans K (allS (Or.inr gz_b35) all0)
  have O_ := O_.keep K (allS ga_b35 all0)
  have E_x := E_x.keep K
  have F_x_value := F_x_value.keep K (ninS ne_x_b35 nin0)
  have F_x_coder := F_x_coder.keep K (ninS ne_x_b35 nin0)
  have A_tb := PArr.keep A_tb K (ninS ne_tb_b35 nin0)
  have E_a := E_a.keep K
  have F_a_kind := F_a_kind.keep K (ninS ne_a_b35 nin0)
  have F_a_text := F_a_text.keep K (ninS ne_a_b35 nin0)
  have E_b35 := E_b35.keep K
  show Goes _ _ _ _ _ _ _ _ _ T (mkF m 7 #[.val (.ref a), .unset] [(.ref b35)])
  refine Goes.by (g' := (mkF m 8 #[.val (.ref a), .val (.ref b35)] [])) (fun _ q => XS.astoreN X.here X.hx rfl (hb hby d9_7) rfl rfl (l' := #[.val (.ref a), .val (.ref b35)]) rfl q) ?_
  refine Goes.by (g' := (mkF m 9 #[.val (.ref a), .val (.ref b35)] [(.ref a)])) (fun _ q => XS.aloadN X.here X.hx rfl (hb hby d9_8) rfl rfl q) ?_
  refine Goes.by (g' := (mkF m 10 #[.val (.ref a), .val (.ref b35)] [(.ref b35), (.ref a)])) (fun _ q => XS.aloadN X.here X.hx rfl (hb hby d9_9) rfl rfl q) ?_
  have X_o := X
  refine X.callV E_a (hw _ (List.mem_of_getElem? (i := 91) rfl)) (decl_of (hw _ (List.mem_of_getElem? (i := 92) rfl)) (hw _ (List.mem_of_getElem? (i := 94) rfl))) (sel_of (hw _ (List.mem_of_getElem? (i := 92) rfl)) (hw _ (List.mem_of_getElem? (i := 93) rfl)) (by decide) (hw _ (List.mem_of_getElem? (i := 9) rfl)) rfl) (hw _ (List.mem_of_getElem? (i := 9) rfl)) rfl (hw _ (List.mem_of_getElem? (i := 92) rfl)) (hw _ (List.mem_of_getElem? (i := 2) rfl)) (hw _ (List.mem_of_getElem? (i := 94) rfl)) (by decide) pd_591813651 (argsL := [(.ref b35)]) rfl (rmWri4 l Z a0 hw n0 h37 X.n0le x tb E_x F_x_value F_x_coder A_tb b35 va ga_b35 ga_va ne_b35_va E_b35 F_b35_value F_b35_coder F_b35_count A_va zc hzc S_C O_ a_BOOLEAN a_OBJECT S_OBJECT a_ARRAY S_ARRAY a_STRING S_STRING n_OBJECT n_ARRAY n_STRING a F_a_kind F_a_text) (by rw [hml]; rfl) rfl (by decide) (leB rfl) (hb hby d9_10) (by decide) (by decide) (fun T h38 v X hQ => ?_)
  obtain ⟨rfl, K, F_b35_value, F_b35_coder, F_b35_count, A_va⟩ := hQ
  have K0 := K0.trans K (allS (Or.inr gz_b35) (allS (Or.inr gz_va) all0))
  have O_ := O_.keep K (allS ga_b35 (allS ga_va all0))
  have E_a := E_a.keep K
  have F_a_kind := F_a_kind.keep K (ninS ne_a_b35 (ninS ne_a_va nin0))
  have F_a_text := F_a_text.keep K (ninS ne_a_b35 (ninS ne_a_va nin0))
  have E_b35 := E_b35.keep K
  show Goes _ _ _ _ _ _ _ _ _ T (mkF m 13 #[.val (.ref a), .val (.ref b35)] [])
  refine Goes.by (g' := (mkF m 14 #[.val (.ref a), .val (.ref b35)] [(.ref b35)])) (fun _ q => XS.aloadN X.here X.hx rfl (hb hby d9_13) rfl rfl q) ?_
  have X_o := X
  refine X.callV E_b35 (hw _ (List.mem_of_getElem? (i := 147) rfl)) (hw _ (List.mem_of_getElem? (i := 148) rfl)) (hw _ (List.mem_of_getElem? (i := 150) rfl)) (hw _ (List.mem_of_getElem? (i := 100) rfl)) rfl (hw _ (List.mem_of_getElem? (i := 149) rfl)) (hw _ (List.mem_of_getElem? (i := 73) rfl)) (hw _ (List.mem_of_getElem? (i := 151) rfl)) (by decide) pd_2047462102 (argsL := []) rfl (rmToS4 l Z a0 hw n0 h38 X.n0le b35 va ga_b35 ga_va ne_b35_va E_b35 F_b35_value F_b35_coder F_b35_count A_va zc hzc S_C O_) (by rw [hml]; rfl) rfl (by decide) (leB rfl) (hb hby d9_14) (by decide) (by decide) (fun T h39 v X hQ => ?_)
  obtain ⟨rr, rb, rfl, gzr, gzb, K, E_rr, F_rr_value, F_rr_coder, A_rb⟩ := hQ
  have gz_rr : h0.size ≤ rr := Nat.le_trans K0.1 gzr
  have ga_rr : n0 ≤ rr := Nat.le_trans X_o.n0le gzr
  have ne_a_rr : a ≠ rr := Nat.ne_of_lt (Nat.lt_of_lt_of_le E_a.lt gzr)
  have ne_b35_rr : b35 ≠ rr := Nat.ne_of_lt (Nat.lt_of_lt_of_le E_b35.lt gzr)
  have ne_va_rr : va ≠ rr := Nat.ne_of_lt (Nat.lt_of_lt_of_le A_va.lt gzr)
  have gz_rb : h0.size ≤ rb := Nat.le_trans K0.1 gzb
  have ga_rb : n0 ≤ rb := Nat.le_trans X_o.n0le gzb
  have ne_a_rb : a ≠ rb := Nat.ne_of_lt (Nat.lt_of_lt_of_le E_a.lt gzb)
  have ne_b35_rb : b35 ≠ rb := Nat.ne_of_lt (Nat.lt_of_lt_of_le E_b35.lt gzb)
  have ne_va_rb : va ≠ rb := Nat.ne_of_lt (Nat.lt_of_lt_of_le A_va.lt gzb)
  have K0 := K0.trans K all0
  have O_ := O_.keep K all0
  have E_a := E_a.keep K
  have F_a_kind := F_a_kind.keep K nin0
  have F_a_text := F_a_text.keep K nin0
  have E_b35 := E_b35.keep K
  have F_b35_value := F_b35_value.keep K nin0
  have F_b35_coder := F_b35_coder.keep K nin0
  have F_b35_count := F_b35_count.keep K nin0
  have A_va := PArr.keep A_va K nin0
  show Goes _ _ _ _ _ _ _ _ _ T (mkF m 17 #[.val (.ref a), .val (.ref b35)] [(.ref rr)])
  exact X.retA hret rfl rfl (hb hby d9_17) (by decide) (by decide) ⟨rr, rb, rfl, gz_rr, gz_rb, K0, E_rr, F_rr_value, F_rr_coder, A_rb⟩
set_option maxRecDepth 65536 in
set_option maxHeartbeats 40000000 in
theorem rmLEq4 (l : Launch) (Z : State) (a0 : Array Value) (hw : ∀ d ∈ allW, d.before a0 Z = true) (n0 : Nat) (h0 : Heap) (hn0 : n0 ≤ h0.size) (t1 t2 : Addr) (A_t1 : PArr Z h0 t1 .byte 4 (tv [116, 114, 117, 101])) (A_t2 : PArr Z h0 t2 .byte 4 (tv [116, 114, 117, 101])) :
    Met l Z n0 (⟨"java/lang/StringLatin1", "equals", "([B[B)Z"⟩ : MethodName) jdk_43_method_13_code 3 (Option.some .boolean) ({ frames := 0, cells := 0, slots := 0, locals := 0 } : Room) #[(.ref t1), (.ref t2)] h0 (fun (v : Option Value) (h' : Heap) => v = some (.int 1) ∧ h' = h0) := by
  refine metW (Q := fun (v : Option Value) (h' : Heap) => v = some (.int 1) ∧ h' = h0) pf_34 hn0 ?_
  intro p e s m below meth c T X hby hml hret hnm
  refine Goes.by (g' := (mkF m 0 #[.val (.ref t1), .val (.ref t2), .unset] [])) (fun _ q => castTop (by first | rfl | (simp [entryFrame, mkF, argsToLocals, Value.category]; done)) q) ?_
  refine Goes.by (g' := (mkF m 1 #[.val (.ref t1), .val (.ref t2), .unset] [(.ref t1)])) (fun _ q => XS.aloadN X.here X.hx rfl (hb hby d34_0) rfl rfl q) ?_
  refine X.alen A_t1 (z := (4 : Int32)) (by decide) (hb hby d34_1) ?_
  show Goes _ _ _ _ _ _ _ _ _ T (mkF m 2 #[.val (.ref t1), .val (.ref t2), .unset] [(.int (4 : Int32))])
  refine Goes.by (g' := (mkF m 3 #[.val (.ref t1), .val (.ref t2), .unset] [(.ref t2), (.int (4 : Int32))])) (fun _ q => XS.aloadN X.here X.hx rfl (hb hby d34_2) rfl rfl q) ?_
  refine X.alen A_t2 (z := (4 : Int32)) (by decide) (hb hby d34_3) ?_
  show Goes _ _ _ _ _ _ _ _ _ T (mkF m 4 #[.val (.ref t1), .val (.ref t2), .unset] [(.int (4 : Int32)), (.int (4 : Int32))])
  refine Goes.by (g' := (mkF m 7 #[.val (.ref t1), .val (.ref t2), .unset] [])) (fun _ q => XS.icmpNo X.here X.hx rfl (hb hby d34_4) rfl (teq (show (4 : Int32) = (4 : Int32) from (by decide))).2 q) ?_
  refine Goes.by (g' := (mkF m 8 #[.val (.ref t1), .val (.ref t2), .unset] [(.int (0 : Int32))])) (fun _ q => XS.iconst X.here X.hx rfl (hb hby d34_7) q) ?_
  refine Goes.by (g' := (mkF m 9 #[.val (.ref t1), .val (.ref t2), .val (.int (0 : Int32))] [])) (fun _ q => XS.istoreN X.here X.hx rfl (hb hby d34_8) rfl (l' := #[.val (.ref t1), .val (.ref t2), .val (.int (0 : Int32))]) rfl q) ?_
  refine Goes.by (g' := (mkF m 10 #[.val (.ref t1), .val (.ref t2), .val (.int (0 : Int32))] [(.int (0 : Int32))])) (fun _ q => XS.iloadN X.here X.hx rfl (hb hby d34_9) rfl q) ?_
  refine Goes.by (g' := (mkF m 11 #[.val (.ref t1), .val (.ref t2), .val (.int (0 : Int32))] [(.ref t1), (.int (0 : Int32))])) (fun _ q => XS.aloadN X.here X.hx rfl (hb hby d34_10) rfl rfl q) ?_
  refine X.alen A_t1 (z := (4 : Int32)) (by decide) (hb hby d34_11) ?_
  show Goes _ _ _ _ _ _ _ _ _ T (mkF m 12 #[.val (.ref t1), .val (.ref t2), .val (.int (0 : Int32))] [(.int (4 : Int32)), (.int (0 : Int32))])
  refine Goes.by (g' := (mkF m 15 #[.val (.ref t1), .val (.ref t2), .val (.int (0 : Int32))] [])) (fun _ q => XS.icmpNo X.here X.hx rfl (hb hby d34_12) rfl (tlt (show (0 : Int32) < (4 : Int32) from (by decide))).2.1 q) ?_
  refine Goes.by (g' := (mkF m 16 #[.val (.ref t1), .val (.ref t2), .val (.int (0 : Int32))] [(.ref t1)])) (fun _ q => XS.aloadN X.here X.hx rfl (hb hby d34_15) rfl rfl q) ?_
  refine Goes.by (g' := (mkF m 17 #[.val (.ref t1), .val (.ref t2), .val (.int (0 : Int32))] [(.int (0 : Int32)), (.ref t1)])) (fun _ q => XS.iloadN X.here X.hx rfl (hb hby d34_16) rfl q) ?_
  refine X.baloadB A_t1 (i := 0) (by decide) (by decide) (hb hby d34_17) ?_
  show Goes _ _ _ _ _ _ _ _ _ T (mkF m 18 #[.val (.ref t1), .val (.ref t2), .val (.int (0 : Int32))] [(.int (116 : Int32))])
  refine Goes.by (g' := (mkF m 19 #[.val (.ref t1), .val (.ref t2), .val (.int (0 : Int32))] [(.ref t2), (.int (116 : Int32))])) (fun _ q => XS.aloadN X.here X.hx rfl (hb hby d34_18) rfl rfl q) ?_
  refine Goes.by (g' := (mkF m 20 #[.val (.ref t1), .val (.ref t2), .val (.int (0 : Int32))] [(.int (0 : Int32)), (.ref t2), (.int (116 : Int32))])) (fun _ q => XS.iloadN X.here X.hx rfl (hb hby d34_19) rfl q) ?_
  refine X.baloadB A_t2 (i := 0) (by decide) (by decide) (hb hby d34_20) ?_
  show Goes _ _ _ _ _ _ _ _ _ T (mkF m 21 #[.val (.ref t1), .val (.ref t2), .val (.int (0 : Int32))] [(.int (116 : Int32)), (.int (116 : Int32))])
  refine Goes.by (g' := (mkF m 26 #[.val (.ref t1), .val (.ref t2), .val (.int (0 : Int32))] [])) (fun _ q => XS.icmpYes X.here X.hx rfl (pc0 := 21) (pc' := 26) rfl (hb hby d34_21) rfl (teq (show (116 : Int32) = (116 : Int32) from (by decide))).1 (by decide) (by decide) q) ?_
  refine Goes.by (g' := (mkF m 29 #[.val (.ref t1), .val (.ref t2), .val (.int (1 : Int32))] [])) (fun _ q => XS.iinc X.here X.hx rfl (hb hby d34_26) rfl (l' := #[.val (.ref t1), .val (.ref t2), .val (.int (1 : Int32))]) rfl q) ?_
  refine Goes.by (g' := (mkF m 9 #[.val (.ref t1), .val (.ref t2), .val (.int (1 : Int32))] [])) (fun _ q => XS.goto X.here X.hx rfl (pc0 := 29) (pc' := 9) rfl (hb hby d34_29) (by decide) (by decide) q) ?_
  refine Goes.by (g' := (mkF m 10 #[.val (.ref t1), .val (.ref t2), .val (.int (1 : Int32))] [(.int (1 : Int32))])) (fun _ q => XS.iloadN X.here X.hx rfl (hb hby d34_9) rfl q) ?_
  refine Goes.by (g' := (mkF m 11 #[.val (.ref t1), .val (.ref t2), .val (.int (1 : Int32))] [(.ref t1), (.int (1 : Int32))])) (fun _ q => XS.aloadN X.here X.hx rfl (hb hby d34_10) rfl rfl q) ?_
  refine X.alen A_t1 (z := (4 : Int32)) (by decide) (hb hby d34_11) ?_
  show Goes _ _ _ _ _ _ _ _ _ T (mkF m 12 #[.val (.ref t1), .val (.ref t2), .val (.int (1 : Int32))] [(.int (4 : Int32)), (.int (1 : Int32))])
  refine Goes.by (g' := (mkF m 15 #[.val (.ref t1), .val (.ref t2), .val (.int (1 : Int32))] [])) (fun _ q => XS.icmpNo X.here X.hx rfl (hb hby d34_12) rfl (tlt (show (1 : Int32) < (4 : Int32) from (by decide))).2.1 q) ?_
  refine Goes.by (g' := (mkF m 16 #[.val (.ref t1), .val (.ref t2), .val (.int (1 : Int32))] [(.ref t1)])) (fun _ q => XS.aloadN X.here X.hx rfl (hb hby d34_15) rfl rfl q) ?_
  refine Goes.by (g' := (mkF m 17 #[.val (.ref t1), .val (.ref t2), .val (.int (1 : Int32))] [(.int (1 : Int32)), (.ref t1)])) (fun _ q => XS.iloadN X.here X.hx rfl (hb hby d34_16) rfl q) ?_
  refine X.baloadB A_t1 (i := 1) (by decide) (by decide) (hb hby d34_17) ?_
  show Goes _ _ _ _ _ _ _ _ _ T (mkF m 18 #[.val (.ref t1), .val (.ref t2), .val (.int (1 : Int32))] [(.int (114 : Int32))])
  refine Goes.by (g' := (mkF m 19 #[.val (.ref t1), .val (.ref t2), .val (.int (1 : Int32))] [(.ref t2), (.int (114 : Int32))])) (fun _ q => XS.aloadN X.here X.hx rfl (hb hby d34_18) rfl rfl q) ?_
  refine Goes.by (g' := (mkF m 20 #[.val (.ref t1), .val (.ref t2), .val (.int (1 : Int32))] [(.int (1 : Int32)), (.ref t2), (.int (114 : Int32))])) (fun _ q => XS.iloadN X.here X.hx rfl (hb hby d34_19) rfl q) ?_
  refine X.baloadB A_t2 (i := 1) (by decide) (by decide) (hb hby d34_20) ?_
  show Goes _ _ _ _ _ _ _ _ _ T (mkF m 21 #[.val (.ref t1), .val (.ref t2), .val (.int (1 : Int32))] [(.int (114 : Int32)), (.int (114 : Int32))])
  refine Goes.by (g' := (mkF m 26 #[.val (.ref t1), .val (.ref t2), .val (.int (1 : Int32))] [])) (fun _ q => XS.icmpYes X.here X.hx rfl (pc0 := 21) (pc' := 26) rfl (hb hby d34_21) rfl (teq (show (114 : Int32) = (114 : Int32) from (by decide))).1 (by decide) (by decide) q) ?_
  refine Goes.by (g' := (mkF m 29 #[.val (.ref t1), .val (.ref t2), .val (.int (2 : Int32))] [])) (fun _ q => XS.iinc X.here X.hx rfl (hb hby d34_26) rfl (l' := #[.val (.ref t1), .val (.ref t2), .val (.int (2 : Int32))]) rfl q) ?_
  refine Goes.by (g' := (mkF m 9 #[.val (.ref t1), .val (.ref t2), .val (.int (2 : Int32))] [])) (fun _ q => XS.goto X.here X.hx rfl (pc0 := 29) (pc' := 9) rfl (hb hby d34_29) (by decide) (by decide) q) ?_
  refine Goes.by (g' := (mkF m 10 #[.val (.ref t1), .val (.ref t2), .val (.int (2 : Int32))] [(.int (2 : Int32))])) (fun _ q => XS.iloadN X.here X.hx rfl (hb hby d34_9) rfl q) ?_
  refine Goes.by (g' := (mkF m 11 #[.val (.ref t1), .val (.ref t2), .val (.int (2 : Int32))] [(.ref t1), (.int (2 : Int32))])) (fun _ q => XS.aloadN X.here X.hx rfl (hb hby d34_10) rfl rfl q) ?_
  refine X.alen A_t1 (z := (4 : Int32)) (by decide) (hb hby d34_11) ?_
  show Goes _ _ _ _ _ _ _ _ _ T (mkF m 12 #[.val (.ref t1), .val (.ref t2), .val (.int (2 : Int32))] [(.int (4 : Int32)), (.int (2 : Int32))])
  refine Goes.by (g' := (mkF m 15 #[.val (.ref t1), .val (.ref t2), .val (.int (2 : Int32))] [])) (fun _ q => XS.icmpNo X.here X.hx rfl (hb hby d34_12) rfl (tlt (show (2 : Int32) < (4 : Int32) from (by decide))).2.1 q) ?_
  refine Goes.by (g' := (mkF m 16 #[.val (.ref t1), .val (.ref t2), .val (.int (2 : Int32))] [(.ref t1)])) (fun _ q => XS.aloadN X.here X.hx rfl (hb hby d34_15) rfl rfl q) ?_
  refine Goes.by (g' := (mkF m 17 #[.val (.ref t1), .val (.ref t2), .val (.int (2 : Int32))] [(.int (2 : Int32)), (.ref t1)])) (fun _ q => XS.iloadN X.here X.hx rfl (hb hby d34_16) rfl q) ?_
  refine X.baloadB A_t1 (i := 2) (by decide) (by decide) (hb hby d34_17) ?_
  show Goes _ _ _ _ _ _ _ _ _ T (mkF m 18 #[.val (.ref t1), .val (.ref t2), .val (.int (2 : Int32))] [(.int (117 : Int32))])
  refine Goes.by (g' := (mkF m 19 #[.val (.ref t1), .val (.ref t2), .val (.int (2 : Int32))] [(.ref t2), (.int (117 : Int32))])) (fun _ q => XS.aloadN X.here X.hx rfl (hb hby d34_18) rfl rfl q) ?_
  refine Goes.by (g' := (mkF m 20 #[.val (.ref t1), .val (.ref t2), .val (.int (2 : Int32))] [(.int (2 : Int32)), (.ref t2), (.int (117 : Int32))])) (fun _ q => XS.iloadN X.here X.hx rfl (hb hby d34_19) rfl q) ?_
  refine X.baloadB A_t2 (i := 2) (by decide) (by decide) (hb hby d34_20) ?_
  show Goes _ _ _ _ _ _ _ _ _ T (mkF m 21 #[.val (.ref t1), .val (.ref t2), .val (.int (2 : Int32))] [(.int (117 : Int32)), (.int (117 : Int32))])
  refine Goes.by (g' := (mkF m 26 #[.val (.ref t1), .val (.ref t2), .val (.int (2 : Int32))] [])) (fun _ q => XS.icmpYes X.here X.hx rfl (pc0 := 21) (pc' := 26) rfl (hb hby d34_21) rfl (teq (show (117 : Int32) = (117 : Int32) from (by decide))).1 (by decide) (by decide) q) ?_
  refine Goes.by (g' := (mkF m 29 #[.val (.ref t1), .val (.ref t2), .val (.int (3 : Int32))] [])) (fun _ q => XS.iinc X.here X.hx rfl (hb hby d34_26) rfl (l' := #[.val (.ref t1), .val (.ref t2), .val (.int (3 : Int32))]) rfl q) ?_
  refine Goes.by (g' := (mkF m 9 #[.val (.ref t1), .val (.ref t2), .val (.int (3 : Int32))] [])) (fun _ q => XS.goto X.here X.hx rfl (pc0 := 29) (pc' := 9) rfl (hb hby d34_29) (by decide) (by decide) q) ?_
  refine Goes.by (g' := (mkF m 10 #[.val (.ref t1), .val (.ref t2), .val (.int (3 : Int32))] [(.int (3 : Int32))])) (fun _ q => XS.iloadN X.here X.hx rfl (hb hby d34_9) rfl q) ?_
  refine Goes.by (g' := (mkF m 11 #[.val (.ref t1), .val (.ref t2), .val (.int (3 : Int32))] [(.ref t1), (.int (3 : Int32))])) (fun _ q => XS.aloadN X.here X.hx rfl (hb hby d34_10) rfl rfl q) ?_
  refine X.alen A_t1 (z := (4 : Int32)) (by decide) (hb hby d34_11) ?_
  show Goes _ _ _ _ _ _ _ _ _ T (mkF m 12 #[.val (.ref t1), .val (.ref t2), .val (.int (3 : Int32))] [(.int (4 : Int32)), (.int (3 : Int32))])
  refine Goes.by (g' := (mkF m 15 #[.val (.ref t1), .val (.ref t2), .val (.int (3 : Int32))] [])) (fun _ q => XS.icmpNo X.here X.hx rfl (hb hby d34_12) rfl (tlt (show (3 : Int32) < (4 : Int32) from (by decide))).2.1 q) ?_
  refine Goes.by (g' := (mkF m 16 #[.val (.ref t1), .val (.ref t2), .val (.int (3 : Int32))] [(.ref t1)])) (fun _ q => XS.aloadN X.here X.hx rfl (hb hby d34_15) rfl rfl q) ?_
  refine Goes.by (g' := (mkF m 17 #[.val (.ref t1), .val (.ref t2), .val (.int (3 : Int32))] [(.int (3 : Int32)), (.ref t1)])) (fun _ q => XS.iloadN X.here X.hx rfl (hb hby d34_16) rfl q) ?_
  refine X.baloadB A_t1 (i := 3) (by decide) (by decide) (hb hby d34_17) ?_
  show Goes _ _ _ _ _ _ _ _ _ T (mkF m 18 #[.val (.ref t1), .val (.ref t2), .val (.int (3 : Int32))] [(.int (101 : Int32))])
  refine Goes.by (g' := (mkF m 19 #[.val (.ref t1), .val (.ref t2), .val (.int (3 : Int32))] [(.ref t2), (.int (101 : Int32))])) (fun _ q => XS.aloadN X.here X.hx rfl (hb hby d34_18) rfl rfl q) ?_
  refine Goes.by (g' := (mkF m 20 #[.val (.ref t1), .val (.ref t2), .val (.int (3 : Int32))] [(.int (3 : Int32)), (.ref t2), (.int (101 : Int32))])) (fun _ q => XS.iloadN X.here X.hx rfl (hb hby d34_19) rfl q) ?_
  refine X.baloadB A_t2 (i := 3) (by decide) (by decide) (hb hby d34_20) ?_
  show Goes _ _ _ _ _ _ _ _ _ T (mkF m 21 #[.val (.ref t1), .val (.ref t2), .val (.int (3 : Int32))] [(.int (101 : Int32)), (.int (101 : Int32))])
  refine Goes.by (g' := (mkF m 26 #[.val (.ref t1), .val (.ref t2), .val (.int (3 : Int32))] [])) (fun _ q => XS.icmpYes X.here X.hx rfl (pc0 := 21) (pc' := 26) rfl (hb hby d34_21) rfl (teq (show (101 : Int32) = (101 : Int32) from (by decide))).1 (by decide) (by decide) q) ?_
  refine Goes.by (g' := (mkF m 29 #[.val (.ref t1), .val (.ref t2), .val (.int (4 : Int32))] [])) (fun _ q => XS.iinc X.here X.hx rfl (hb hby d34_26) rfl (l' := #[.val (.ref t1), .val (.ref t2), .val (.int (4 : Int32))]) rfl q) ?_
  refine Goes.by (g' := (mkF m 9 #[.val (.ref t1), .val (.ref t2), .val (.int (4 : Int32))] [])) (fun _ q => XS.goto X.here X.hx rfl (pc0 := 29) (pc' := 9) rfl (hb hby d34_29) (by decide) (by decide) q) ?_
  refine Goes.by (g' := (mkF m 10 #[.val (.ref t1), .val (.ref t2), .val (.int (4 : Int32))] [(.int (4 : Int32))])) (fun _ q => XS.iloadN X.here X.hx rfl (hb hby d34_9) rfl q) ?_
  refine Goes.by (g' := (mkF m 11 #[.val (.ref t1), .val (.ref t2), .val (.int (4 : Int32))] [(.ref t1), (.int (4 : Int32))])) (fun _ q => XS.aloadN X.here X.hx rfl (hb hby d34_10) rfl rfl q) ?_
  refine X.alen A_t1 (z := (4 : Int32)) (by decide) (hb hby d34_11) ?_
  show Goes _ _ _ _ _ _ _ _ _ T (mkF m 12 #[.val (.ref t1), .val (.ref t2), .val (.int (4 : Int32))] [(.int (4 : Int32)), (.int (4 : Int32))])
  refine Goes.by (g' := (mkF m 32 #[.val (.ref t1), .val (.ref t2), .val (.int (4 : Int32))] [])) (fun _ q => XS.icmpYes X.here X.hx rfl (pc0 := 12) (pc' := 32) rfl (hb hby d34_12) rfl (flt (show ¬ (4 : Int32) < (4 : Int32) from (by decide))).2.1 (by decide) (by decide) q) ?_
  refine Goes.by (g' := (mkF m 33 #[.val (.ref t1), .val (.ref t2), .val (.int (4 : Int32))] [(.int (1 : Int32))])) (fun _ q => XS.iconst X.here X.hx rfl (hb hby d34_32) q) ?_
  exact X.retZ hret (hb hby d34_33) (by decide) (by decide) ⟨rfl, rfl⟩
set_option maxRecDepth 65536 in
set_option maxHeartbeats 40000000 in
theorem rmEq4 (l : Launch) (Z : State) (a0 : Array Value) (hw : ∀ d ∈ allW, d.before a0 Z = true) (n0 : Nat) (h0 : Heap) (hn0 : n0 ≤ h0.size) (x tb : Addr) (E_x : Exa Z h0 x "java/lang/String") (F_x_value : Fld Z h0 x "java/lang/String" "value" "[B" (.ref tb)) (F_x_coder : Fld Z h0 x "java/lang/String" "coder" "B" (.int 0)) (A_tb : PArr Z h0 tb .byte 4 (tv [116, 114, 117, 101])) (u ub : Addr) (E_u : Exa Z h0 u "java/lang/String") (F_u_value : Fld Z h0 u "java/lang/String" "value" "[B" (.ref ub)) (F_u_coder : Fld Z h0 u "java/lang/String" "coder" "B" (.int 0)) (A_ub : PArr Z h0 ub .byte 4 (tv [116, 114, 117, 101])) (ne_x_u : x ≠ u) (zc : Int32) (hzc : ¬ zc = 0) (S_C : Sta Z Z.heap "java/lang/String" "COMPACT_STRINGS" "Z" (.int zc)) (O_ : Old Z n0 h0) :
    Met l Z n0 (⟨"java/lang/String", "equals", "(Ljava/lang/Object;)Z"⟩ : MethodName) jdk_42_method_66_code 3 (Option.some .boolean) ({ frames := 1, cells := 0, slots := 0, locals := 14 } : Room) #[(.ref x), (.ref u)] h0 (fun (v : Option Value) (h' : Heap) => v = some (.int 1) ∧ h' = h0) := by
  refine metW (Q := fun (v : Option Value) (h' : Heap) => v = some (.int 1) ∧ h' = h0) pf_33 hn0 ?_
  intro p e s m below meth c T X hby hml hret hnm
  refine Goes.by (g' := (mkF m 0 #[.val (.ref x), .val (.ref u), .unset] [])) (fun _ q => castTop (by first | rfl | (simp [entryFrame, mkF, argsToLocals, Value.category]; done)) q) ?_
  refine Goes.by (g' := (mkF m 1 #[.val (.ref x), .val (.ref u), .unset] [(.ref x)])) (fun _ q => XS.aloadN X.here X.hx rfl (hb hby d33_0) rfl rfl q) ?_
  refine Goes.by (g' := (mkF m 2 #[.val (.ref x), .val (.ref u), .unset] [(.ref u), (.ref x)])) (fun _ q => XS.aloadN X.here X.hx rfl (hb hby d33_1) rfl rfl q) ?_
  refine X.acmp rfl rfl (cd := .ne) (x := (.ref x)) (y := (.ref u)) (same := false) (pc' := 7) (hb hby d33_2) (decide_eq_false fun q => ne_x_u (Value.ref.inj q)) (by decide) (by decide) ?_
  show Goes _ _ _ _ _ _ _ _ _ T (mkF m 7 #[.val (.ref x), .val (.ref u), .unset] [])
  refine Goes.by (g' := (mkF m 8 #[.val (.ref x), .val (.ref u), .unset] [(.ref u)])) (fun _ q => XS.aloadN X.here X.hx rfl (hb hby d33_7) rfl rfl q) ?_
  refine X.instY (hw _ (List.mem_of_getElem? (i := 199) rfl)) (Ins.self E_u) (hb hby d33_8) (fun T X => ?_)
  show Goes _ _ _ _ _ _ _ _ _ T (mkF m 11 #[.val (.ref x), .val (.ref u), .unset] [(.int (1 : Int32))])
  refine Goes.by (g' := (mkF m 14 #[.val (.ref x), .val (.ref u), .unset] [])) (fun _ q => XS.ifNo X.here X.hx rfl (hb hby d33_11) rfl ((if0 _ _).trans (feq (show ¬ (1 : Int32) = (0 : Int32) from (by decide))).1) q) ?_
  refine Goes.by (g' := (mkF m 15 #[.val (.ref x), .val (.ref u), .unset] [(.ref u)])) (fun _ q => XS.aloadN X.here X.hx rfl (hb hby d33_14) rfl rfl q) ?_
  refine X.castY (hw _ (List.mem_of_getElem? (i := 199) rfl)) (Ins.self E_u) (hb hby d33_15) (fun T X => ?_)
  show Goes _ _ _ _ _ _ _ _ _ T (mkF m 18 #[.val (.ref x), .val (.ref u), .unset] [(.ref u)])
  refine Goes.by (g' := (mkF m 19 #[.val (.ref x), .val (.ref u), .val (.ref u)] [])) (fun _ q => XS.astoreN X.here X.hx rfl (hb hby d33_18) rfl rfl (l' := #[.val (.ref x), .val (.ref u), .val (.ref u)]) rfl q) ?_
  refine X.getS (Or.inl (hw _ (List.mem_of_getElem? (i := 118) rfl))) (host := "") Via.refl (S_C.ext O_.2) (hb hby d33_19) (fun T X => ?_)
  show Goes _ _ _ _ _ _ _ _ _ T (mkF m 22 #[.val (.ref x), .val (.ref u), .val (.ref u)] [(.int zc)])
  refine Goes.by (g' := (mkF m 25 #[.val (.ref x), .val (.ref u), .val (.ref u)] [])) (fun _ q => XS.ifNo X.here X.hx rfl (hb hby d33_22) rfl ((if0 _ _).trans (feq (show ¬ zc = (0 : Int32) from hzc)).1) q) ?_
  refine Goes.by (g' := (mkF m 26 #[.val (.ref x), .val (.ref u), .val (.ref u)] [(.ref x)])) (fun _ q => XS.aloadN X.here X.hx rfl (hb hby d33_25) rfl rfl q) ?_
  refine X.getF (host := "") (Or.inl (hw _ (List.mem_of_getElem? (i := 119) rfl))) Via.refl F_x_coder (hb hby d33_26) (fun T X => ?_)
  show Goes _ _ _ _ _ _ _ _ _ T (mkF m 29 #[.val (.ref x), .val (.ref u), .val (.ref u)] [(.int (0 : Int32))])
  refine Goes.by (g' := (mkF m 30 #[.val (.ref x), .val (.ref u), .val (.ref u)] [(.ref u), (.int (0 : Int32))])) (fun _ q => XS.aloadN X.here X.hx rfl (hb hby d33_29) rfl rfl q) ?_
  refine X.getF (host := "") (Or.inl (hw _ (List.mem_of_getElem? (i := 119) rfl))) Via.refl F_u_coder (hb hby d33_30) (fun T X => ?_)
  show Goes _ _ _ _ _ _ _ _ _ T (mkF m 33 #[.val (.ref x), .val (.ref u), .val (.ref u)] [(.int (0 : Int32)), (.int (0 : Int32))])
  refine Goes.by (g' := (mkF m 36 #[.val (.ref x), .val (.ref u), .val (.ref u)] [])) (fun _ q => XS.icmpNo X.here X.hx rfl (hb hby d33_33) rfl (teq (show (0 : Int32) = (0 : Int32) from (by decide))).2 q) ?_
  refine Goes.by (g' := (mkF m 37 #[.val (.ref x), .val (.ref u), .val (.ref u)] [(.ref x)])) (fun _ q => XS.aloadN X.here X.hx rfl (hb hby d33_36) rfl rfl q) ?_
  refine X.getF (host := "") (Or.inl (hw _ (List.mem_of_getElem? (i := 112) rfl))) Via.refl F_x_value (hb hby d33_37) (fun T X => ?_)
  show Goes _ _ _ _ _ _ _ _ _ T (mkF m 40 #[.val (.ref x), .val (.ref u), .val (.ref u)] [(.ref tb)])
  refine Goes.by (g' := (mkF m 41 #[.val (.ref x), .val (.ref u), .val (.ref u)] [(.ref u), (.ref tb)])) (fun _ q => XS.aloadN X.here X.hx rfl (hb hby d33_40) rfl rfl q) ?_
  refine X.getF (host := "") (Or.inl (hw _ (List.mem_of_getElem? (i := 112) rfl))) Via.refl F_u_value (hb hby d33_41) (fun T X => ?_)
  show Goes _ _ _ _ _ _ _ _ _ T (mkF m 44 #[.val (.ref x), .val (.ref u), .val (.ref u)] [(.ref ub), (.ref tb)])
  have X_o := X
  refine X.callS (hw _ (List.mem_of_getElem? (i := 200) rfl)) (hw _ (List.mem_of_getElem? (i := 201) rfl)) (hw _ (List.mem_of_getElem? (i := 202) rfl)) (hw _ (List.mem_of_getElem? (i := 203) rfl)) (by decide) pd_3824935658 (argsL := [(.ref tb), (.ref ub)]) rfl (rmLEq4 l Z a0 hw n0 h0 X.n0le tb ub A_tb A_ub) (by rw [hml]; rfl) rfl (by decide) (leB rfl) (hb hby d33_44) (by decide) (by decide) (fun T h40 v X hQ => ?_)
  obtain ⟨rfl, hh⟩ := hQ
  rw [hh] at X
  clear hh
  show Goes _ _ _ _ _ _ _ _ _ T (mkF m 47 #[.val (.ref x), .val (.ref u), .val (.ref u)] [(.int (1 : Int32))])
  refine Goes.by (g' := (mkF m 50 #[.val (.ref x), .val (.ref u), .val (.ref u)] [])) (fun _ q => XS.ifNo X.here X.hx rfl (hb hby d33_47) rfl ((if0 _ _).trans (feq (show ¬ (1 : Int32) = (0 : Int32) from (by decide))).1) q) ?_
  refine Goes.by (g' := (mkF m 51 #[.val (.ref x), .val (.ref u), .val (.ref u)] [(.int (1 : Int32))])) (fun _ q => XS.iconst X.here X.hx rfl (hb hby d33_50) q) ?_
  refine Goes.by (g' := (mkF m 55 #[.val (.ref x), .val (.ref u), .val (.ref u)] [(.int (1 : Int32))])) (fun _ q => XS.goto X.here X.hx rfl (pc0 := 51) (pc' := 55) rfl (hb hby d33_51) (by decide) (by decide) q) ?_
  exact X.retZ hret (hb hby d33_55) (by decide) (by decide) ⟨rfl, rfl⟩
set_option maxRecDepth 65536 in
set_option maxHeartbeats 40000000 in
theorem rmLen5 (l : Launch) (Z : State) (a0 : Array Value) (hw : ∀ d ∈ allW, d.before a0 Z = true) (n0 : Nat) (h0 : Heap) (hn0 : n0 ≤ h0.size) (x tb : Addr) (E_x : Exa Z h0 x "java/lang/String") (F_x_value : Fld Z h0 x "java/lang/String" "value" "[B" (.ref tb)) (F_x_coder : Fld Z h0 x "java/lang/String" "coder" "B" (.int 0)) (A_tb : PArr Z h0 tb .byte 5 (tv [102, 97, 108, 115, 101])) (zc : Int32) (hzc : ¬ zc = 0) (S_C : Sta Z Z.heap "java/lang/String" "COMPACT_STRINGS" "Z" (.int zc)) (O_ : Old Z n0 h0) :
    Met l Z n0 (⟨"java/lang/String", "length", "()I"⟩ : MethodName) jdk_42_method_54_code 1 (Option.some .int) ({ frames := 1, cells := 0, slots := 0, locals := 13 } : Room) #[(.ref x)] h0 (fun (v : Option Value) (h' : Heap) => v = some (.int 5) ∧ h' = h0) := by
  refine metW (Q := fun (v : Option Value) (h' : Heap) => v = some (.int 5) ∧ h' = h0) pf_16 hn0 ?_
  intro p e s m below meth c T X hby hml hret hnm
  refine Goes.by (g' := (mkF m 0 #[.val (.ref x)] [])) (fun _ q => castTop (by first | rfl | (simp [entryFrame, mkF, argsToLocals, Value.category]; done)) q) ?_
  refine Goes.by (g' := (mkF m 1 #[.val (.ref x)] [(.ref x)])) (fun _ q => XS.aloadN X.here X.hx rfl (hb hby d16_0) rfl rfl q) ?_
  refine X.getF (host := "") (Or.inl (hw _ (List.mem_of_getElem? (i := 112) rfl))) Via.refl F_x_value (hb hby d16_1) (fun T X => ?_)
  show Goes _ _ _ _ _ _ _ _ _ T (mkF m 4 #[.val (.ref x)] [(.ref tb)])
  refine X.alen A_tb (z := (5 : Int32)) (by decide) (hb hby d16_4) ?_
  show Goes _ _ _ _ _ _ _ _ _ T (mkF m 5 #[.val (.ref x)] [(.int (5 : Int32))])
  refine Goes.by (g' := (mkF m 6 #[.val (.ref x)] [(.ref x), (.int (5 : Int32))])) (fun _ q => XS.aloadN X.here X.hx rfl (hb hby d16_5) rfl rfl q) ?_
  have X_o := X
  refine X.callV E_x (hw _ (List.mem_of_getElem? (i := 113) rfl)) (hw _ (List.mem_of_getElem? (i := 114) rfl)) (hw _ (List.mem_of_getElem? (i := 116) rfl)) (hw _ (List.mem_of_getElem? (i := 110) rfl)) rfl (hw _ (List.mem_of_getElem? (i := 115) rfl)) (hw _ (List.mem_of_getElem? (i := 59) rfl)) (hw _ (List.mem_of_getElem? (i := 117) rfl)) (by decide) pd_193421976 (argsL := []) rfl (rmCod l Z a0 hw n0 h0 X.n0le x F_x_coder zc hzc S_C O_) (by rw [hml]; rfl) rfl (by decide) (leB rfl) (hb hby d16_6) (by decide) (by decide) (fun T h41 v X hQ => ?_)
  obtain ⟨rfl, hh⟩ := hQ
  rw [hh] at X
  clear hh
  show Goes _ _ _ _ _ _ _ _ _ T (mkF m 9 #[.val (.ref x)] [(.int (0 : Int32)), (.int (5 : Int32))])
  refine Goes.by (g' := (mkF m 10 #[.val (.ref x)] [(.int (5 : Int32))])) (fun _ q => XS.ishr X.here X.hx rfl (hb hby d16_9) rfl q) ?_
  exact X.retI hret (hb hby d16_10) (by decide) (by decide) ⟨rfl, rfl⟩
set_option maxRecDepth 65536 in
set_option maxHeartbeats 40000000 in
theorem rmEns5 (l : Launch) (Z : State) (a0 : Array Value) (hw : ∀ d ∈ allW, d.before a0 Z = true) (n0 : Nat) (h0 : Heap) (hn0 : n0 ≤ h0.size) (b va : Addr) (F_b_value : Fld Z h0 b "java/lang/AbstractStringBuilder" "value" "[B" (.ref va)) (F_b_coder : Fld Z h0 b "java/lang/AbstractStringBuilder" "coder" "B" (.int 0)) (A_va : PArr Z h0 va .byte 16 (fun _ => .int 0)) :
    Met l Z n0 (⟨"java/lang/AbstractStringBuilder", "ensureCapacityInternal", "(I)V"⟩ : MethodName) jdk_68_method_9_code 3 (Option.none : Option FieldType) ({ frames := 0, cells := 0, slots := 0, locals := 0 } : Room) #[(.ref b), (.int (5 : Int32))] h0 (fun (v : Option Value) (h' : Heap) => v = none ∧ h' = h0) := by
  refine metW (Q := fun (v : Option Value) (h' : Heap) => v = none ∧ h' = h0) pf_18 hn0 ?_
  intro p e s m below meth c T X hby hml hret hnm
  refine Goes.by (g' := (mkF m 0 #[.val (.ref b), .val (.int (5 : Int32)), .unset] [])) (fun _ q => castTop (by first | rfl | (simp [entryFrame, mkF, argsToLocals, Value.category]; done)) q) ?_
  refine Goes.by (g' := (mkF m 1 #[.val (.ref b), .val (.int (5 : Int32)), .unset] [(.ref b)])) (fun _ q => XS.aloadN X.here X.hx rfl (hb hby d18_0) rfl rfl q) ?_
  refine X.getF (host := "") (Or.inl (hw _ (List.mem_of_getElem? (i := 87) rfl))) Via.refl F_b_value (hb hby d18_1) (fun T X => ?_)
  show Goes _ _ _ _ _ _ _ _ _ T (mkF m 4 #[.val (.ref b), .val (.int (5 : Int32)), .unset] [(.ref va)])
  refine X.alen A_va (z := (16 : Int32)) (by decide) (hb hby d18_4) ?_
  show Goes _ _ _ _ _ _ _ _ _ T (mkF m 5 #[.val (.ref b), .val (.int (5 : Int32)), .unset] [(.int (16 : Int32))])
  refine Goes.by (g' := (mkF m 6 #[.val (.ref b), .val (.int (5 : Int32)), .unset] [(.ref b), (.int (16 : Int32))])) (fun _ q => XS.aloadN X.here X.hx rfl (hb hby d18_5) rfl rfl q) ?_
  refine X.getF (host := "") (Or.inl (hw _ (List.mem_of_getElem? (i := 89) rfl))) Via.refl F_b_coder (hb hby d18_6) (fun T X => ?_)
  show Goes _ _ _ _ _ _ _ _ _ T (mkF m 9 #[.val (.ref b), .val (.int (5 : Int32)), .unset] [(.int (0 : Int32)), (.int (16 : Int32))])
  refine Goes.by (g' := (mkF m 10 #[.val (.ref b), .val (.int (5 : Int32)), .unset] [(.int (16 : Int32))])) (fun _ q => XS.ishr X.here X.hx rfl (hb hby d18_9) rfl q) ?_
  refine Goes.by (g' := (mkF m 11 #[.val (.ref b), .val (.int (5 : Int32)), .val (.int (16 : Int32))] [])) (fun _ q => XS.istoreN X.here X.hx rfl (hb hby d18_10) rfl (l' := #[.val (.ref b), .val (.int (5 : Int32)), .val (.int (16 : Int32))]) rfl q) ?_
  refine Goes.by (g' := (mkF m 12 #[.val (.ref b), .val (.int (5 : Int32)), .val (.int (16 : Int32))] [(.int (5 : Int32))])) (fun _ q => XS.iloadN X.here X.hx rfl (hb hby d18_11) rfl q) ?_
  refine Goes.by (g' := (mkF m 13 #[.val (.ref b), .val (.int (5 : Int32)), .val (.int (16 : Int32))] [(.int (16 : Int32)), (.int (5 : Int32))])) (fun _ q => XS.iloadN X.here X.hx rfl (hb hby d18_12) rfl q) ?_
  refine Goes.by (g' := (mkF m 14 #[.val (.ref b), .val (.int (5 : Int32)), .val (.int (16 : Int32))] [(.int (-11 : Int32))])) (fun _ q => XS.isub X.here X.hx rfl (hb hby d18_13) rfl q) ?_
  refine Goes.by (g' := (mkF m 38 #[.val (.ref b), .val (.int (5 : Int32)), .val (.int (16 : Int32))] [])) (fun _ q => XS.ifYes X.here X.hx rfl (pc0 := 14) (pc' := 38) rfl (hb hby d18_14) rfl ((if0 _ _).trans (flt (show ¬ (0 : Int32) < (-11 : Int32) from (by decide))).2.2.2) (by decide) (by decide) q) ?_
  exact X.retV hret (hb hby d18_38) (by decide) (by decide) ⟨rfl, rfl⟩
set_option maxRecDepth 65536 in
set_option maxHeartbeats 40000000 in
theorem rmGet5 (l : Launch) (Z : State) (a0 : Array Value) (hw : ∀ d ∈ allW, d.before a0 Z = true) (n0 : Nat) (h0 : Heap) (hn0 : n0 ≤ h0.size) (x tb : Addr) (E_x : Exa Z h0 x "java/lang/String") (F_x_value : Fld Z h0 x "java/lang/String" "value" "[B" (.ref tb)) (F_x_coder : Fld Z h0 x "java/lang/String" "coder" "B" (.int 0)) (A_tb : PArr Z h0 tb .byte 5 (tv [102, 97, 108, 115, 101])) (va : Addr) (ga_va : n0 ≤ va) (A_va : PArr Z h0 va .byte 16 (fun _ => .int 0)) (zc : Int32) (hzc : ¬ zc = 0) (S_C : Sta Z Z.heap "java/lang/String" "COMPACT_STRINGS" "Z" (.int zc)) (O_ : Old Z n0 h0) :
    Met l Z n0 (⟨"java/lang/String", "getBytes", "([BIB)V"⟩ : MethodName) jdk_42_method_147_code 4 (Option.none : Option FieldType) ({ frames := 1, cells := 0, slots := 0, locals := 18 } : Room) #[(.ref x), (.ref va), (.int (0 : Int32)), (.int (0 : Int32))] h0 (fun (v : Option Value) (h' : Heap) => v = none ∧ Keep h0 h' [va] ∧ PArr Z h' va .byte 16 (fun i => if i < 5 then (tv [102, 97, 108, 115, 101]) i else .int 0)) := by
  refine metW (Q := fun (v : Option Value) (h' : Heap) => v = none ∧ Keep h0 h' [va] ∧ PArr Z h' va .byte 16 (fun i => if i < 5 then (tv [102, 97, 108, 115, 101]) i else .int 0)) pf_21 hn0 ?_
  intro p e s m below meth c T X hby hml hret hnm
  refine Goes.by (g' := (mkF m 0 #[.val (.ref x), .val (.ref va), .val (.int (0 : Int32)), .val (.int (0 : Int32))] [])) (fun _ q => castTop (by first | rfl | (simp [entryFrame, mkF, argsToLocals, Value.category]; done)) q) ?_
  have K0 := Keep.refl h0 [va]
  refine Goes.by (g' := (mkF m 1 #[.val (.ref x), .val (.ref va), .val (.int (0 : Int32)), .val (.int (0 : Int32))] [(.ref x)])) (fun _ q => XS.aloadN X.here X.hx rfl (hb hby d21_0) rfl rfl q) ?_
  have X_o := X
  refine X.callV E_x (hw _ (List.mem_of_getElem? (i := 113) rfl)) (hw _ (List.mem_of_getElem? (i := 114) rfl)) (hw _ (List.mem_of_getElem? (i := 116) rfl)) (hw _ (List.mem_of_getElem? (i := 110) rfl)) rfl (hw _ (List.mem_of_getElem? (i := 115) rfl)) (hw _ (List.mem_of_getElem? (i := 59) rfl)) (hw _ (List.mem_of_getElem? (i := 117) rfl)) (by decide) pd_193421976 (argsL := []) rfl (rmCod l Z a0 hw n0 h0 X.n0le x F_x_coder zc hzc S_C O_) (by rw [hml]; rfl) rfl (by decide) (leB rfl) (hb hby d21_1) (by decide) (by decide) (fun T h42 v X hQ => ?_)
  obtain ⟨rfl, hh⟩ := hQ
  rw [hh] at X
  clear hh
  show Goes _ _ _ _ _ _ _ _ _ T (mkF m 4 #[.val (.ref x), .val (.ref va), .val (.int (0 : Int32)), .val (.int (0 : Int32))] [(.int (0 : Int32))])
  refine Goes.by (g' := (mkF m 5 #[.val (.ref x), .val (.ref va), .val (.int (0 : Int32)), .val (.int (0 : Int32))] [(.int (0 : Int32)), (.int (0 : Int32))])) (fun _ q => XS.iloadN X.here X.hx rfl (hb hby d21_4) rfl q) ?_
  refine Goes.by (g' := (mkF m 8 #[.val (.ref x), .val (.ref va), .val (.int (0 : Int32)), .val (.int (0 : Int32))] [])) (fun _ q => XS.icmpNo X.here X.hx rfl (hb hby d21_5) rfl (teq (show (0 : Int32) = (0 : Int32) from (by decide))).2 q) ?_
  refine Goes.by (g' := (mkF m 9 #[.val (.ref x), .val (.ref va), .val (.int (0 : Int32)), .val (.int (0 : Int32))] [(.ref x)])) (fun _ q => XS.aloadN X.here X.hx rfl (hb hby d21_8) rfl rfl q) ?_
  refine X.getF (host := "") (Or.inl (hw _ (List.mem_of_getElem? (i := 112) rfl))) Via.refl F_x_value (hb hby d21_9) (fun T X => ?_)
  show Goes _ _ _ _ _ _ _ _ _ T (mkF m 12 #[.val (.ref x), .val (.ref va), .val (.int (0 : Int32)), .val (.int (0 : Int32))] [(.ref tb)])
  refine Goes.by (g' := (mkF m 13 #[.val (.ref x), .val (.ref va), .val (.int (0 : Int32)), .val (.int (0 : Int32))] [(.int (0 : Int32)), (.ref tb)])) (fun _ q => XS.iconst X.here X.hx rfl (hb hby d21_12) q) ?_
  refine Goes.by (g' := (mkF m 14 #[.val (.ref x), .val (.ref va), .val (.int (0 : Int32)), .val (.int (0 : Int32))] [(.ref va), (.int (0 : Int32)), (.ref tb)])) (fun _ q => XS.aloadN X.here X.hx rfl (hb hby d21_13) rfl rfl q) ?_
  refine Goes.by (g' := (mkF m 15 #[.val (.ref x), .val (.ref va), .val (.int (0 : Int32)), .val (.int (0 : Int32))] [(.int (0 : Int32)), (.ref va), (.int (0 : Int32)), (.ref tb)])) (fun _ q => XS.iloadN X.here X.hx rfl (hb hby d21_14) rfl q) ?_
  refine Goes.by (g' := (mkF m 16 #[.val (.ref x), .val (.ref va), .val (.int (0 : Int32)), .val (.int (0 : Int32))] [(.int (0 : Int32)), (.int (0 : Int32)), (.ref va), (.int (0 : Int32)), (.ref tb)])) (fun _ q => XS.iloadN X.here X.hx rfl (hb hby d21_15) rfl q) ?_
  refine Goes.by (g' := (mkF m 17 #[.val (.ref x), .val (.ref va), .val (.int (0 : Int32)), .val (.int (0 : Int32))] [(.int (0 : Int32)), (.ref va), (.int (0 : Int32)), (.ref tb)])) (fun _ q => XS.ishl X.here X.hx rfl (hb hby d21_16) rfl q) ?_
  refine Goes.by (g' := (mkF m 18 #[.val (.ref x), .val (.ref va), .val (.int (0 : Int32)), .val (.int (0 : Int32))] [(.ref x), (.int (0 : Int32)), (.ref va), (.int (0 : Int32)), (.ref tb)])) (fun _ q => XS.aloadN X.here X.hx rfl (hb hby d21_17) rfl rfl q) ?_
  refine X.getF (host := "") (Or.inl (hw _ (List.mem_of_getElem? (i := 112) rfl))) Via.refl F_x_value (hb hby d21_18) (fun T X => ?_)
  show Goes _ _ _ _ _ _ _ _ _ T (mkF m 21 #[.val (.ref x), .val (.ref va), .val (.int (0 : Int32)), .val (.int (0 : Int32))] [(.ref tb), (.int (0 : Int32)), (.ref va), (.int (0 : Int32)), (.ref tb)])
  refine X.alen A_tb (z := (5 : Int32)) (by decide) (hb hby d21_21) ?_
  show Goes _ _ _ _ _ _ _ _ _ T (mkF m 22 #[.val (.ref x), .val (.ref va), .val (.int (0 : Int32)), .val (.int (0 : Int32))] [(.int (5 : Int32)), (.int (0 : Int32)), (.ref va), (.int (0 : Int32)), (.ref tb)])
  refine X.copy (hw _ (List.mem_of_getElem? (i := 143) rfl)) (hw _ (List.mem_of_getElem? (i := 146) rfl)) (hw _ (List.mem_of_getElem? (i := 144) rfl)) (hw _ (List.mem_of_getElem? (i := 145) rfl)) A_tb A_va rfl (by decide) (by decide) (cnt := 5) (by decide) (by decide) (by decide) ga_va (by rw [hml]; rfl) (hb hby d21_22) (by decide) (leB rfl) (fun T h43 X K B => ?_)
  have K0 := K0.trans K (allS (Or.inl (by simp)) all0)
  have O_ := O_.keep K (allS ga_va all0)
  have E_x := E_x.keep K
  have A_va := B
  show Goes _ _ _ _ _ _ _ _ _ T (mkF m 25 #[.val (.ref x), .val (.ref va), .val (.int (0 : Int32)), .val (.int (0 : Int32))] [])
  refine Goes.by (g' := (mkF m 43 #[.val (.ref x), .val (.ref va), .val (.int (0 : Int32)), .val (.int (0 : Int32))] [])) (fun _ q => XS.goto X.here X.hx rfl (pc0 := 25) (pc' := 43) rfl (hb hby d21_25) (by decide) (by decide) q) ?_
  exact X.retV hret (hb hby d21_43) (by decide) (by decide) ⟨rfl, K0, A_va⟩
set_option maxRecDepth 65536 in
set_option maxHeartbeats 40000000 in
theorem rmPut5 (l : Launch) (Z : State) (a0 : Array Value) (hw : ∀ d ∈ allW, d.before a0 Z = true) (n0 : Nat) (h0 : Heap) (hn0 : n0 ≤ h0.size) (x tb : Addr) (E_x : Exa Z h0 x "java/lang/String") (F_x_value : Fld Z h0 x "java/lang/String" "value" "[B" (.ref tb)) (F_x_coder : Fld Z h0 x "java/lang/String" "coder" "B" (.int 0)) (A_tb : PArr Z h0 tb .byte 5 (tv [102, 97, 108, 115, 101])) (b va : Addr) (ga_b : n0 ≤ b) (ga_va : n0 ≤ va) (ne_b_va : b ≠ va) (E_b : Exa Z h0 b "java/lang/StringBuilder") (F_b_value : Fld Z h0 b "java/lang/AbstractStringBuilder" "value" "[B" (.ref va)) (F_b_coder : Fld Z h0 b "java/lang/AbstractStringBuilder" "coder" "B" (.int 0)) (F_b_count : Fld Z h0 b "java/lang/AbstractStringBuilder" "count" "I" (.int 0)) (A_va : PArr Z h0 va .byte 16 (fun _ => .int 0)) (zc : Int32) (hzc : ¬ zc = 0) (S_C : Sta Z Z.heap "java/lang/String" "COMPACT_STRINGS" "Z" (.int zc)) (O_ : Old Z n0 h0) :
    Met l Z n0 (⟨"java/lang/AbstractStringBuilder", "putStringAt", "(ILjava/lang/String;)V"⟩ : MethodName) jdk_68_method_73_code 3 (Option.none : Option FieldType) ({ frames := 2, cells := 0, slots := 0, locals := 33 } : Room) #[(.ref b), (.int (0 : Int32)), (.ref x)] h0 (fun (v : Option Value) (h' : Heap) => v = none ∧ Keep h0 h' [va] ∧ PArr Z h' va .byte 16 (fun i => if i < 5 then (tv [102, 97, 108, 115, 101]) i else .int 0)) := by
  refine metW (Q := fun (v : Option Value) (h' : Heap) => v = none ∧ Keep h0 h' [va] ∧ PArr Z h' va .byte 16 (fun i => if i < 5 then (tv [102, 97, 108, 115, 101]) i else .int 0)) pf_19 hn0 ?_
  intro p e s m below meth c T X hby hml hret hnm
  refine Goes.by (g' := (mkF m 0 #[.val (.ref b), .val (.int (0 : Int32)), .val (.ref x)] [])) (fun _ q => castTop (by first | rfl | (simp [entryFrame, mkF, argsToLocals, Value.category]; done)) q) ?_
  have K0 := Keep.refl h0 [va]
  refine Goes.by (g' := (mkF m 1 #[.val (.ref b), .val (.int (0 : Int32)), .val (.ref x)] [(.ref b)])) (fun _ q => XS.aloadN X.here X.hx rfl (hb hby d19_0) rfl rfl q) ?_
  refine Goes.by (g' := (mkF m 2 #[.val (.ref b), .val (.int (0 : Int32)), .val (.ref x)] [(.ref x), (.ref b)])) (fun _ q => XS.aloadN X.here X.hx rfl (hb hby d19_1) rfl rfl q) ?_
  have X_o := X
  refine X.callV E_b (hw _ (List.mem_of_getElem? (i := 132) rfl)) (decl_of (hw _ (List.mem_of_getElem? (i := 133) rfl)) (hw _ (List.mem_of_getElem? (i := 136) rfl))) (hw _ (List.mem_of_getElem? (i := 135) rfl)) (hw _ (List.mem_of_getElem? (i := 125) rfl)) rfl (hw _ (List.mem_of_getElem? (i := 133) rfl)) (hw _ (List.mem_of_getElem? (i := 81) rfl)) (hw _ (List.mem_of_getElem? (i := 136) rfl)) (by decide) pd_4162450860 (argsL := [(.ref x)]) rfl (rmInf l Z a0 hw n0 h0 X.n0le b x F_b_coder E_x F_x_coder zc hzc S_C O_) (by rw [hml]; rfl) rfl (by decide) (leB rfl) (hb hby d19_2) (by decide) (by decide) (fun T h44 v X hQ => ?_)
  obtain ⟨rfl, hh⟩ := hQ
  rw [hh] at X
  clear hh
  show Goes _ _ _ _ _ _ _ _ _ T (mkF m 5 #[.val (.ref b), .val (.int (0 : Int32)), .val (.ref x)] [])
  refine Goes.by (g' := (mkF m 6 #[.val (.ref b), .val (.int (0 : Int32)), .val (.ref x)] [(.ref x)])) (fun _ q => XS.aloadN X.here X.hx rfl (hb hby d19_5) rfl rfl q) ?_
  refine Goes.by (g' := (mkF m 7 #[.val (.ref b), .val (.int (0 : Int32)), .val (.ref x)] [(.ref b), (.ref x)])) (fun _ q => XS.aloadN X.here X.hx rfl (hb hby d19_6) rfl rfl q) ?_
  refine X.getF (host := "") (Or.inl (hw _ (List.mem_of_getElem? (i := 87) rfl))) Via.refl F_b_value (hb hby d19_7) (fun T X => ?_)
  show Goes _ _ _ _ _ _ _ _ _ T (mkF m 10 #[.val (.ref b), .val (.int (0 : Int32)), .val (.ref x)] [(.ref va), (.ref x)])
  refine Goes.by (g' := (mkF m 11 #[.val (.ref b), .val (.int (0 : Int32)), .val (.ref x)] [(.int (0 : Int32)), (.ref va), (.ref x)])) (fun _ q => XS.iloadN X.here X.hx rfl (hb hby d19_10) rfl q) ?_
  refine Goes.by (g' := (mkF m 12 #[.val (.ref b), .val (.int (0 : Int32)), .val (.ref x)] [(.ref b), (.int (0 : Int32)), (.ref va), (.ref x)])) (fun _ q => XS.aloadN X.here X.hx rfl (hb hby d19_11) rfl rfl q) ?_
  refine X.getF (host := "") (Or.inl (hw _ (List.mem_of_getElem? (i := 89) rfl))) Via.refl F_b_coder (hb hby d19_12) (fun T X => ?_)
  show Goes _ _ _ _ _ _ _ _ _ T (mkF m 15 #[.val (.ref b), .val (.int (0 : Int32)), .val (.ref x)] [(.int (0 : Int32)), (.int (0 : Int32)), (.ref va), (.ref x)])
  have X_o := X
  refine X.callV E_x (hw _ (List.mem_of_getElem? (i := 138) rfl)) (hw _ (List.mem_of_getElem? (i := 139) rfl)) (hw _ (List.mem_of_getElem? (i := 141) rfl)) (hw _ (List.mem_of_getElem? (i := 110) rfl)) rfl (hw _ (List.mem_of_getElem? (i := 140) rfl)) (hw _ (List.mem_of_getElem? (i := 59) rfl)) (hw _ (List.mem_of_getElem? (i := 142) rfl)) (by decide) pd_3824288788 (argsL := [(.ref va), (.int (0 : Int32)), (.int (0 : Int32))]) rfl (rmGet5 l Z a0 hw n0 h0 X.n0le x tb E_x F_x_value F_x_coder A_tb va ga_va A_va zc hzc S_C O_) (by rw [hml]; rfl) rfl (by decide) (leB rfl) (hb hby d19_15) (by decide) (by decide) (fun T h45 v X hQ => ?_)
  obtain ⟨rfl, K, A_va⟩ := hQ
  have K0 := K0.trans K (allS (Or.inl (by simp)) all0)
  have O_ := O_.keep K (allS ga_va all0)
  have E_b := E_b.keep K
  have F_b_value := F_b_value.keep K (ninS ne_b_va nin0)
  have F_b_coder := F_b_coder.keep K (ninS ne_b_va nin0)
  have F_b_count := F_b_count.keep K (ninS ne_b_va nin0)
  show Goes _ _ _ _ _ _ _ _ _ T (mkF m 18 #[.val (.ref b), .val (.int (0 : Int32)), .val (.ref x)] [])
  exact X.retV hret (hb hby d19_18) (by decide) (by decide) ⟨rfl, K0, A_va⟩
set_option maxRecDepth 65536 in
set_option maxHeartbeats 40000000 in
theorem rmAap5 (l : Launch) (Z : State) (a0 : Array Value) (hw : ∀ d ∈ allW, d.before a0 Z = true) (n0 : Nat) (h0 : Heap) (hn0 : n0 ≤ h0.size) (x tb : Addr) (E_x : Exa Z h0 x "java/lang/String") (F_x_value : Fld Z h0 x "java/lang/String" "value" "[B" (.ref tb)) (F_x_coder : Fld Z h0 x "java/lang/String" "coder" "B" (.int 0)) (A_tb : PArr Z h0 tb .byte 5 (tv [102, 97, 108, 115, 101])) (b va : Addr) (ga_b : n0 ≤ b) (ga_va : n0 ≤ va) (ne_b_va : b ≠ va) (E_b : Exa Z h0 b "java/lang/StringBuilder") (F_b_value : Fld Z h0 b "java/lang/AbstractStringBuilder" "value" "[B" (.ref va)) (F_b_coder : Fld Z h0 b "java/lang/AbstractStringBuilder" "coder" "B" (.int 0)) (F_b_count : Fld Z h0 b "java/lang/AbstractStringBuilder" "count" "I" (.int 0)) (A_va : PArr Z h0 va .byte 16 (fun _ => .int 0)) (zc : Int32) (hzc : ¬ zc = 0) (S_C : Sta Z Z.heap "java/lang/String" "COMPACT_STRINGS" "Z" (.int zc)) (O_ : Old Z n0 h0) :
    Met l Z n0 (⟨"java/lang/AbstractStringBuilder", "append", "(Ljava/lang/String;)Ljava/lang/AbstractStringBuilder;"⟩ : MethodName) jdk_68_method_22_code 3 (Option.some (.object "java/lang/AbstractStringBuilder")) ({ frames := 3, cells := 0, slots := 0, locals := 47 } : Room) #[(.ref b), (.ref x)] h0 (fun (v : Option Value) (h' : Heap) => v = some (.ref b) ∧ Keep h0 h' [b, va] ∧ Fld Z h' b "java/lang/AbstractStringBuilder" "value" "[B" (.ref va) ∧ Fld Z h' b "java/lang/AbstractStringBuilder" "coder" "B" (.int 0) ∧ Fld Z h' b "java/lang/AbstractStringBuilder" "count" "I" (.int 5) ∧ PArr Z h' va .byte 16 (fun i => if i < 5 then (tv [102, 97, 108, 115, 101]) i else .int 0)) := by
  refine metW (Q := fun (v : Option Value) (h' : Heap) => v = some (.ref b) ∧ Keep h0 h' [b, va] ∧ Fld Z h' b "java/lang/AbstractStringBuilder" "value" "[B" (.ref va) ∧ Fld Z h' b "java/lang/AbstractStringBuilder" "coder" "B" (.int 0) ∧ Fld Z h' b "java/lang/AbstractStringBuilder" "count" "I" (.int 5) ∧ PArr Z h' va .byte 16 (fun i => if i < 5 then (tv [102, 97, 108, 115, 101]) i else .int 0)) pf_15 hn0 ?_
  intro p e s m below meth c T X hby hml hret hnm
  refine Goes.by (g' := (mkF m 0 #[.val (.ref b), .val (.ref x), .unset] [])) (fun _ q => castTop (by first | rfl | (simp [entryFrame, mkF, argsToLocals, Value.category]; done)) q) ?_
  have K0 := Keep.refl h0 [b, va]
  refine Goes.by (g' := (mkF m 1 #[.val (.ref b), .val (.ref x), .unset] [(.ref x)])) (fun _ q => XS.aloadN X.here X.hx rfl (hb hby d15_0) rfl rfl q) ?_
  refine Goes.by (g' := (mkF m 9 #[.val (.ref b), .val (.ref x), .unset] [])) (fun _ q => XS.ifnonnullYes X.here X.hx rfl (pc0 := 1) (pc' := 9) rfl (hb hby d15_1) rfl (by decide) (by decide) q) ?_
  refine Goes.by (g' := (mkF m 10 #[.val (.ref b), .val (.ref x), .unset] [(.ref x)])) (fun _ q => XS.aloadN X.here X.hx rfl (hb hby d15_9) rfl rfl q) ?_
  have X_o := X
  refine X.callV E_x (hw _ (List.mem_of_getElem? (i := 107) rfl)) (hw _ (List.mem_of_getElem? (i := 108) rfl)) (hw _ (List.mem_of_getElem? (i := 110) rfl)) (hw _ (List.mem_of_getElem? (i := 110) rfl)) rfl (hw _ (List.mem_of_getElem? (i := 109) rfl)) (hw _ (List.mem_of_getElem? (i := 59) rfl)) (hw _ (List.mem_of_getElem? (i := 111) rfl)) (by decide) pd_193421983 (argsL := []) rfl (rmLen5 l Z a0 hw n0 h0 X.n0le x tb E_x F_x_value F_x_coder A_tb zc hzc S_C O_) (by rw [hml]; rfl) rfl (by decide) (leB rfl) (hb hby d15_10) (by decide) (by decide) (fun T h46 v X hQ => ?_)
  obtain ⟨rfl, hh⟩ := hQ
  rw [hh] at X
  clear hh
  show Goes _ _ _ _ _ _ _ _ _ T (mkF m 13 #[.val (.ref b), .val (.ref x), .unset] [(.int (5 : Int32))])
  refine Goes.by (g' := (mkF m 14 #[.val (.ref b), .val (.ref x), .val (.int (5 : Int32))] [])) (fun _ q => XS.istoreN X.here X.hx rfl (hb hby d15_13) rfl (l' := #[.val (.ref b), .val (.ref x), .val (.int (5 : Int32))]) rfl q) ?_
  refine Goes.by (g' := (mkF m 15 #[.val (.ref b), .val (.ref x), .val (.int (5 : Int32))] [(.ref b)])) (fun _ q => XS.aloadN X.here X.hx rfl (hb hby d15_14) rfl rfl q) ?_
  refine Goes.by (g' := (mkF m 16 #[.val (.ref b), .val (.ref x), .val (.int (5 : Int32))] [(.ref b), (.ref b)])) (fun _ q => XS.aloadN X.here X.hx rfl (hb hby d15_15) rfl rfl q) ?_
  refine X.getF (host := "") (Or.inl (hw _ (List.mem_of_getElem? (i := 120) rfl))) Via.refl F_b_count (hb hby d15_16) (fun T X => ?_)
  show Goes _ _ _ _ _ _ _ _ _ T (mkF m 19 #[.val (.ref b), .val (.ref x), .val (.int (5 : Int32))] [(.int (0 : Int32)), (.ref b)])
  refine Goes.by (g' := (mkF m 20 #[.val (.ref b), .val (.ref x), .val (.int (5 : Int32))] [(.int (5 : Int32)), (.int (0 : Int32)), (.ref b)])) (fun _ q => XS.iloadN X.here X.hx rfl (hb hby d15_19) rfl q) ?_
  refine Goes.by (g' := (mkF m 21 #[.val (.ref b), .val (.ref x), .val (.int (5 : Int32))] [(.int (5 : Int32)), (.ref b)])) (fun _ q => XS.iadd X.here X.hx rfl (hb hby d15_20) rfl q) ?_
  have X_o := X
  refine X.callV E_b (hw _ (List.mem_of_getElem? (i := 122) rfl)) (decl_of (hw _ (List.mem_of_getElem? (i := 123) rfl)) (hw _ (List.mem_of_getElem? (i := 126) rfl))) (hw _ (List.mem_of_getElem? (i := 125) rfl)) (hw _ (List.mem_of_getElem? (i := 125) rfl)) rfl (hw _ (List.mem_of_getElem? (i := 123) rfl)) (hw _ (List.mem_of_getElem? (i := 81) rfl)) (hw _ (List.mem_of_getElem? (i := 126) rfl)) (by decide) pd_2087992021 (argsL := [(.int (5 : Int32))]) rfl (rmEns5 l Z a0 hw n0 h0 X.n0le b va F_b_value F_b_coder A_va) (by rw [hml]; rfl) rfl (by decide) (leB rfl) (hb hby d15_21) (by decide) (by decide) (fun T h47 v X hQ => ?_)
  obtain ⟨rfl, hh⟩ := hQ
  rw [hh] at X
  clear hh
  show Goes _ _ _ _ _ _ _ _ _ T (mkF m 24 #[.val (.ref b), .val (.ref x), .val (.int (5 : Int32))] [])
  refine Goes.by (g' := (mkF m 25 #[.val (.ref b), .val (.ref x), .val (.int (5 : Int32))] [(.ref b)])) (fun _ q => XS.aloadN X.here X.hx rfl (hb hby d15_24) rfl rfl q) ?_
  refine Goes.by (g' := (mkF m 26 #[.val (.ref b), .val (.ref x), .val (.int (5 : Int32))] [(.ref b), (.ref b)])) (fun _ q => XS.aloadN X.here X.hx rfl (hb hby d15_25) rfl rfl q) ?_
  refine X.getF (host := "") (Or.inl (hw _ (List.mem_of_getElem? (i := 120) rfl))) Via.refl F_b_count (hb hby d15_26) (fun T X => ?_)
  show Goes _ _ _ _ _ _ _ _ _ T (mkF m 29 #[.val (.ref b), .val (.ref x), .val (.int (5 : Int32))] [(.int (0 : Int32)), (.ref b)])
  refine Goes.by (g' := (mkF m 30 #[.val (.ref b), .val (.ref x), .val (.int (5 : Int32))] [(.ref x), (.int (0 : Int32)), (.ref b)])) (fun _ q => XS.aloadN X.here X.hx rfl (hb hby d15_29) rfl rfl q) ?_
  have X_o := X
  refine X.callV E_b (hw _ (List.mem_of_getElem? (i := 127) rfl)) (decl_of (hw _ (List.mem_of_getElem? (i := 128) rfl)) (hw _ (List.mem_of_getElem? (i := 131) rfl))) (hw _ (List.mem_of_getElem? (i := 130) rfl)) (hw _ (List.mem_of_getElem? (i := 125) rfl)) rfl (hw _ (List.mem_of_getElem? (i := 128) rfl)) (hw _ (List.mem_of_getElem? (i := 81) rfl)) (hw _ (List.mem_of_getElem? (i := 131) rfl)) (by decide) pd_1162292757 (argsL := [(.int (0 : Int32)), (.ref x)]) rfl (rmPut5 l Z a0 hw n0 h0 X.n0le x tb E_x F_x_value F_x_coder A_tb b va ga_b ga_va ne_b_va E_b F_b_value F_b_coder F_b_count A_va zc hzc S_C O_) (by rw [hml]; rfl) rfl (by decide) (leB rfl) (hb hby d15_30) (by decide) (by decide) (fun T h48 v X hQ => ?_)
  obtain ⟨rfl, K, A_va⟩ := hQ
  have K0 := K0.trans K (allS (Or.inl (by simp)) all0)
  have O_ := O_.keep K (allS ga_va all0)
  have E_b := E_b.keep K
  have F_b_value := F_b_value.keep K (ninS ne_b_va nin0)
  have F_b_coder := F_b_coder.keep K (ninS ne_b_va nin0)
  have F_b_count := F_b_count.keep K (ninS ne_b_va nin0)
  show Goes _ _ _ _ _ _ _ _ _ T (mkF m 33 #[.val (.ref b), .val (.ref x), .val (.int (5 : Int32))] [])
  refine Goes.by (g' := (mkF m 34 #[.val (.ref b), .val (.ref x), .val (.int (5 : Int32))] [(.ref b)])) (fun _ q => XS.aloadN X.here X.hx rfl (hb hby d15_33) rfl rfl q) ?_
  refine Goes.by (g' := (mkF m 35 #[.val (.ref b), .val (.ref x), .val (.int (5 : Int32))] [(.ref b), (.ref b)])) (fun _ q => XS.dup X.here X.hx rfl (hb hby d15_34) rfl rfl q) ?_
  refine X.getF (host := "") (Or.inl (hw _ (List.mem_of_getElem? (i := 120) rfl))) Via.refl F_b_count (hb hby d15_35) (fun T X => ?_)
  show Goes _ _ _ _ _ _ _ _ _ T (mkF m 38 #[.val (.ref b), .val (.ref x), .val (.int (5 : Int32))] [(.int (0 : Int32)), (.ref b)])
  refine Goes.by (g' := (mkF m 39 #[.val (.ref b), .val (.ref x), .val (.int (5 : Int32))] [(.int (5 : Int32)), (.int (0 : Int32)), (.ref b)])) (fun _ q => XS.iloadN X.here X.hx rfl (hb hby d15_38) rfl q) ?_
  refine Goes.by (g' := (mkF m 40 #[.val (.ref b), .val (.ref x), .val (.int (5 : Int32))] [(.int (5 : Int32)), (.ref b)])) (fun _ q => XS.iadd X.here X.hx rfl (hb hby d15_39) rfl q) ?_
  refine X.putF (host := "") (Or.inl (hw _ (List.mem_of_getElem? (i := 120) rfl))) Via.refl F_b_count E_b (Or.inl (hw _ (List.mem_of_getElem? (i := 121) rfl))) (hw _ (List.mem_of_getElem? (i := 72) rfl)) (ty := .int) (by decide) rfl rfl ga_b (hb hby d15_40) (fun T h49 X W => ?_)
  have K0 := K0.wr W (Or.inl (by simp))
  have O_ := O_.wr W ga_b
  have E_b := E_b.wr W
  have F_b_value := F_b_value.other W (Or.inr (slot_ne (Or.inl (hw _ (List.mem_of_getElem? (i := 88) rfl))) (Or.inl (hw _ (List.mem_of_getElem? (i := 121) rfl))) (by decide) (t := (.array .byte)) (t' := .int) (by decide) (by decide)))
  have F_b_coder := F_b_coder.other W (Or.inr (slot_ne (Or.inl (hw _ (List.mem_of_getElem? (i := 90) rfl))) (Or.inl (hw _ (List.mem_of_getElem? (i := 121) rfl))) (by decide) (t := .byte) (t' := .int) (by decide) (by decide)))
  have F_b_count := F_b_count.same W
  have A_va := PArr.other A_va W (Ne.symm ne_b_va)
  show Goes _ _ _ _ _ _ _ _ _ T (mkF m 43 #[.val (.ref b), .val (.ref x), .val (.int (5 : Int32))] [])
  refine Goes.by (g' := (mkF m 44 #[.val (.ref b), .val (.ref x), .val (.int (5 : Int32))] [(.ref b)])) (fun _ q => XS.aloadN X.here X.hx rfl (hb hby d15_43) rfl rfl q) ?_
  exact X.retA hret rfl rfl (hb hby d15_44) (by decide) (by decide) ⟨rfl, K0, F_b_value, F_b_coder, F_b_count, A_va⟩
set_option maxRecDepth 65536 in
set_option maxHeartbeats 40000000 in
theorem rmApp5 (l : Launch) (Z : State) (a0 : Array Value) (hw : ∀ d ∈ allW, d.before a0 Z = true) (n0 : Nat) (h0 : Heap) (hn0 : n0 ≤ h0.size) (x tb : Addr) (E_x : Exa Z h0 x "java/lang/String") (F_x_value : Fld Z h0 x "java/lang/String" "value" "[B" (.ref tb)) (F_x_coder : Fld Z h0 x "java/lang/String" "coder" "B" (.int 0)) (A_tb : PArr Z h0 tb .byte 5 (tv [102, 97, 108, 115, 101])) (b va : Addr) (ga_b : n0 ≤ b) (ga_va : n0 ≤ va) (ne_b_va : b ≠ va) (E_b : Exa Z h0 b "java/lang/StringBuilder") (F_b_value : Fld Z h0 b "java/lang/AbstractStringBuilder" "value" "[B" (.ref va)) (F_b_coder : Fld Z h0 b "java/lang/AbstractStringBuilder" "coder" "B" (.int 0)) (F_b_count : Fld Z h0 b "java/lang/AbstractStringBuilder" "count" "I" (.int 0)) (A_va : PArr Z h0 va .byte 16 (fun _ => .int 0)) (zc : Int32) (hzc : ¬ zc = 0) (S_C : Sta Z Z.heap "java/lang/String" "COMPACT_STRINGS" "Z" (.int zc)) (O_ : Old Z n0 h0) :
    Met l Z n0 (⟨"java/lang/StringBuilder", "append", "(Ljava/lang/String;)Ljava/lang/StringBuilder;"⟩ : MethodName) jdk_67_method_7_code 2 (Option.some (.object "java/lang/StringBuilder")) ({ frames := 4, cells := 0, slots := 0, locals := 61 } : Room) #[(.ref b), (.ref x)] h0 (fun (v : Option Value) (h' : Heap) => v = some (.ref b) ∧ Keep h0 h' [b, va] ∧ Fld Z h' b "java/lang/AbstractStringBuilder" "value" "[B" (.ref va) ∧ Fld Z h' b "java/lang/AbstractStringBuilder" "coder" "B" (.int 0) ∧ Fld Z h' b "java/lang/AbstractStringBuilder" "count" "I" (.int 5) ∧ PArr Z h' va .byte 16 (fun i => if i < 5 then (tv [102, 97, 108, 115, 101]) i else .int 0)) := by
  refine metW (Q := fun (v : Option Value) (h' : Heap) => v = some (.ref b) ∧ Keep h0 h' [b, va] ∧ Fld Z h' b "java/lang/AbstractStringBuilder" "value" "[B" (.ref va) ∧ Fld Z h' b "java/lang/AbstractStringBuilder" "coder" "B" (.int 0) ∧ Fld Z h' b "java/lang/AbstractStringBuilder" "count" "I" (.int 5) ∧ PArr Z h' va .byte 16 (fun i => if i < 5 then (tv [102, 97, 108, 115, 101]) i else .int 0)) pf_14 hn0 ?_
  intro p e s m below meth c T X hby hml hret hnm
  refine Goes.by (g' := (mkF m 0 #[.val (.ref b), .val (.ref x)] [])) (fun _ q => castTop (by first | rfl | (simp [entryFrame, mkF, argsToLocals, Value.category]; done)) q) ?_
  have K0 := Keep.refl h0 [b, va]
  refine Goes.by (g' := (mkF m 1 #[.val (.ref b), .val (.ref x)] [(.ref b)])) (fun _ q => XS.aloadN X.here X.hx rfl (hb hby d14_0) rfl rfl q) ?_
  refine Goes.by (g' := (mkF m 2 #[.val (.ref b), .val (.ref x)] [(.ref x), (.ref b)])) (fun _ q => XS.aloadN X.here X.hx rfl (hb hby d14_1) rfl rfl q) ?_
  have X_o := X
  refine X.callP (Ins.self E_b) (hw _ (List.mem_of_getElem? (i := 102) rfl)) (same_of (hw _ (List.mem_of_getElem? (i := 103) rfl)) (by decide) (hw _ (List.mem_of_getElem? (i := 125) rfl)) rfl) (hw _ (List.mem_of_getElem? (i := 103) rfl)) (hw _ (List.mem_of_getElem? (i := 104) rfl)) (by decide) (hw _ (List.mem_of_getElem? (i := 81) rfl)) (hw _ (List.mem_of_getElem? (i := 106) rfl)) pd_2529712177 (argsL := [(.ref x)]) rfl (rmAap5 l Z a0 hw n0 h0 X.n0le x tb E_x F_x_value F_x_coder A_tb b va ga_b ga_va ne_b_va E_b F_b_value F_b_coder F_b_count A_va zc hzc S_C O_) (by rw [hml]; rfl) rfl (by decide) (leB rfl) (hb hby d14_2) (by decide) (by decide) (fun T h50 v X hQ => ?_)
  obtain ⟨rfl, K, F_b_value, F_b_coder, F_b_count, A_va⟩ := hQ
  have K0 := K0.trans K (allS (Or.inl (by simp)) (allS (Or.inl (by simp)) all0))
  have O_ := O_.keep K (allS ga_b (allS ga_va all0))
  have E_b := E_b.keep K
  show Goes _ _ _ _ _ _ _ _ _ T (mkF m 5 #[.val (.ref b), .val (.ref x)] [(.ref b)])
  refine Goes.by (g' := (mkF m 6 #[.val (.ref b), .val (.ref x)] [])) (fun _ q => XS.pop X.here X.hx rfl (hb hby d14_5) rfl rfl q) ?_
  refine Goes.by (g' := (mkF m 7 #[.val (.ref b), .val (.ref x)] [(.ref b)])) (fun _ q => XS.aloadN X.here X.hx rfl (hb hby d14_6) rfl rfl q) ?_
  exact X.retA hret rfl rfl (hb hby d14_7) (by decide) (by decide) ⟨rfl, K0, F_b_value, F_b_coder, F_b_count, A_va⟩
set_option maxRecDepth 65536 in
set_option maxHeartbeats 40000000 in
theorem rmWri5 (l : Launch) (Z : State) (a0 : Array Value) (hw : ∀ d ∈ allW, d.before a0 Z = true) (n0 : Nat) (h0 : Heap) (hn0 : n0 ≤ h0.size) (x tb : Addr) (E_x : Exa Z h0 x "java/lang/String") (F_x_value : Fld Z h0 x "java/lang/String" "value" "[B" (.ref tb)) (F_x_coder : Fld Z h0 x "java/lang/String" "coder" "B" (.int 0)) (A_tb : PArr Z h0 tb .byte 5 (tv [102, 97, 108, 115, 101])) (b va : Addr) (ga_b : n0 ≤ b) (ga_va : n0 ≤ va) (ne_b_va : b ≠ va) (E_b : Exa Z h0 b "java/lang/StringBuilder") (F_b_value : Fld Z h0 b "java/lang/AbstractStringBuilder" "value" "[B" (.ref va)) (F_b_coder : Fld Z h0 b "java/lang/AbstractStringBuilder" "coder" "B" (.int 0)) (F_b_count : Fld Z h0 b "java/lang/AbstractStringBuilder" "count" "I" (.int 0)) (A_va : PArr Z h0 va .byte 16 (fun _ => .int 0)) (zc : Int32) (hzc : ¬ zc = 0) (S_C : Sta Z Z.heap "java/lang/String" "COMPACT_STRINGS" "Z" (.int zc)) (O_ : Old Z n0 h0) (a_BOOLEAN : Addr) (a_OBJECT : Addr) (S_OBJECT : Sta Z Z.heap "com/example/riskweave/riskweave/scenario/JsonValue$Kind" "OBJECT" "Lcom/example/riskweave/riskweave/scenario/JsonValue$Kind;" (.ref a_OBJECT)) (a_ARRAY : Addr) (S_ARRAY : Sta Z Z.heap "com/example/riskweave/riskweave/scenario/JsonValue$Kind" "ARRAY" "Lcom/example/riskweave/riskweave/scenario/JsonValue$Kind;" (.ref a_ARRAY)) (a_STRING : Addr) (S_STRING : Sta Z Z.heap "com/example/riskweave/riskweave/scenario/JsonValue$Kind" "STRING" "Lcom/example/riskweave/riskweave/scenario/JsonValue$Kind;" (.ref a_STRING)) (n_OBJECT : a_BOOLEAN ≠ a_OBJECT) (n_ARRAY : a_BOOLEAN ≠ a_ARRAY) (n_STRING : a_BOOLEAN ≠ a_STRING) (a : Addr) (F_a_kind : Fld Z h0 a "com/example/riskweave/riskweave/scenario/JsonValue" "kind" "Lcom/example/riskweave/riskweave/scenario/JsonValue$Kind;" (.ref a_BOOLEAN)) (F_a_text : Fld Z h0 a "com/example/riskweave/riskweave/scenario/JsonValue" "text" "Ljava/lang/String;" (.ref x)) :
    Met l Z n0 (⟨"com/example/riskweave/riskweave/scenario/JsonValue", "write", "(Ljava/lang/StringBuilder;)V"⟩ : MethodName) prog_74_method_24_code 5 (Option.none : Option FieldType) ({ frames := 5, cells := 0, slots := 0, locals := 74 } : Room) #[(.ref a), (.ref b)] h0 (fun (v : Option Value) (h' : Heap) => v = none ∧ Keep h0 h' [b, va] ∧ Fld Z h' b "java/lang/AbstractStringBuilder" "value" "[B" (.ref va) ∧ Fld Z h' b "java/lang/AbstractStringBuilder" "coder" "B" (.int 0) ∧ Fld Z h' b "java/lang/AbstractStringBuilder" "count" "I" (.int 5) ∧ PArr Z h' va .byte 16 (fun i => if i < 5 then (tv [102, 97, 108, 115, 101]) i else .int 0)) := by
  refine metW (Q := fun (v : Option Value) (h' : Heap) => v = none ∧ Keep h0 h' [b, va] ∧ Fld Z h' b "java/lang/AbstractStringBuilder" "value" "[B" (.ref va) ∧ Fld Z h' b "java/lang/AbstractStringBuilder" "coder" "B" (.int 0) ∧ Fld Z h' b "java/lang/AbstractStringBuilder" "count" "I" (.int 5) ∧ PArr Z h' va .byte 16 (fun i => if i < 5 then (tv [102, 97, 108, 115, 101]) i else .int 0)) pf_13 hn0 ?_
  intro p e s m below meth c T X hby hml hret hnm
  refine Goes.by (g' := (mkF m 0 #[.val (.ref a), .val (.ref b), .unset, .unset, .unset] [])) (fun _ q => castTop (by first | rfl | (simp [entryFrame, mkF, argsToLocals, Value.category]; done)) q) ?_
  have K0 := Keep.refl h0 [b, va]
  refine Goes.by (g' := (mkF m 1 #[.val (.ref a), .val (.ref b), .unset, .unset, .unset] [(.ref a)])) (fun _ q => XS.aloadN X.here X.hx rfl (hb hby d13_0) rfl rfl q) ?_
  refine X.getF (host := "") (Or.inl (hw _ (List.mem_of_getElem? (i := 11) rfl))) Via.refl F_a_kind (hb hby d13_1) (fun T X => ?_)
  show Goes _ _ _ _ _ _ _ _ _ T (mkF m 4 #[.val (.ref a), .val (.ref b), .unset, .unset, .unset] [(.ref a_BOOLEAN)])
  refine X.getS (Or.inl (hw _ (List.mem_of_getElem? (i := 28) rfl))) (host := "") Via.refl (S_OBJECT.ext O_.2) (hb hby d13_4) (fun T X => ?_)
  show Goes _ _ _ _ _ _ _ _ _ T (mkF m 7 #[.val (.ref a), .val (.ref b), .unset, .unset, .unset] [(.ref a_OBJECT), (.ref a_BOOLEAN)])
  refine X.acmp rfl rfl (cd := .ne) (x := (.ref a_BOOLEAN)) (y := (.ref a_OBJECT)) (same := false) (pc' := 112) (hb hby d13_7) (decide_eq_false fun q => n_OBJECT (Value.ref.inj q)) (by decide) (by decide) ?_
  show Goes _ _ _ _ _ _ _ _ _ T (mkF m 112 #[.val (.ref a), .val (.ref b), .unset, .unset, .unset] [])
  refine Goes.by (g' := (mkF m 113 #[.val (.ref a), .val (.ref b), .unset, .unset, .unset] [(.ref a)])) (fun _ q => XS.aloadN X.here X.hx rfl (hb hby d13_112) rfl rfl q) ?_
  refine X.getF (host := "") (Or.inl (hw _ (List.mem_of_getElem? (i := 11) rfl))) Via.refl F_a_kind (hb hby d13_113) (fun T X => ?_)
  show Goes _ _ _ _ _ _ _ _ _ T (mkF m 116 #[.val (.ref a), .val (.ref b), .unset, .unset, .unset] [(.ref a_BOOLEAN)])
  refine X.getS (Or.inl (hw _ (List.mem_of_getElem? (i := 35) rfl))) (host := "") Via.refl (S_ARRAY.ext O_.2) (hb hby d13_116) (fun T X => ?_)
  show Goes _ _ _ _ _ _ _ _ _ T (mkF m 119 #[.val (.ref a), .val (.ref b), .unset, .unset, .unset] [(.ref a_ARRAY), (.ref a_BOOLEAN)])
  refine X.acmp rfl rfl (cd := .ne) (x := (.ref a_BOOLEAN)) (y := (.ref a_ARRAY)) (same := false) (pc' := 190) (hb hby d13_119) (decide_eq_false fun q => n_ARRAY (Value.ref.inj q)) (by decide) (by decide) ?_
  show Goes _ _ _ _ _ _ _ _ _ T (mkF m 190 #[.val (.ref a), .val (.ref b), .unset, .unset, .unset] [])
  refine Goes.by (g' := (mkF m 191 #[.val (.ref a), .val (.ref b), .unset, .unset, .unset] [(.ref a)])) (fun _ q => XS.aloadN X.here X.hx rfl (hb hby d13_190) rfl rfl q) ?_
  refine X.getF (host := "") (Or.inl (hw _ (List.mem_of_getElem? (i := 11) rfl))) Via.refl F_a_kind (hb hby d13_191) (fun T X => ?_)
  show Goes _ _ _ _ _ _ _ _ _ T (mkF m 194 #[.val (.ref a), .val (.ref b), .unset, .unset, .unset] [(.ref a_BOOLEAN)])
  refine X.getS (Or.inl (hw _ (List.mem_of_getElem? (i := 42) rfl))) (host := "") Via.refl (S_STRING.ext O_.2) (hb hby d13_194) (fun T X => ?_)
  show Goes _ _ _ _ _ _ _ _ _ T (mkF m 197 #[.val (.ref a), .val (.ref b), .unset, .unset, .unset] [(.ref a_STRING), (.ref a_BOOLEAN)])
  refine X.acmp rfl rfl (cd := .ne) (x := (.ref a_BOOLEAN)) (y := (.ref a_STRING)) (same := false) (pc' := 211) (hb hby d13_197) (decide_eq_false fun q => n_STRING (Value.ref.inj q)) (by decide) (by decide) ?_
  show Goes _ _ _ _ _ _ _ _ _ T (mkF m 211 #[.val (.ref a), .val (.ref b), .unset, .unset, .unset] [])
  refine Goes.by (g' := (mkF m 212 #[.val (.ref a), .val (.ref b), .unset, .unset, .unset] [(.ref b)])) (fun _ q => XS.aloadN X.here X.hx rfl (hb hby d13_211) rfl rfl q) ?_
  refine Goes.by (g' := (mkF m 213 #[.val (.ref a), .val (.ref b), .unset, .unset, .unset] [(.ref a), (.ref b)])) (fun _ q => XS.aloadN X.here X.hx rfl (hb hby d13_212) rfl rfl q) ?_
  refine X.getF (host := "") (Or.inl (hw _ (List.mem_of_getElem? (i := 95) rfl))) Via.refl F_a_text (hb hby d13_213) (fun T X => ?_)
  show Goes _ _ _ _ _ _ _ _ _ T (mkF m 216 #[.val (.ref a), .val (.ref b), .unset, .unset, .unset] [(.ref x), (.ref b)])
  have X_o := X
  refine X.callV E_b (hw _ (List.mem_of_getElem? (i := 97) rfl)) (hw _ (List.mem_of_getElem? (i := 98) rfl)) (hw _ (List.mem_of_getElem? (i := 100) rfl)) (hw _ (List.mem_of_getElem? (i := 100) rfl)) rfl (hw _ (List.mem_of_getElem? (i := 99) rfl)) (hw _ (List.mem_of_getElem? (i := 73) rfl)) (hw _ (List.mem_of_getElem? (i := 101) rfl)) (by decide) pd_35207773 (argsL := [(.ref x)]) rfl (rmApp5 l Z a0 hw n0 h0 X.n0le x tb E_x F_x_value F_x_coder A_tb b va ga_b ga_va ne_b_va E_b F_b_value F_b_coder F_b_count A_va zc hzc S_C O_) (by rw [hml]; rfl) rfl (by decide) (leB rfl) (hb hby d13_216) (by decide) (by decide) (fun T h51 v X hQ => ?_)
  obtain ⟨rfl, K, F_b_value, F_b_coder, F_b_count, A_va⟩ := hQ
  have K0 := K0.trans K (allS (Or.inl (by simp)) (allS (Or.inl (by simp)) all0))
  have O_ := O_.keep K (allS ga_b (allS ga_va all0))
  have E_b := E_b.keep K
  show Goes _ _ _ _ _ _ _ _ _ T (mkF m 219 #[.val (.ref a), .val (.ref b), .unset, .unset, .unset] [(.ref b)])
  refine Goes.by (g' := (mkF m 220 #[.val (.ref a), .val (.ref b), .unset, .unset, .unset] [])) (fun _ q => XS.pop X.here X.hx rfl (hb hby d13_219) rfl rfl q) ?_
  exact X.retV hret (hb hby d13_220) (by decide) (by decide) ⟨rfl, K0, F_b_value, F_b_coder, F_b_count, A_va⟩
set_option maxRecDepth 65536 in
set_option maxHeartbeats 40000000 in
theorem rmAL5 (l : Launch) (Z : State) (a0 : Array Value) (hw : ∀ d ∈ allW, d.before a0 Z = true) (n0 : Nat) (h0 : Heap) (hn0 : n0 ≤ h0.size) (b : Addr) (E_b : Exa Z h0 b "java/lang/StringBuilder") (F_b_count : Fld Z h0 b "java/lang/AbstractStringBuilder" "count" "I" (.int 5)) :
    Met l Z n0 (⟨"java/lang/AbstractStringBuilder", "length", "()I"⟩ : MethodName) jdk_68_method_6_code 1 (Option.some .int) ({ frames := 0, cells := 0, slots := 0, locals := 0 } : Room) #[(.ref b)] h0 (fun (v : Option Value) (h' : Heap) => v = some (.int 5) ∧ h' = h0) := by
  refine metW (Q := fun (v : Option Value) (h' : Heap) => v = some (.int 5) ∧ h' = h0) pf_27 hn0 ?_
  intro p e s m below meth c T X hby hml hret hnm
  refine Goes.by (g' := (mkF m 0 #[.val (.ref b)] [])) (fun _ q => castTop (by first | rfl | (simp [entryFrame, mkF, argsToLocals, Value.category]; done)) q) ?_
  refine Goes.by (g' := (mkF m 1 #[.val (.ref b)] [(.ref b)])) (fun _ q => XS.aloadN X.here X.hx rfl (hb hby d27_0) rfl rfl q) ?_
  refine X.getF (host := "") (Or.inl (hw _ (List.mem_of_getElem? (i := 120) rfl))) Via.refl F_b_count (hb hby d27_1) (fun T X => ?_)
  show Goes _ _ _ _ _ _ _ _ _ T (mkF m 4 #[.val (.ref b)] [(.int (5 : Int32))])
  exact X.retI hret (hb hby d27_4) (by decide) (by decide) ⟨rfl, rfl⟩
set_option maxRecDepth 65536 in
set_option maxHeartbeats 40000000 in
theorem rmSL5 (l : Launch) (Z : State) (a0 : Array Value) (hw : ∀ d ∈ allW, d.before a0 Z = true) (n0 : Nat) (h0 : Heap) (hn0 : n0 ≤ h0.size) (b : Addr) (E_b : Exa Z h0 b "java/lang/StringBuilder") (F_b_count : Fld Z h0 b "java/lang/AbstractStringBuilder" "count" "I" (.int 5)) :
    Met l Z n0 (⟨"java/lang/StringBuilder", "length", "()I"⟩ : MethodName) jdk_67_method_93_code 1 (Option.some .int) ({ frames := 1, cells := 0, slots := 0, locals := 12 } : Room) #[(.ref b)] h0 (fun (v : Option Value) (h' : Heap) => v = some (.int 5) ∧ h' = h0) := by
  refine metW (Q := fun (v : Option Value) (h' : Heap) => v = some (.int 5) ∧ h' = h0) pf_26 hn0 ?_
  intro p e s m below meth c T X hby hml hret hnm
  refine Goes.by (g' := (mkF m 0 #[.val (.ref b)] [])) (fun _ q => castTop (by first | rfl | (simp [entryFrame, mkF, argsToLocals, Value.category]; done)) q) ?_
  refine Goes.by (g' := (mkF m 1 #[.val (.ref b)] [(.ref b)])) (fun _ q => XS.aloadN X.here X.hx rfl (hb hby d26_0) rfl rfl q) ?_
  have X_o := X
  refine X.callP (Ins.self E_b) (hw _ (List.mem_of_getElem? (i := 172) rfl)) (same_of (hw _ (List.mem_of_getElem? (i := 168) rfl)) (by decide) (hw _ (List.mem_of_getElem? (i := 125) rfl)) rfl) (hw _ (List.mem_of_getElem? (i := 168) rfl)) (hw _ (List.mem_of_getElem? (i := 104) rfl)) (by decide) (hw _ (List.mem_of_getElem? (i := 81) rfl)) (hw _ (List.mem_of_getElem? (i := 173) rfl)) pd_193421983 (argsL := []) rfl (rmAL5 l Z a0 hw n0 h0 X.n0le b E_b F_b_count) (by rw [hml]; rfl) rfl (by decide) (leB rfl) (hb hby d26_1) (by decide) (by decide) (fun T h52 v X hQ => ?_)
  obtain ⟨rfl, hh⟩ := hQ
  rw [hh] at X
  clear hh
  show Goes _ _ _ _ _ _ _ _ _ T (mkF m 4 #[.val (.ref b)] [(.int (5 : Int32))])
  exact X.retI hret (hb hby d26_4) (by decide) (by decide) ⟨rfl, rfl⟩
set_option maxRecDepth 65536 in
set_option maxHeartbeats 40000000 in
theorem rmMin5 (l : Launch) (Z : State) (a0 : Array Value) (hw : ∀ d ∈ allW, d.before a0 Z = true) (n0 : Nat) (h0 : Heap) (hn0 : n0 ≤ h0.size)  :
    Met l Z n0 (⟨"java/lang/Math", "min", "(II)I"⟩ : MethodName) jdk_29_method_69_code 2 (Option.some .int) ({ frames := 0, cells := 0, slots := 0, locals := 0 } : Room) #[(.int (16 : Int32)), (.int (5 : Int32))] h0 (fun (v : Option Value) (h' : Heap) => v = some (.int 5) ∧ h' = h0) := by
  refine metW (Q := fun (v : Option Value) (h' : Heap) => v = some (.int 5) ∧ h' = h0) pf_32 hn0 ?_
  intro p e s m below meth c T X hby hml hret hnm
  refine Goes.by (g' := (mkF m 0 #[.val (.int (16 : Int32)), .val (.int (5 : Int32))] [])) (fun _ q => castTop (by first | rfl | (simp [entryFrame, mkF, argsToLocals, Value.category]; done)) q) ?_
  refine Goes.by (g' := (mkF m 1 #[.val (.int (16 : Int32)), .val (.int (5 : Int32))] [(.int (16 : Int32))])) (fun _ q => XS.iloadN X.here X.hx rfl (hb hby d32_0) rfl q) ?_
  refine Goes.by (g' := (mkF m 2 #[.val (.int (16 : Int32)), .val (.int (5 : Int32))] [(.int (5 : Int32)), (.int (16 : Int32))])) (fun _ q => XS.iloadN X.here X.hx rfl (hb hby d32_1) rfl q) ?_
  refine Goes.by (g' := (mkF m 9 #[.val (.int (16 : Int32)), .val (.int (5 : Int32))] [])) (fun _ q => XS.icmpYes X.here X.hx rfl (pc0 := 2) (pc' := 9) rfl (hb hby d32_2) rfl (tlt (show (5 : Int32) < (16 : Int32) from (by decide))).2.2.1 (by decide) (by decide) q) ?_
  refine Goes.by (g' := (mkF m 10 #[.val (.int (16 : Int32)), .val (.int (5 : Int32))] [(.int (5 : Int32))])) (fun _ q => XS.iloadN X.here X.hx rfl (hb hby d32_9) rfl q) ?_
  exact X.retI hret (hb hby d32_10) (by decide) (by decide) ⟨rfl, rfl⟩
set_option maxRecDepth 65536 in
set_option maxHeartbeats 40000000 in
theorem rmChk5 (l : Launch) (Z : State) (a0 : Array Value) (hw : ∀ d ∈ allW, d.before a0 Z = true) (n0 : Nat) (h0 : Heap) (hn0 : n0 ≤ h0.size)  :
    Met l Z n0 (⟨"java/util/Arrays", "checkLength", "(II)V"⟩ : MethodName) jdk_65_method_131_code 2 (Option.none : Option FieldType) ({ frames := 0, cells := 0, slots := 0, locals := 0 } : Room) #[(.int (0 : Int32)), (.int (5 : Int32))] h0 (fun (v : Option Value) (h' : Heap) => v = none ∧ h' = h0) := by
  refine metW (Q := fun (v : Option Value) (h' : Heap) => v = none ∧ h' = h0) pf_31 hn0 ?_
  intro p e s m below meth c T X hby hml hret hnm
  refine Goes.by (g' := (mkF m 0 #[.val (.int (0 : Int32)), .val (.int (5 : Int32))] [])) (fun _ q => castTop (by first | rfl | (simp [entryFrame, mkF, argsToLocals, Value.category]; done)) q) ?_
  refine Goes.by (g' := (mkF m 1 #[.val (.int (0 : Int32)), .val (.int (5 : Int32))] [(.int (5 : Int32))])) (fun _ q => XS.iloadN X.here X.hx rfl (hb hby d31_0) rfl q) ?_
  refine Goes.by (g' := (mkF m 2 #[.val (.int (0 : Int32)), .val (.int (5 : Int32))] [(.int (0 : Int32)), (.int (5 : Int32))])) (fun _ q => XS.iloadN X.here X.hx rfl (hb hby d31_1) rfl q) ?_
  refine Goes.by (g' := (mkF m 37 #[.val (.int (0 : Int32)), .val (.int (5 : Int32))] [])) (fun _ q => XS.icmpYes X.here X.hx rfl (pc0 := 2) (pc' := 37) rfl (hb hby d31_2) rfl (flt (show ¬ (5 : Int32) < (0 : Int32) from (by decide))).2.1 (by decide) (by decide) q) ?_
  exact X.retV hret (hb hby d31_37) (by decide) (by decide) ⟨rfl, rfl⟩
set_option maxRecDepth 65536 in
set_option maxHeartbeats 40000000 in
theorem rmCob5 (l : Launch) (Z : State) (a0 : Array Value) (hw : ∀ d ∈ allW, d.before a0 Z = true) (n0 : Nat) (h0 : Heap) (hn0 : n0 ≤ h0.size) (va : Addr) (A_va : PArr Z h0 va .byte 16 (fun i => if i < 5 then (tv [102, 97, 108, 115, 101]) i else .int 0)) :
    Met l Z n0 (⟨"java/util/Arrays", "copyOfRangeByte", "([BII)[B"⟩ : MethodName) jdk_65_method_133_code 5 (Option.some (.array .byte)) ({ frames := 1, cells := 1, slots := 5, locals := 18 } : Room) #[(.ref va), (.int (0 : Int32)), (.int (5 : Int32))] h0 (fun (v : Option Value) (h' : Heap) => ∃ rb, v = some (.ref rb) ∧ h0.size ≤ rb ∧ Keep h0 h' [] ∧ PArr Z h' rb .byte 5 (tv [102, 97, 108, 115, 101])) := by
  refine metW (Q := fun (v : Option Value) (h' : Heap) => ∃ rb, v = some (.ref rb) ∧ h0.size ≤ rb ∧ Keep h0 h' [] ∧ PArr Z h' rb .byte 5 (tv [102, 97, 108, 115, 101])) pf_30 hn0 ?_
  intro p e s m below meth c T X hby hml hret hnm
  refine Goes.by (g' := (mkF m 0 #[.val (.ref va), .val (.int (0 : Int32)), .val (.int (5 : Int32)), .unset, .unset] [])) (fun _ q => castTop (by first | rfl | (simp [entryFrame, mkF, argsToLocals, Value.category]; done)) q) ?_
  have K0 := Keep.refl h0 []
  refine Goes.by (g' := (mkF m 1 #[.val (.ref va), .val (.int (0 : Int32)), .val (.int (5 : Int32)), .unset, .unset] [(.int (0 : Int32))])) (fun _ q => XS.iloadN X.here X.hx rfl (hb hby d30_0) rfl q) ?_
  refine Goes.by (g' := (mkF m 2 #[.val (.ref va), .val (.int (0 : Int32)), .val (.int (5 : Int32)), .unset, .unset] [(.int (5 : Int32)), (.int (0 : Int32))])) (fun _ q => XS.iloadN X.here X.hx rfl (hb hby d30_1) rfl q) ?_
  have X_o := X
  refine X.callS (hw _ (List.mem_of_getElem? (i := 186) rfl)) (hw _ (List.mem_of_getElem? (i := 187) rfl)) (hw _ (List.mem_of_getElem? (i := 181) rfl)) (hw _ (List.mem_of_getElem? (i := 188) rfl)) (by decide) pd_184293406 (argsL := [(.int (0 : Int32)), (.int (5 : Int32))]) rfl (rmChk5 l Z a0 hw n0 h0 X.n0le) (by rw [hml]; rfl) rfl (by decide) (leB rfl) (hb hby d30_2) (by decide) (by decide) (fun T h53 v X hQ => ?_)
  obtain ⟨rfl, hh⟩ := hQ
  rw [hh] at X
  clear hh
  show Goes _ _ _ _ _ _ _ _ _ T (mkF m 5 #[.val (.ref va), .val (.int (0 : Int32)), .val (.int (5 : Int32)), .unset, .unset] [])
  refine Goes.by (g' := (mkF m 6 #[.val (.ref va), .val (.int (0 : Int32)), .val (.int (5 : Int32)), .unset, .unset] [(.int (5 : Int32))])) (fun _ q => XS.iloadN X.here X.hx rfl (hb hby d30_5) rfl q) ?_
  refine Goes.by (g' := (mkF m 7 #[.val (.ref va), .val (.int (0 : Int32)), .val (.int (5 : Int32)), .unset, .unset] [(.int (0 : Int32)), (.int (5 : Int32))])) (fun _ q => XS.iloadN X.here X.hx rfl (hb hby d30_6) rfl q) ?_
  refine Goes.by (g' := (mkF m 8 #[.val (.ref va), .val (.int (0 : Int32)), .val (.int (5 : Int32)), .unset, .unset] [(.int (5 : Int32))])) (fun _ q => XS.isub X.here X.hx rfl (hb hby d30_7) rfl q) ?_
  refine Goes.by (g' := (mkF m 9 #[.val (.ref va), .val (.int (0 : Int32)), .val (.int (5 : Int32)), .val (.int (5 : Int32)), .unset] [])) (fun _ q => XS.istoreN X.here X.hx rfl (hb hby d30_8) rfl (l' := #[.val (.ref va), .val (.int (0 : Int32)), .val (.int (5 : Int32)), .val (.int (5 : Int32)), .unset]) rfl q) ?_
  refine Goes.by (g' := (mkF m 10 #[.val (.ref va), .val (.int (0 : Int32)), .val (.int (5 : Int32)), .val (.int (5 : Int32)), .unset] [(.int (5 : Int32))])) (fun _ q => XS.iloadN X.here X.hx rfl (hb hby d30_9) rfl q) ?_
  refine X.newA (N := 5) (ad := "[B") (by decide) (hw _ (List.mem_of_getElem? (i := 61) rfl)) (hb hby d30_10) (by decide) (cap := 5) (by decide) (by decide) (by decide) (by decide) (fun T h55 b54 X g_b54 ga_b54 E E_b54 A_b54 => ?_)
  have gz_b54 : h0.size ≤ b54 := by rw [g_b54]; exact K0.1
  have ne_va_b54 : va ≠ b54 := by rw [g_b54]; exact Nat.ne_of_lt A_va.lt
  have K0 := K0.ext E
  have A_va := PArr.ext A_va E
  show Goes _ _ _ _ _ _ _ _ _ T (mkF m 12 #[.val (.ref va), .val (.int (0 : Int32)), .val (.int (5 : Int32)), .val (.int (5 : Int32)), .unset] [(.ref b54)])
  refine Goes.by (g' := (mkF m 14 #[.val (.ref va), .val (.int (0 : Int32)), .val (.int (5 : Int32)), .val (.int (5 : Int32)), .val (.ref b54)] [])) (fun _ q => XS.astore X.here X.hx rfl (hb hby d30_12) rfl rfl (l' := #[.val (.ref va), .val (.int (0 : Int32)), .val (.int (5 : Int32)), .val (.int (5 : Int32)), .val (.ref b54)]) rfl q) ?_
  refine Goes.by (g' := (mkF m 15 #[.val (.ref va), .val (.int (0 : Int32)), .val (.int (5 : Int32)), .val (.int (5 : Int32)), .val (.ref b54)] [(.ref va)])) (fun _ q => XS.aloadN X.here X.hx rfl (hb hby d30_14) rfl rfl q) ?_
  refine Goes.by (g' := (mkF m 16 #[.val (.ref va), .val (.int (0 : Int32)), .val (.int (5 : Int32)), .val (.int (5 : Int32)), .val (.ref b54)] [(.int (0 : Int32)), (.ref va)])) (fun _ q => XS.iloadN X.here X.hx rfl (hb hby d30_15) rfl q) ?_
  refine Goes.by (g' := (mkF m 18 #[.val (.ref va), .val (.int (0 : Int32)), .val (.int (5 : Int32)), .val (.int (5 : Int32)), .val (.ref b54)] [(.ref b54), (.int (0 : Int32)), (.ref va)])) (fun _ q => XS.aload X.here X.hx rfl (hb hby d30_16) rfl rfl q) ?_
  refine Goes.by (g' := (mkF m 19 #[.val (.ref va), .val (.int (0 : Int32)), .val (.int (5 : Int32)), .val (.int (5 : Int32)), .val (.ref b54)] [(.int (0 : Int32)), (.ref b54), (.int (0 : Int32)), (.ref va)])) (fun _ q => XS.iconst X.here X.hx rfl (hb hby d30_18) q) ?_
  refine Goes.by (g' := (mkF m 20 #[.val (.ref va), .val (.int (0 : Int32)), .val (.int (5 : Int32)), .val (.int (5 : Int32)), .val (.ref b54)] [(.ref va), (.int (0 : Int32)), (.ref b54), (.int (0 : Int32)), (.ref va)])) (fun _ q => XS.aloadN X.here X.hx rfl (hb hby d30_19) rfl rfl q) ?_
  refine X.alen A_va (z := (16 : Int32)) (by decide) (hb hby d30_20) ?_
  show Goes _ _ _ _ _ _ _ _ _ T (mkF m 21 #[.val (.ref va), .val (.int (0 : Int32)), .val (.int (5 : Int32)), .val (.int (5 : Int32)), .val (.ref b54)] [(.int (16 : Int32)), (.int (0 : Int32)), (.ref b54), (.int (0 : Int32)), (.ref va)])
  refine Goes.by (g' := (mkF m 22 #[.val (.ref va), .val (.int (0 : Int32)), .val (.int (5 : Int32)), .val (.int (5 : Int32)), .val (.ref b54)] [(.int (0 : Int32)), (.int (16 : Int32)), (.int (0 : Int32)), (.ref b54), (.int (0 : Int32)), (.ref va)])) (fun _ q => XS.iloadN X.here X.hx rfl (hb hby d30_21) rfl q) ?_
  refine Goes.by (g' := (mkF m 23 #[.val (.ref va), .val (.int (0 : Int32)), .val (.int (5 : Int32)), .val (.int (5 : Int32)), .val (.ref b54)] [(.int (16 : Int32)), (.int (0 : Int32)), (.ref b54), (.int (0 : Int32)), (.ref va)])) (fun _ q => XS.isub X.here X.hx rfl (hb hby d30_22) rfl q) ?_
  refine Goes.by (g' := (mkF m 24 #[.val (.ref va), .val (.int (0 : Int32)), .val (.int (5 : Int32)), .val (.int (5 : Int32)), .val (.ref b54)] [(.int (5 : Int32)), (.int (16 : Int32)), (.int (0 : Int32)), (.ref b54), (.int (0 : Int32)), (.ref va)])) (fun _ q => XS.iloadN X.here X.hx rfl (hb hby d30_23) rfl q) ?_
  have X_o := X
  refine X.callS (hw _ (List.mem_of_getElem? (i := 189) rfl)) (hw _ (List.mem_of_getElem? (i := 190) rfl)) (hw _ (List.mem_of_getElem? (i := 191) rfl)) (hw _ (List.mem_of_getElem? (i := 192) rfl)) (by decide) pd_184293393 (argsL := [(.int (16 : Int32)), (.int (5 : Int32))]) rfl (rmMin5 l Z a0 hw n0 h55 X.n0le) (by rw [hml]; rfl) rfl (by decide) (leB rfl) (hb hby d30_24) (by decide) (by decide) (fun T h56 v X hQ => ?_)
  obtain ⟨rfl, hh⟩ := hQ
  rw [hh] at X
  clear hh
  show Goes _ _ _ _ _ _ _ _ _ T (mkF m 27 #[.val (.ref va), .val (.int (0 : Int32)), .val (.int (5 : Int32)), .val (.int (5 : Int32)), .val (.ref b54)] [(.int (5 : Int32)), (.int (0 : Int32)), (.ref b54), (.int (0 : Int32)), (.ref va)])
  refine X.copy (hw _ (List.mem_of_getElem? (i := 193) rfl)) (hw _ (List.mem_of_getElem? (i := 146) rfl)) (hw _ (List.mem_of_getElem? (i := 144) rfl)) (hw _ (List.mem_of_getElem? (i := 145) rfl)) A_va A_b54 rfl (by decide) (by decide) (cnt := 5) (by decide) (by decide) (by decide) ga_b54 (by rw [hml]; rfl) (hb hby d30_27) (by decide) (leB rfl) (fun T h57 X K B => ?_)
  have K0 := K0.trans K (allS (Or.inr gz_b54) all0)
  have A_va := PArr.keep A_va K (ninS ne_va_b54 nin0)
  have E_b54 := E_b54.keep K
  have A_b54 := B
  show Goes _ _ _ _ _ _ _ _ _ T (mkF m 30 #[.val (.ref va), .val (.int (0 : Int32)), .val (.int (5 : Int32)), .val (.int (5 : Int32)), .val (.ref b54)] [])
  refine Goes.by (g' := (mkF m 32 #[.val (.ref va), .val (.int (0 : Int32)), .val (.int (5 : Int32)), .val (.int (5 : Int32)), .val (.ref b54)] [(.ref b54)])) (fun _ q => XS.aload X.here X.hx rfl (hb hby d30_30) rfl rfl q) ?_
  exact X.retA hret rfl rfl (hb hby d30_32) (by decide) (by decide) ⟨b54, rfl, gz_b54, K0, PArr.congr A_b54 fun i hi => by simp [hi]⟩
set_option maxRecDepth 65536 in
set_option maxHeartbeats 40000000 in
theorem rmCop5 (l : Launch) (Z : State) (a0 : Array Value) (hw : ∀ d ∈ allW, d.before a0 Z = true) (n0 : Nat) (h0 : Heap) (hn0 : n0 ≤ h0.size) (va : Addr) (A_va : PArr Z h0 va .byte 16 (fun i => if i < 5 then (tv [102, 97, 108, 115, 101]) i else .int 0)) :
    Met l Z n0 (⟨"java/util/Arrays", "copyOfRange", "([BII)[B"⟩ : MethodName) jdk_65_method_132_code 3 (Option.some (.array .byte)) ({ frames := 2, cells := 1, slots := 5, locals := 34 } : Room) #[(.ref va), (.int (0 : Int32)), (.int (5 : Int32))] h0 (fun (v : Option Value) (h' : Heap) => ∃ rb, v = some (.ref rb) ∧ h0.size ≤ rb ∧ Keep h0 h' [] ∧ PArr Z h' rb .byte 5 (tv [102, 97, 108, 115, 101])) := by
  refine metW (Q := fun (v : Option Value) (h' : Heap) => ∃ rb, v = some (.ref rb) ∧ h0.size ≤ rb ∧ Keep h0 h' [] ∧ PArr Z h' rb .byte 5 (tv [102, 97, 108, 115, 101])) pf_29 hn0 ?_
  intro p e s m below meth c T X hby hml hret hnm
  refine Goes.by (g' := (mkF m 0 #[.val (.ref va), .val (.int (0 : Int32)), .val (.int (5 : Int32))] [])) (fun _ q => castTop (by first | rfl | (simp [entryFrame, mkF, argsToLocals, Value.category]; done)) q) ?_
  have K0 := Keep.refl h0 []
  refine Goes.by (g' := (mkF m 1 #[.val (.ref va), .val (.int (0 : Int32)), .val (.int (5 : Int32))] [(.int (0 : Int32))])) (fun _ q => XS.iloadN X.here X.hx rfl (hb hby d29_0) rfl q) ?_
  refine Goes.by (g' := (mkF m 4 #[.val (.ref va), .val (.int (0 : Int32)), .val (.int (5 : Int32))] [])) (fun _ q => XS.ifNo X.here X.hx rfl (hb hby d29_1) rfl ((if0 _ _).trans (teq (show (0 : Int32) = (0 : Int32) from (by decide))).2) q) ?_
  refine Goes.by (g' := (mkF m 5 #[.val (.ref va), .val (.int (0 : Int32)), .val (.int (5 : Int32))] [(.int (5 : Int32))])) (fun _ q => XS.iloadN X.here X.hx rfl (hb hby d29_4) rfl q) ?_
  refine Goes.by (g' := (mkF m 6 #[.val (.ref va), .val (.int (0 : Int32)), .val (.int (5 : Int32))] [(.ref va), (.int (5 : Int32))])) (fun _ q => XS.aloadN X.here X.hx rfl (hb hby d29_5) rfl rfl q) ?_
  refine X.alen A_va (z := (16 : Int32)) (by decide) (hb hby d29_6) ?_
  show Goes _ _ _ _ _ _ _ _ _ T (mkF m 7 #[.val (.ref va), .val (.int (0 : Int32)), .val (.int (5 : Int32))] [(.int (16 : Int32)), (.int (5 : Int32))])
  refine Goes.by (g' := (mkF m 10 #[.val (.ref va), .val (.int (0 : Int32)), .val (.int (5 : Int32))] [])) (fun _ q => XS.icmpNo X.here X.hx rfl (hb hby d29_7) rfl (feq (show ¬ (5 : Int32) = (16 : Int32) from (by decide))).1 q) ?_
  refine Goes.by (g' := (mkF m 11 #[.val (.ref va), .val (.int (0 : Int32)), .val (.int (5 : Int32))] [(.ref va)])) (fun _ q => XS.aloadN X.here X.hx rfl (hb hby d29_10) rfl rfl q) ?_
  refine Goes.by (g' := (mkF m 12 #[.val (.ref va), .val (.int (0 : Int32)), .val (.int (5 : Int32))] [(.int (0 : Int32)), (.ref va)])) (fun _ q => XS.iloadN X.here X.hx rfl (hb hby d29_11) rfl q) ?_
  refine Goes.by (g' := (mkF m 13 #[.val (.ref va), .val (.int (0 : Int32)), .val (.int (5 : Int32))] [(.int (5 : Int32)), (.int (0 : Int32)), (.ref va)])) (fun _ q => XS.iloadN X.here X.hx rfl (hb hby d29_12) rfl q) ?_
  have X_o := X
  refine X.callS (hw _ (List.mem_of_getElem? (i := 183) rfl)) (hw _ (List.mem_of_getElem? (i := 184) rfl)) (hw _ (List.mem_of_getElem? (i := 181) rfl)) (hw _ (List.mem_of_getElem? (i := 185) rfl)) (by decide) pd_1647730210 (argsL := [(.ref va), (.int (0 : Int32)), (.int (5 : Int32))]) rfl (rmCob5 l Z a0 hw n0 h0 X.n0le va A_va) (by rw [hml]; rfl) rfl (by decide) (leB rfl) (hb hby d29_13) (by decide) (by decide) (fun T h58 v X hQ => ?_)
  obtain ⟨rb, rfl, gz, K, A_rb⟩ := hQ
  have gz_rb : h0.size ≤ rb := Nat.le_trans K0.1 gz
  have ga_rb : n0 ≤ rb := Nat.le_trans X_o.n0le gz
  have ne_va_rb : va ≠ rb := Nat.ne_of_lt (Nat.lt_of_lt_of_le A_va.lt gz)
  have K0 := K0.trans K all0
  have A_va := PArr.keep A_va K nin0
  show Goes _ _ _ _ _ _ _ _ _ T (mkF m 16 #[.val (.ref va), .val (.int (0 : Int32)), .val (.int (5 : Int32))] [(.ref rb)])
  exact X.retA hret rfl rfl (hb hby d29_16) (by decide) (by decide) ⟨rb, rfl, gz_rb, K0, A_rb⟩
set_option maxRecDepth 65536 in
set_option maxHeartbeats 40000000 in
theorem rmSi25 (l : Launch) (Z : State) (a0 : Array Value) (hw : ∀ d ∈ allW, d.before a0 Z = true) (n0 : Nat) (h0 : Heap) (hn0 : n0 ≤ h0.size) (b va : Addr) (ga_b : n0 ≤ b) (ga_va : n0 ≤ va) (ne_b_va : b ≠ va) (E_b : Exa Z h0 b "java/lang/StringBuilder") (F_b_value : Fld Z h0 b "java/lang/AbstractStringBuilder" "value" "[B" (.ref va)) (F_b_coder : Fld Z h0 b "java/lang/AbstractStringBuilder" "coder" "B" (.int 0)) (F_b_count : Fld Z h0 b "java/lang/AbstractStringBuilder" "count" "I" (.int 5)) (A_va : PArr Z h0 va .byte 16 (fun i => if i < 5 then (tv [102, 97, 108, 115, 101]) i else .int 0)) (r : Addr) (ga_r : n0 ≤ r) (E_r : Exa Z h0 r "java/lang/String") (F_r_value : Fld Z h0 r "java/lang/String" "value" "[B" .null) (F_r_coder : Fld Z h0 r "java/lang/String" "coder" "B" (.int (0 : Int32))) (zc : Int32) (hzc : ¬ zc = 0) (S_C : Sta Z Z.heap "java/lang/String" "COMPACT_STRINGS" "Z" (.int zc)) (O_ : Old Z n0 h0) (ne_r_b : r ≠ b) (ne_r_va : r ≠ va) :
    Met l Z n0 (⟨"java/lang/String", "<init>", "(Ljava/lang/AbstractStringBuilder;Ljava/lang/Void;)V"⟩ : MethodName) jdk_42_method_150_code 5 (Option.none : Option FieldType) ({ frames := 3, cells := 1, slots := 5, locals := 49 } : Room) #[(.ref r), (.ref b), .null] h0 (fun (v : Option Value) (h' : Heap) => v = none ∧ Keep h0 h' [r] ∧ ∃ rb, h0.size ≤ rb ∧ Fld Z h' r "java/lang/String" "value" "[B" (.ref rb) ∧ Fld Z h' r "java/lang/String" "coder" "B" (.int 0) ∧ PArr Z h' rb .byte 5 (tv [102, 97, 108, 115, 101])) := by
  refine metW (Q := fun (v : Option Value) (h' : Heap) => v = none ∧ Keep h0 h' [r] ∧ ∃ rb, h0.size ≤ rb ∧ Fld Z h' r "java/lang/String" "value" "[B" (.ref rb) ∧ Fld Z h' r "java/lang/String" "coder" "B" (.int 0) ∧ PArr Z h' rb .byte 5 (tv [102, 97, 108, 115, 101])) pf_24 hn0 ?_
  intro p e s m below meth c T X hby hml hret hnm
  refine Goes.by (g' := (mkF m 0 #[.val (.ref r), .val (.ref b), .val .null, .unset, .unset] [])) (fun _ q => castTop (by first | rfl | (simp [entryFrame, mkF, argsToLocals, Value.category]; done)) q) ?_
  have K0 := Keep.refl h0 [r]
  refine Goes.by (g' := (mkF m 1 #[.val (.ref r), .val (.ref b), .val .null, .unset, .unset] [(.ref r)])) (fun _ q => XS.aloadN X.here X.hx rfl (hb hby d24_0) rfl rfl q) ?_
  refine X.initO (hw _ (List.mem_of_getElem? (i := 160) rfl)) (hw _ (List.mem_of_getElem? (i := 84) rfl)) (hw _ (List.mem_of_getElem? (i := 85) rfl)) (by rw [hml]; rfl) (hb hby d24_1) (by decide) (leB rfl) (fun T X => ?_)
  show Goes _ _ _ _ _ _ _ _ _ T (mkF m 4 #[.val (.ref r), .val (.ref b), .val .null, .unset, .unset] [])
  refine Goes.by (g' := (mkF m 5 #[.val (.ref r), .val (.ref b), .val .null, .unset, .unset] [(.ref b)])) (fun _ q => XS.aloadN X.here X.hx rfl (hb hby d24_4) rfl rfl q) ?_
  have X_o := X
  refine X.callV E_b (hw _ (List.mem_of_getElem? (i := 161) rfl)) (hw _ (List.mem_of_getElem? (i := 162) rfl)) (hw _ (List.mem_of_getElem? (i := 164) rfl)) (hw _ (List.mem_of_getElem? (i := 125) rfl)) rfl (hw _ (List.mem_of_getElem? (i := 163) rfl)) (hw _ (List.mem_of_getElem? (i := 81) rfl)) (hw _ (List.mem_of_getElem? (i := 165) rfl)) (by decide) pd_2087958803 (argsL := []) rfl (rmGV l Z a0 hw n0 h0 X.n0le b va F_b_value) (by rw [hml]; rfl) rfl (by decide) (leB rfl) (hb hby d24_5) (by decide) (by decide) (fun T h59 v X hQ => ?_)
  obtain ⟨rfl, hh⟩ := hQ
  rw [hh] at X
  clear hh
  show Goes _ _ _ _ _ _ _ _ _ T (mkF m 8 #[.val (.ref r), .val (.ref b), .val .null, .unset, .unset] [(.ref va)])
  refine Goes.by (g' := (mkF m 9 #[.val (.ref r), .val (.ref b), .val .null, .val (.ref va), .unset] [])) (fun _ q => XS.astoreN X.here X.hx rfl (hb hby d24_8) rfl rfl (l' := #[.val (.ref r), .val (.ref b), .val .null, .val (.ref va), .unset]) rfl q) ?_
  refine Goes.by (g' := (mkF m 10 #[.val (.ref r), .val (.ref b), .val .null, .val (.ref va), .unset] [(.ref b)])) (fun _ q => XS.aloadN X.here X.hx rfl (hb hby d24_9) rfl rfl q) ?_
  have X_o := X
  refine X.callV E_b (hw _ (List.mem_of_getElem? (i := 166) rfl)) (hw _ (List.mem_of_getElem? (i := 167) rfl)) (hw _ (List.mem_of_getElem? (i := 169) rfl)) (hw _ (List.mem_of_getElem? (i := 125) rfl)) rfl (hw _ (List.mem_of_getElem? (i := 170) rfl)) (hw _ (List.mem_of_getElem? (i := 73) rfl)) (hw _ (List.mem_of_getElem? (i := 171) rfl)) (by decide) pd_193421983 (argsL := []) rfl (rmSL5 l Z a0 hw n0 h0 X.n0le b E_b F_b_count) (by rw [hml]; rfl) rfl (by decide) (leB rfl) (hb hby d24_10) (by decide) (by decide) (fun T h60 v X hQ => ?_)
  obtain ⟨rfl, hh⟩ := hQ
  rw [hh] at X
  clear hh
  show Goes _ _ _ _ _ _ _ _ _ T (mkF m 13 #[.val (.ref r), .val (.ref b), .val .null, .val (.ref va), .unset] [(.int (5 : Int32))])
  refine Goes.by (g' := (mkF m 15 #[.val (.ref r), .val (.ref b), .val .null, .val (.ref va), .val (.int (5 : Int32))] [])) (fun _ q => XS.istore X.here X.hx rfl (hb hby d24_13) rfl (l' := #[.val (.ref r), .val (.ref b), .val .null, .val (.ref va), .val (.int (5 : Int32))]) rfl q) ?_
  refine Goes.by (g' := (mkF m 16 #[.val (.ref r), .val (.ref b), .val .null, .val (.ref va), .val (.int (5 : Int32))] [(.ref b)])) (fun _ q => XS.aloadN X.here X.hx rfl (hb hby d24_15) rfl rfl q) ?_
  have X_o := X
  refine X.callV E_b (hw _ (List.mem_of_getElem? (i := 174) rfl)) (hw _ (List.mem_of_getElem? (i := 175) rfl)) (hw _ (List.mem_of_getElem? (i := 177) rfl)) (hw _ (List.mem_of_getElem? (i := 125) rfl)) rfl (hw _ (List.mem_of_getElem? (i := 176) rfl)) (hw _ (List.mem_of_getElem? (i := 81) rfl)) (hw _ (List.mem_of_getElem? (i := 178) rfl)) (by decide) pd_193422000 (argsL := []) rfl (rmIsL l Z a0 hw n0 h0 X.n0le b F_b_coder zc hzc S_C O_) (by rw [hml]; rfl) rfl (by decide) (leB rfl) (hb hby d24_16) (by decide) (by decide) (fun T h61 v X hQ => ?_)
  obtain ⟨rfl, hh⟩ := hQ
  rw [hh] at X
  clear hh
  show Goes _ _ _ _ _ _ _ _ _ T (mkF m 19 #[.val (.ref r), .val (.ref b), .val .null, .val (.ref va), .val (.int (5 : Int32))] [(.int (1 : Int32))])
  refine Goes.by (g' := (mkF m 22 #[.val (.ref r), .val (.ref b), .val .null, .val (.ref va), .val (.int (5 : Int32))] [])) (fun _ q => XS.ifNo X.here X.hx rfl (hb hby d24_19) rfl ((if0 _ _).trans (feq (show ¬ (1 : Int32) = (0 : Int32) from (by decide))).1) q) ?_
  refine Goes.by (g' := (mkF m 23 #[.val (.ref r), .val (.ref b), .val .null, .val (.ref va), .val (.int (5 : Int32))] [(.ref r)])) (fun _ q => XS.aloadN X.here X.hx rfl (hb hby d24_22) rfl rfl q) ?_
  refine Goes.by (g' := (mkF m 24 #[.val (.ref r), .val (.ref b), .val .null, .val (.ref va), .val (.int (5 : Int32))] [(.int (0 : Int32)), (.ref r)])) (fun _ q => XS.iconst X.here X.hx rfl (hb hby d24_23) q) ?_
  refine X.putF (host := "") (Or.inl (hw _ (List.mem_of_getElem? (i := 119) rfl))) Via.refl F_r_coder E_r (Or.inr ⟨(hw _ (List.mem_of_getElem? (i := 63) rfl)), rfl, hnm⟩) (hw _ (List.mem_of_getElem? (i := 60) rfl)) (ty := .byte) (by decide) rfl rfl ga_r (hb hby d24_24) (fun T h62 X W => ?_)
  have K0 := K0.wr W (Or.inl (by simp))
  have O_ := O_.wr W ga_r
  have E_r := E_r.wr W
  have F_r_value := F_r_value.other W (Or.inr (slot_ne (Or.inr (hw _ (List.mem_of_getElem? (i := 62) rfl))) (Or.inr (hw _ (List.mem_of_getElem? (i := 63) rfl))) (by decide) (t := (.array .byte)) (t' := .byte) (by decide) (by decide)))
  have F_r_coder := F_r_coder.same W
  have E_b := E_b.wr W
  have F_b_value := F_b_value.other W (Or.inl (Ne.symm ne_r_b))
  have F_b_coder := F_b_coder.other W (Or.inl (Ne.symm ne_r_b))
  have F_b_count := F_b_count.other W (Or.inl (Ne.symm ne_r_b))
  have A_va := PArr.other A_va W (Ne.symm ne_r_va)
  show Goes _ _ _ _ _ _ _ _ _ T (mkF m 27 #[.val (.ref r), .val (.ref b), .val .null, .val (.ref va), .val (.int (5 : Int32))] [])
  refine Goes.by (g' := (mkF m 28 #[.val (.ref r), .val (.ref b), .val .null, .val (.ref va), .val (.int (5 : Int32))] [(.ref r)])) (fun _ q => XS.aloadN X.here X.hx rfl (hb hby d24_27) rfl rfl q) ?_
  refine Goes.by (g' := (mkF m 29 #[.val (.ref r), .val (.ref b), .val .null, .val (.ref va), .val (.int (5 : Int32))] [(.ref va), (.ref r)])) (fun _ q => XS.aloadN X.here X.hx rfl (hb hby d24_28) rfl rfl q) ?_
  refine Goes.by (g' := (mkF m 30 #[.val (.ref r), .val (.ref b), .val .null, .val (.ref va), .val (.int (5 : Int32))] [(.int (0 : Int32)), (.ref va), (.ref r)])) (fun _ q => XS.iconst X.here X.hx rfl (hb hby d24_29) q) ?_
  refine Goes.by (g' := (mkF m 32 #[.val (.ref r), .val (.ref b), .val .null, .val (.ref va), .val (.int (5 : Int32))] [(.int (5 : Int32)), (.int (0 : Int32)), (.ref va), (.ref r)])) (fun _ q => XS.iload X.here X.hx rfl (hb hby d24_30) rfl q) ?_
  have X_o := X
  refine X.callS (hw _ (List.mem_of_getElem? (i := 179) rfl)) (hw _ (List.mem_of_getElem? (i := 180) rfl)) (hw _ (List.mem_of_getElem? (i := 181) rfl)) (hw _ (List.mem_of_getElem? (i := 182) rfl)) (by decide) pd_1647730210 (argsL := [(.ref va), (.int (0 : Int32)), (.int (5 : Int32))]) rfl (rmCop5 l Z a0 hw n0 h62 X.n0le va A_va) (by rw [hml]; rfl) rfl (by decide) (leB rfl) (hb hby d24_32) (by decide) (by decide) (fun T h63 v X hQ => ?_)
  obtain ⟨rb, rfl, gz, K, A_rb⟩ := hQ
  have gz_rb : h0.size ≤ rb := Nat.le_trans K0.1 gz
  have ga_rb : n0 ≤ rb := Nat.le_trans X_o.n0le gz
  have ne_r_rb : r ≠ rb := Nat.ne_of_lt (Nat.lt_of_lt_of_le E_r.lt gz)
  have ne_b_rb : b ≠ rb := Nat.ne_of_lt (Nat.lt_of_lt_of_le E_b.lt gz)
  have ne_va_rb : va ≠ rb := Nat.ne_of_lt (Nat.lt_of_lt_of_le A_va.lt gz)
  have K0 := K0.trans K all0
  have O_ := O_.keep K all0
  have E_r := E_r.keep K
  have F_r_value := F_r_value.keep K nin0
  have F_r_coder := F_r_coder.keep K nin0
  have E_b := E_b.keep K
  have F_b_value := F_b_value.keep K nin0
  have F_b_coder := F_b_coder.keep K nin0
  have F_b_count := F_b_count.keep K nin0
  have A_va := PArr.keep A_va K nin0
  show Goes _ _ _ _ _ _ _ _ _ T (mkF m 35 #[.val (.ref r), .val (.ref b), .val .null, .val (.ref va), .val (.int (5 : Int32))] [(.ref rb), (.ref r)])
  refine X.putF (host := "") (Or.inl (hw _ (List.mem_of_getElem? (i := 112) rfl))) Via.refl F_r_value E_r (Or.inr ⟨(hw _ (List.mem_of_getElem? (i := 62) rfl)), rfl, hnm⟩) (hw _ (List.mem_of_getElem? (i := 60) rfl)) (ty := (.array .byte)) (by decide) rfl rfl ga_r (hb hby d24_35) (fun T h64 X W => ?_)
  have K0 := K0.wr W (Or.inl (by simp))
  have O_ := O_.wr W ga_r
  have E_r := E_r.wr W
  have F_r_value := F_r_value.same W
  have F_r_coder := F_r_coder.other W (Or.inr (slot_ne (Or.inr (hw _ (List.mem_of_getElem? (i := 63) rfl))) (Or.inr (hw _ (List.mem_of_getElem? (i := 62) rfl))) (by decide) (t := .byte) (t' := (.array .byte)) (by decide) (by decide)))
  have E_b := E_b.wr W
  have F_b_value := F_b_value.other W (Or.inl (Ne.symm ne_r_b))
  have F_b_coder := F_b_coder.other W (Or.inl (Ne.symm ne_r_b))
  have F_b_count := F_b_count.other W (Or.inl (Ne.symm ne_r_b))
  have A_va := PArr.other A_va W (Ne.symm ne_r_va)
  have A_rb := PArr.other A_rb W (Ne.symm ne_r_rb)
  show Goes _ _ _ _ _ _ _ _ _ T (mkF m 38 #[.val (.ref r), .val (.ref b), .val .null, .val (.ref va), .val (.int (5 : Int32))] [])
  refine Goes.by (g' := (mkF m 97 #[.val (.ref r), .val (.ref b), .val .null, .val (.ref va), .val (.int (5 : Int32))] [])) (fun _ q => XS.goto X.here X.hx rfl (pc0 := 38) (pc' := 97) rfl (hb hby d24_38) (by decide) (by decide) q) ?_
  exact X.retV hret (hb hby d24_97) (by decide) (by decide) ⟨rfl, K0, rb, gz_rb, F_r_value, F_r_coder, A_rb⟩
set_option maxRecDepth 65536 in
set_option maxHeartbeats 40000000 in
theorem rmSi15 (l : Launch) (Z : State) (a0 : Array Value) (hw : ∀ d ∈ allW, d.before a0 Z = true) (n0 : Nat) (h0 : Heap) (hn0 : n0 ≤ h0.size) (b va : Addr) (ga_b : n0 ≤ b) (ga_va : n0 ≤ va) (ne_b_va : b ≠ va) (E_b : Exa Z h0 b "java/lang/StringBuilder") (F_b_value : Fld Z h0 b "java/lang/AbstractStringBuilder" "value" "[B" (.ref va)) (F_b_coder : Fld Z h0 b "java/lang/AbstractStringBuilder" "coder" "B" (.int 0)) (F_b_count : Fld Z h0 b "java/lang/AbstractStringBuilder" "count" "I" (.int 5)) (A_va : PArr Z h0 va .byte 16 (fun i => if i < 5 then (tv [102, 97, 108, 115, 101]) i else .int 0)) (r : Addr) (ga_r : n0 ≤ r) (E_r : Exa Z h0 r "java/lang/String") (F_r_value : Fld Z h0 r "java/lang/String" "value" "[B" .null) (F_r_coder : Fld Z h0 r "java/lang/String" "coder" "B" (.int (0 : Int32))) (zc : Int32) (hzc : ¬ zc = 0) (S_C : Sta Z Z.heap "java/lang/String" "COMPACT_STRINGS" "Z" (.int zc)) (O_ : Old Z n0 h0) (ne_r_b : r ≠ b) (ne_r_va : r ≠ va) :
    Met l Z n0 (⟨"java/lang/String", "<init>", "(Ljava/lang/StringBuilder;)V"⟩ : MethodName) jdk_42_method_53_code 2 (Option.none : Option FieldType) ({ frames := 4, cells := 1, slots := 5, locals := 65 } : Room) #[(.ref r), (.ref b)] h0 (fun (v : Option Value) (h' : Heap) => v = none ∧ Keep h0 h' [r] ∧ ∃ rb, h0.size ≤ rb ∧ Fld Z h' r "java/lang/String" "value" "[B" (.ref rb) ∧ Fld Z h' r "java/lang/String" "coder" "B" (.int 0) ∧ PArr Z h' rb .byte 5 (tv [102, 97, 108, 115, 101])) := by
  refine metW (Q := fun (v : Option Value) (h' : Heap) => v = none ∧ Keep h0 h' [r] ∧ ∃ rb, h0.size ≤ rb ∧ Fld Z h' r "java/lang/String" "value" "[B" (.ref rb) ∧ Fld Z h' r "java/lang/String" "coder" "B" (.int 0) ∧ PArr Z h' rb .byte 5 (tv [102, 97, 108, 115, 101])) pf_23 hn0 ?_
  intro p e s m below meth c T X hby hml hret hnm
  refine Goes.by (g' := (mkF m 0 #[.val (.ref r), .val (.ref b)] [])) (fun _ q => castTop (by first | rfl | (simp [entryFrame, mkF, argsToLocals, Value.category]; done)) q) ?_
  have K0 := Keep.refl h0 [r]
  refine Goes.by (g' := (mkF m 1 #[.val (.ref r), .val (.ref b)] [(.ref r)])) (fun _ q => XS.aloadN X.here X.hx rfl (hb hby d23_0) rfl rfl q) ?_
  refine Goes.by (g' := (mkF m 2 #[.val (.ref r), .val (.ref b)] [(.ref b), (.ref r)])) (fun _ q => XS.aloadN X.here X.hx rfl (hb hby d23_1) rfl rfl q) ?_
  refine Goes.by (g' := (mkF m 3 #[.val (.ref r), .val (.ref b)] [.null, (.ref b), (.ref r)])) (fun _ q => XS.aconstNull X.here X.hx rfl (hb hby d23_2) q) ?_
  have X_o := X
  refine X.callN rfl (hw _ (List.mem_of_getElem? (i := 157) rfl)) (hw _ (List.mem_of_getElem? (i := 158) rfl)) (hw _ (List.mem_of_getElem? (i := 59) rfl)) (hw _ (List.mem_of_getElem? (i := 159) rfl)) (by decide) pd_235917794 (argsL := [(.ref b), .null]) rfl (rmSi25 l Z a0 hw n0 h0 X.n0le b va ga_b ga_va ne_b_va E_b F_b_value F_b_coder F_b_count A_va r ga_r E_r F_r_value F_r_coder zc hzc S_C O_ ne_r_b ne_r_va) (by rw [hml]; rfl) rfl (by decide) (leB rfl) (hb hby d23_3) (by decide) (by decide) (fun T h65 v X hQ => ?_)
  obtain ⟨rfl, K, rb, gz, F_r_value, F_r_coder, A_rb⟩ := hQ
  have gz_rb : h0.size ≤ rb := Nat.le_trans K0.1 gz
  have ga_rb : n0 ≤ rb := Nat.le_trans X_o.n0le gz
  have ne_r_rb : r ≠ rb := Nat.ne_of_lt (Nat.lt_of_lt_of_le E_r.lt gz)
  have ne_b_rb : b ≠ rb := Nat.ne_of_lt (Nat.lt_of_lt_of_le E_b.lt gz)
  have ne_va_rb : va ≠ rb := Nat.ne_of_lt (Nat.lt_of_lt_of_le A_va.lt gz)
  have K0 := K0.trans K (allS (Or.inl (by simp)) all0)
  have O_ := O_.keep K (allS ga_r all0)
  have E_r := E_r.keep K
  have E_b := E_b.keep K
  have F_b_value := F_b_value.keep K (ninS (Ne.symm ne_r_b) nin0)
  have F_b_coder := F_b_coder.keep K (ninS (Ne.symm ne_r_b) nin0)
  have F_b_count := F_b_count.keep K (ninS (Ne.symm ne_r_b) nin0)
  have A_va := PArr.keep A_va K (ninS (Ne.symm ne_r_va) nin0)
  show Goes _ _ _ _ _ _ _ _ _ T (mkF m 6 #[.val (.ref r), .val (.ref b)] [])
  exact X.retV hret (hb hby d23_6) (by decide) (by decide) ⟨rfl, K0, rb, gz_rb, F_r_value, F_r_coder, A_rb⟩
set_option maxRecDepth 65536 in
set_option maxHeartbeats 40000000 in
theorem rmToS5 (l : Launch) (Z : State) (a0 : Array Value) (hw : ∀ d ∈ allW, d.before a0 Z = true) (n0 : Nat) (h0 : Heap) (hn0 : n0 ≤ h0.size) (b va : Addr) (ga_b : n0 ≤ b) (ga_va : n0 ≤ va) (ne_b_va : b ≠ va) (E_b : Exa Z h0 b "java/lang/StringBuilder") (F_b_value : Fld Z h0 b "java/lang/AbstractStringBuilder" "value" "[B" (.ref va)) (F_b_coder : Fld Z h0 b "java/lang/AbstractStringBuilder" "coder" "B" (.int 0)) (F_b_count : Fld Z h0 b "java/lang/AbstractStringBuilder" "count" "I" (.int 5)) (A_va : PArr Z h0 va .byte 16 (fun i => if i < 5 then (tv [102, 97, 108, 115, 101]) i else .int 0)) (zc : Int32) (hzc : ¬ zc = 0) (S_C : Sta Z Z.heap "java/lang/String" "COMPACT_STRINGS" "Z" (.int zc)) (O_ : Old Z n0 h0) :
    Met l Z n0 (⟨"java/lang/StringBuilder", "toString", "()Ljava/lang/String;"⟩ : MethodName) jdk_67_method_42_code 1 (Option.some (.object "java/lang/String")) ({ frames := 5, cells := 2, slots := 9, locals := 79 } : Room) #[(.ref b)] h0 (fun (v : Option Value) (h' : Heap) => ∃ r rb, v = some (.ref r) ∧ h0.size ≤ r ∧ h0.size ≤ rb ∧ Keep h0 h' [] ∧ Exa Z h' r "java/lang/String" ∧ Fld Z h' r "java/lang/String" "value" "[B" (.ref rb) ∧ Fld Z h' r "java/lang/String" "coder" "B" (.int 0) ∧ PArr Z h' rb .byte 5 (tv [102, 97, 108, 115, 101])) := by
  refine metW (Q := fun (v : Option Value) (h' : Heap) => ∃ r rb, v = some (.ref r) ∧ h0.size ≤ r ∧ h0.size ≤ rb ∧ Keep h0 h' [] ∧ Exa Z h' r "java/lang/String" ∧ Fld Z h' r "java/lang/String" "value" "[B" (.ref rb) ∧ Fld Z h' r "java/lang/String" "coder" "B" (.int 0) ∧ PArr Z h' rb .byte 5 (tv [102, 97, 108, 115, 101])) pf_22 hn0 ?_
  intro p e s m below meth c T X hby hml hret hnm
  refine Goes.by (g' := (mkF m 0 #[.val (.ref b)] [])) (fun _ q => castTop (by first | rfl | (simp [entryFrame, mkF, argsToLocals, Value.category]; done)) q) ?_
  have K0 := Keep.refl h0 []
  refine X.newO (hw _ (List.mem_of_getElem? (i := 152) rfl)) (hw _ (List.mem_of_getElem? (i := 60) rfl)) (hw _ (List.mem_of_getElem? (i := 59) rfl)) (hb hby d22_0) (by decide) (by decide) (fun T h67 b66 X g_b66 ga_b66 E E_b66 D_b66 => ?_)
  have gz_b66 : h0.size ≤ b66 := by rw [g_b66]; exact K0.1
  have ne_b_b66 : b ≠ b66 := by rw [g_b66]; exact Nat.ne_of_lt E_b.lt
  have ne_va_b66 : va ≠ b66 := by rw [g_b66]; exact Nat.ne_of_lt A_va.lt
  have K0 := K0.ext E
  have O_ := O_.ext E
  have E_b := E_b.ext E
  have F_b_value := F_b_value.ext E
  have F_b_coder := F_b_coder.ext E
  have F_b_count := F_b_count.ext E
  have A_va := PArr.ext A_va E
  have F_b66_value : Fld Z h67 b66 "java/lang/String" "value" "[B" .null := D_b66 (Or.inr (hw _ (List.mem_of_getElem? (i := 62) rfl))) (ty := (.array .byte)) (by decide)
  have F_b66_coder : Fld Z h67 b66 "java/lang/String" "coder" "B" (.int (0 : Int32)) := D_b66 (Or.inr (hw _ (List.mem_of_getElem? (i := 63) rfl))) (ty := .byte) (by decide)
  show Goes _ _ _ _ _ _ _ _ _ T (mkF m 3 #[.val (.ref b)] [(.ref b66)])
  refine Goes.by (g' := (mkF m 4 #[.val (.ref b)] [(.ref b66), (.ref b66)])) (fun _ q => XS.dup X.here X.hx rfl (hb hby d22_3) rfl rfl q) ?_
  refine Goes.by (g' := (mkF m 5 #[.val (.ref b)] [(.ref b), (.ref b66), (.ref b66)])) (fun _ q => XS.aloadN X.here X.hx rfl (hb hby d22_4) rfl rfl q) ?_
  have X_o := X
  refine X.callN rfl (hw _ (List.mem_of_getElem? (i := 153) rfl)) (hw _ (List.mem_of_getElem? (i := 154) rfl)) (hw _ (List.mem_of_getElem? (i := 59) rfl)) (hw _ (List.mem_of_getElem? (i := 156) rfl)) (by decide) pd_591813651 (argsL := [(.ref b)]) rfl (rmSi15 l Z a0 hw n0 h67 X.n0le b va ga_b ga_va ne_b_va E_b F_b_value F_b_coder F_b_count A_va b66 ga_b66 E_b66 F_b66_value F_b66_coder zc hzc S_C O_ (Ne.symm ne_b_b66) (Ne.symm ne_va_b66)) (by rw [hml]; rfl) rfl (by decide) (leB rfl) (hb hby d22_5) (by decide) (by decide) (fun T h68 v X hQ => ?_)
  obtain ⟨rfl, K, rb, gz, F_b66_value, F_b66_coder, A_rb⟩ := hQ
  have gz_rb : h0.size ≤ rb := Nat.le_trans K0.1 gz
  have ga_rb : n0 ≤ rb := Nat.le_trans X_o.n0le gz
  have ne_b_rb : b ≠ rb := Nat.ne_of_lt (Nat.lt_of_lt_of_le E_b.lt gz)
  have ne_b66_rb : b66 ≠ rb := Nat.ne_of_lt (Nat.lt_of_lt_of_le E_b66.lt gz)
  have ne_va_rb : va ≠ rb := Nat.ne_of_lt (Nat.lt_of_lt_of_le A_va.lt gz)
  have K0 := K0.trans K (allS (Or.inr gz_b66) all0)
  have O_ := O_.keep K (allS ga_b66 all0)
  have E_b := E_b.keep K
  have F_b_value := F_b_value.keep K (ninS ne_b_b66 nin0)
  have F_b_coder := F_b_coder.keep K (ninS ne_b_b66 nin0)
  have F_b_count := F_b_count.keep K (ninS ne_b_b66 nin0)
  have A_va := PArr.keep A_va K (ninS ne_va_b66 nin0)
  have E_b66 := E_b66.keep K
  show Goes _ _ _ _ _ _ _ _ _ T (mkF m 8 #[.val (.ref b)] [(.ref b66)])
  exact X.retA hret rfl rfl (hb hby d22_8) (by decide) (by decide) ⟨b66, rb, rfl, gz_b66, gz_rb, K0, E_b66, F_b66_value, F_b66_coder, A_rb⟩
set_option maxRecDepth 65536 in
set_option maxHeartbeats 40000000 in
theorem rmToJ5 (l : Launch) (Z : State) (a0 : Array Value) (hw : ∀ d ∈ allW, d.before a0 Z = true) (n0 : Nat) (h0 : Heap) (hn0 : n0 ≤ h0.size) (x tb : Addr) (E_x : Exa Z h0 x "java/lang/String") (F_x_value : Fld Z h0 x "java/lang/String" "value" "[B" (.ref tb)) (F_x_coder : Fld Z h0 x "java/lang/String" "coder" "B" (.int 0)) (A_tb : PArr Z h0 tb .byte 5 (tv [102, 97, 108, 115, 101])) (zc : Int32) (hzc : ¬ zc = 0) (S_C : Sta Z Z.heap "java/lang/String" "COMPACT_STRINGS" "Z" (.int zc)) (O_ : Old Z n0 h0) (a_BOOLEAN : Addr) (a_OBJECT : Addr) (S_OBJECT : Sta Z Z.heap "com/example/riskweave/riskweave/scenario/JsonValue$Kind" "OBJECT" "Lcom/example/riskweave/riskweave/scenario/JsonValue$Kind;" (.ref a_OBJECT)) (a_ARRAY : Addr) (S_ARRAY : Sta Z Z.heap "com/example/riskweave/riskweave/scenario/JsonValue$Kind" "ARRAY" "Lcom/example/riskweave/riskweave/scenario/JsonValue$Kind;" (.ref a_ARRAY)) (a_STRING : Addr) (S_STRING : Sta Z Z.heap "com/example/riskweave/riskweave/scenario/JsonValue$Kind" "STRING" "Lcom/example/riskweave/riskweave/scenario/JsonValue$Kind;" (.ref a_STRING)) (n_OBJECT : a_BOOLEAN ≠ a_OBJECT) (n_ARRAY : a_BOOLEAN ≠ a_ARRAY) (n_STRING : a_BOOLEAN ≠ a_STRING) (a : Addr) (E_a : Exa Z h0 a "com/example/riskweave/riskweave/scenario/JsonValue") (F_a_kind : Fld Z h0 a "com/example/riskweave/riskweave/scenario/JsonValue" "kind" "Lcom/example/riskweave/riskweave/scenario/JsonValue$Kind;" (.ref a_BOOLEAN)) (F_a_text : Fld Z h0 a "com/example/riskweave/riskweave/scenario/JsonValue" "text" "Ljava/lang/String;" (.ref x)) :
    Met l Z n0 (⟨"com/example/riskweave/riskweave/scenario/JsonValue", "toString", "()Ljava/lang/String;"⟩ : MethodName) prog_74_method_23_code 2 (Option.some (.object "java/lang/String")) ({ frames := 6, cells := 4, slots := 29, locals := 91 } : Room) #[(.ref a)] h0 (fun (v : Option Value) (h' : Heap) => ∃ r rb, v = some (.ref r) ∧ h0.size ≤ r ∧ h0.size ≤ rb ∧ Keep h0 h' [] ∧ Exa Z h' r "java/lang/String" ∧ Fld Z h' r "java/lang/String" "value" "[B" (.ref rb) ∧ Fld Z h' r "java/lang/String" "coder" "B" (.int 0) ∧ PArr Z h' rb .byte 5 (tv [102, 97, 108, 115, 101])) := by
  refine metW (Q := fun (v : Option Value) (h' : Heap) => ∃ r rb, v = some (.ref r) ∧ h0.size ≤ r ∧ h0.size ≤ rb ∧ Keep h0 h' [] ∧ Exa Z h' r "java/lang/String" ∧ Fld Z h' r "java/lang/String" "value" "[B" (.ref rb) ∧ Fld Z h' r "java/lang/String" "coder" "B" (.int 0) ∧ PArr Z h' rb .byte 5 (tv [102, 97, 108, 115, 101])) pf_9 hn0 ?_
  intro p e s m below meth c T X hby hml hret hnm
  refine Goes.by (g' := (mkF m 0 #[.val (.ref a), .unset] [])) (fun _ q => castTop (by first | rfl | (simp [entryFrame, mkF, argsToLocals, Value.category]; done)) q) ?_
  have K0 := Keep.refl h0 []
  refine X.newO (hw _ (List.mem_of_getElem? (i := 71) rfl)) (hw _ (List.mem_of_getElem? (i := 72) rfl)) (hw _ (List.mem_of_getElem? (i := 73) rfl)) (hb hby d9_0) (by decide) (by decide) (fun T h70 b69 X g_b69 ga_b69 E E_b69 D_b69 => ?_)
  have gz_b69 : h0.size ≤ b69 := by rw [g_b69]; exact K0.1
  have ne_x_b69 : x ≠ b69 := by rw [g_b69]; exact Nat.ne_of_lt E_x.lt
  have ne_tb_b69 : tb ≠ b69 := by rw [g_b69]; exact Nat.ne_of_lt A_tb.lt
  have ne_a_b69 : a ≠ b69 := by rw [g_b69]; exact Nat.ne_of_lt E_a.lt
  have K0 := K0.ext E
  have O_ := O_.ext E
  have E_x := E_x.ext E
  have F_x_value := F_x_value.ext E
  have F_x_coder := F_x_coder.ext E
  have A_tb := PArr.ext A_tb E
  have E_a := E_a.ext E
  have F_a_kind := F_a_kind.ext E
  have F_a_text := F_a_text.ext E
  have F_b69_value : Fld Z h70 b69 "java/lang/AbstractStringBuilder" "value" "[B" .null := D_b69 (Or.inl (hw _ (List.mem_of_getElem? (i := 88) rfl))) (ty := (.array .byte)) (by decide)
  have F_b69_coder : Fld Z h70 b69 "java/lang/AbstractStringBuilder" "coder" "B" (.int (0 : Int32)) := D_b69 (Or.inl (hw _ (List.mem_of_getElem? (i := 90) rfl))) (ty := .byte) (by decide)
  have F_b69_count : Fld Z h70 b69 "java/lang/AbstractStringBuilder" "count" "I" (.int (0 : Int32)) := D_b69 (Or.inl (hw _ (List.mem_of_getElem? (i := 121) rfl))) (ty := .int) (by decide)
  show Goes _ _ _ _ _ _ _ _ _ T (mkF m 3 #[.val (.ref a), .unset] [(.ref b69)])
  refine Goes.by (g' := (mkF m 4 #[.val (.ref a), .unset] [(.ref b69), (.ref b69)])) (fun _ q => XS.dup X.here X.hx rfl (hb hby d9_3) rfl rfl q) ?_
  have X_o := X
  refine X.callN rfl (hw _ (List.mem_of_getElem? (i := 74) rfl)) (hw _ (List.mem_of_getElem? (i := 75) rfl)) (hw _ (List.mem_of_getElem? (i := 73) rfl)) (hw _ (List.mem_of_getElem? (i := 76) rfl)) (by decide) pd_193421996 (argsL := []) rfl (rmSBI l Z a0 hw n0 h70 X.n0le b69 ga_b69 E_b69 F_b69_value F_b69_coder F_b69_count zc hzc S_C O_) (by rw [hml]; rfl) rfl (by decide) (leB rfl) (hb hby d9_4) (by decide) (by decide) (fun T h71 v X hQ => ?_)
  obtain ⟨rfl, K, va, gz, F_b69_value, F_b69_coder, F_b69_count, A_va⟩ := hQ
  have gz_va : h0.size ≤ va := Nat.le_trans K0.1 gz
  have ga_va : n0 ≤ va := Nat.le_trans X_o.n0le gz
  have ne_x_va : x ≠ va := Nat.ne_of_lt (Nat.lt_of_lt_of_le E_x.lt gz)
  have ne_a_va : a ≠ va := Nat.ne_of_lt (Nat.lt_of_lt_of_le E_a.lt gz)
  have ne_b69_va : b69 ≠ va := Nat.ne_of_lt (Nat.lt_of_lt_of_le E_b69.lt gz)
  have ne_tb_va : tb ≠ va := Nat.ne_of_lt (Nat.lt_of_lt_of_le A_tb.lt gz)
  have K0 := K0.trans K (allS (Or.inr gz_b69) all0)
  have O_ := O_.keep K (allS ga_b69 all0)
  have E_x := E_x.keep K
  have F_x_value := F_x_value.keep K (ninS ne_x_b69 nin0)
  have F_x_coder := F_x_coder.keep K (ninS ne_x_b69 nin0)
  have A_tb := PArr.keep A_tb K (ninS ne_tb_b69 nin0)
  have E_a := E_a.keep K
  have F_a_kind := F_a_kind.keep K (ninS ne_a_b69 nin0)
  have F_a_text := F_a_text.keep K (ninS ne_a_b69 nin0)
  have E_b69 := E_b69.keep K
  show Goes _ _ _ _ _ _ _ _ _ T (mkF m 7 #[.val (.ref a), .unset] [(.ref b69)])
  refine Goes.by (g' := (mkF m 8 #[.val (.ref a), .val (.ref b69)] [])) (fun _ q => XS.astoreN X.here X.hx rfl (hb hby d9_7) rfl rfl (l' := #[.val (.ref a), .val (.ref b69)]) rfl q) ?_
  refine Goes.by (g' := (mkF m 9 #[.val (.ref a), .val (.ref b69)] [(.ref a)])) (fun _ q => XS.aloadN X.here X.hx rfl (hb hby d9_8) rfl rfl q) ?_
  refine Goes.by (g' := (mkF m 10 #[.val (.ref a), .val (.ref b69)] [(.ref b69), (.ref a)])) (fun _ q => XS.aloadN X.here X.hx rfl (hb hby d9_9) rfl rfl q) ?_
  have X_o := X
  refine X.callV E_a (hw _ (List.mem_of_getElem? (i := 91) rfl)) (decl_of (hw _ (List.mem_of_getElem? (i := 92) rfl)) (hw _ (List.mem_of_getElem? (i := 94) rfl))) (sel_of (hw _ (List.mem_of_getElem? (i := 92) rfl)) (hw _ (List.mem_of_getElem? (i := 93) rfl)) (by decide) (hw _ (List.mem_of_getElem? (i := 9) rfl)) rfl) (hw _ (List.mem_of_getElem? (i := 9) rfl)) rfl (hw _ (List.mem_of_getElem? (i := 92) rfl)) (hw _ (List.mem_of_getElem? (i := 2) rfl)) (hw _ (List.mem_of_getElem? (i := 94) rfl)) (by decide) pd_591813651 (argsL := [(.ref b69)]) rfl (rmWri5 l Z a0 hw n0 h71 X.n0le x tb E_x F_x_value F_x_coder A_tb b69 va ga_b69 ga_va ne_b69_va E_b69 F_b69_value F_b69_coder F_b69_count A_va zc hzc S_C O_ a_BOOLEAN a_OBJECT S_OBJECT a_ARRAY S_ARRAY a_STRING S_STRING n_OBJECT n_ARRAY n_STRING a F_a_kind F_a_text) (by rw [hml]; rfl) rfl (by decide) (leB rfl) (hb hby d9_10) (by decide) (by decide) (fun T h72 v X hQ => ?_)
  obtain ⟨rfl, K, F_b69_value, F_b69_coder, F_b69_count, A_va⟩ := hQ
  have K0 := K0.trans K (allS (Or.inr gz_b69) (allS (Or.inr gz_va) all0))
  have O_ := O_.keep K (allS ga_b69 (allS ga_va all0))
  have E_a := E_a.keep K
  have F_a_kind := F_a_kind.keep K (ninS ne_a_b69 (ninS ne_a_va nin0))
  have F_a_text := F_a_text.keep K (ninS ne_a_b69 (ninS ne_a_va nin0))
  have E_b69 := E_b69.keep K
  show Goes _ _ _ _ _ _ _ _ _ T (mkF m 13 #[.val (.ref a), .val (.ref b69)] [])
  refine Goes.by (g' := (mkF m 14 #[.val (.ref a), .val (.ref b69)] [(.ref b69)])) (fun _ q => XS.aloadN X.here X.hx rfl (hb hby d9_13) rfl rfl q) ?_
  have X_o := X
  refine X.callV E_b69 (hw _ (List.mem_of_getElem? (i := 147) rfl)) (hw _ (List.mem_of_getElem? (i := 148) rfl)) (hw _ (List.mem_of_getElem? (i := 150) rfl)) (hw _ (List.mem_of_getElem? (i := 100) rfl)) rfl (hw _ (List.mem_of_getElem? (i := 149) rfl)) (hw _ (List.mem_of_getElem? (i := 73) rfl)) (hw _ (List.mem_of_getElem? (i := 151) rfl)) (by decide) pd_2047462102 (argsL := []) rfl (rmToS5 l Z a0 hw n0 h72 X.n0le b69 va ga_b69 ga_va ne_b69_va E_b69 F_b69_value F_b69_coder F_b69_count A_va zc hzc S_C O_) (by rw [hml]; rfl) rfl (by decide) (leB rfl) (hb hby d9_14) (by decide) (by decide) (fun T h73 v X hQ => ?_)
  obtain ⟨rr, rb, rfl, gzr, gzb, K, E_rr, F_rr_value, F_rr_coder, A_rb⟩ := hQ
  have gz_rr : h0.size ≤ rr := Nat.le_trans K0.1 gzr
  have ga_rr : n0 ≤ rr := Nat.le_trans X_o.n0le gzr
  have ne_a_rr : a ≠ rr := Nat.ne_of_lt (Nat.lt_of_lt_of_le E_a.lt gzr)
  have ne_b69_rr : b69 ≠ rr := Nat.ne_of_lt (Nat.lt_of_lt_of_le E_b69.lt gzr)
  have ne_va_rr : va ≠ rr := Nat.ne_of_lt (Nat.lt_of_lt_of_le A_va.lt gzr)
  have gz_rb : h0.size ≤ rb := Nat.le_trans K0.1 gzb
  have ga_rb : n0 ≤ rb := Nat.le_trans X_o.n0le gzb
  have ne_a_rb : a ≠ rb := Nat.ne_of_lt (Nat.lt_of_lt_of_le E_a.lt gzb)
  have ne_b69_rb : b69 ≠ rb := Nat.ne_of_lt (Nat.lt_of_lt_of_le E_b69.lt gzb)
  have ne_va_rb : va ≠ rb := Nat.ne_of_lt (Nat.lt_of_lt_of_le A_va.lt gzb)
  have K0 := K0.trans K all0
  have O_ := O_.keep K all0
  have E_a := E_a.keep K
  have F_a_kind := F_a_kind.keep K nin0
  have F_a_text := F_a_text.keep K nin0
  have E_b69 := E_b69.keep K
  have F_b69_value := F_b69_value.keep K nin0
  have F_b69_coder := F_b69_coder.keep K nin0
  have F_b69_count := F_b69_count.keep K nin0
  have A_va := PArr.keep A_va K nin0
  show Goes _ _ _ _ _ _ _ _ _ T (mkF m 17 #[.val (.ref a), .val (.ref b69)] [(.ref rr)])
  exact X.retA hret rfl rfl (hb hby d9_17) (by decide) (by decide) ⟨rr, rb, rfl, gz_rr, gz_rb, K0, E_rr, F_rr_value, F_rr_coder, A_rb⟩
set_option maxRecDepth 65536 in
set_option maxHeartbeats 40000000 in
theorem rmLEq5 (l : Launch) (Z : State) (a0 : Array Value) (hw : ∀ d ∈ allW, d.before a0 Z = true) (n0 : Nat) (h0 : Heap) (hn0 : n0 ≤ h0.size) (t1 t2 : Addr) (A_t1 : PArr Z h0 t1 .byte 5 (tv [102, 97, 108, 115, 101])) (A_t2 : PArr Z h0 t2 .byte 5 (tv [102, 97, 108, 115, 101])) :
    Met l Z n0 (⟨"java/lang/StringLatin1", "equals", "([B[B)Z"⟩ : MethodName) jdk_43_method_13_code 3 (Option.some .boolean) ({ frames := 0, cells := 0, slots := 0, locals := 0 } : Room) #[(.ref t1), (.ref t2)] h0 (fun (v : Option Value) (h' : Heap) => v = some (.int 1) ∧ h' = h0) := by
  refine metW (Q := fun (v : Option Value) (h' : Heap) => v = some (.int 1) ∧ h' = h0) pf_34 hn0 ?_
  intro p e s m below meth c T X hby hml hret hnm
  refine Goes.by (g' := (mkF m 0 #[.val (.ref t1), .val (.ref t2), .unset] [])) (fun _ q => castTop (by first | rfl | (simp [entryFrame, mkF, argsToLocals, Value.category]; done)) q) ?_
  refine Goes.by (g' := (mkF m 1 #[.val (.ref t1), .val (.ref t2), .unset] [(.ref t1)])) (fun _ q => XS.aloadN X.here X.hx rfl (hb hby d34_0) rfl rfl q) ?_
  refine X.alen A_t1 (z := (5 : Int32)) (by decide) (hb hby d34_1) ?_
  show Goes _ _ _ _ _ _ _ _ _ T (mkF m 2 #[.val (.ref t1), .val (.ref t2), .unset] [(.int (5 : Int32))])
  refine Goes.by (g' := (mkF m 3 #[.val (.ref t1), .val (.ref t2), .unset] [(.ref t2), (.int (5 : Int32))])) (fun _ q => XS.aloadN X.here X.hx rfl (hb hby d34_2) rfl rfl q) ?_
  refine X.alen A_t2 (z := (5 : Int32)) (by decide) (hb hby d34_3) ?_
  show Goes _ _ _ _ _ _ _ _ _ T (mkF m 4 #[.val (.ref t1), .val (.ref t2), .unset] [(.int (5 : Int32)), (.int (5 : Int32))])
  refine Goes.by (g' := (mkF m 7 #[.val (.ref t1), .val (.ref t2), .unset] [])) (fun _ q => XS.icmpNo X.here X.hx rfl (hb hby d34_4) rfl (teq (show (5 : Int32) = (5 : Int32) from (by decide))).2 q) ?_
  refine Goes.by (g' := (mkF m 8 #[.val (.ref t1), .val (.ref t2), .unset] [(.int (0 : Int32))])) (fun _ q => XS.iconst X.here X.hx rfl (hb hby d34_7) q) ?_
  refine Goes.by (g' := (mkF m 9 #[.val (.ref t1), .val (.ref t2), .val (.int (0 : Int32))] [])) (fun _ q => XS.istoreN X.here X.hx rfl (hb hby d34_8) rfl (l' := #[.val (.ref t1), .val (.ref t2), .val (.int (0 : Int32))]) rfl q) ?_
  refine Goes.by (g' := (mkF m 10 #[.val (.ref t1), .val (.ref t2), .val (.int (0 : Int32))] [(.int (0 : Int32))])) (fun _ q => XS.iloadN X.here X.hx rfl (hb hby d34_9) rfl q) ?_
  refine Goes.by (g' := (mkF m 11 #[.val (.ref t1), .val (.ref t2), .val (.int (0 : Int32))] [(.ref t1), (.int (0 : Int32))])) (fun _ q => XS.aloadN X.here X.hx rfl (hb hby d34_10) rfl rfl q) ?_
  refine X.alen A_t1 (z := (5 : Int32)) (by decide) (hb hby d34_11) ?_
  show Goes _ _ _ _ _ _ _ _ _ T (mkF m 12 #[.val (.ref t1), .val (.ref t2), .val (.int (0 : Int32))] [(.int (5 : Int32)), (.int (0 : Int32))])
  refine Goes.by (g' := (mkF m 15 #[.val (.ref t1), .val (.ref t2), .val (.int (0 : Int32))] [])) (fun _ q => XS.icmpNo X.here X.hx rfl (hb hby d34_12) rfl (tlt (show (0 : Int32) < (5 : Int32) from (by decide))).2.1 q) ?_
  refine Goes.by (g' := (mkF m 16 #[.val (.ref t1), .val (.ref t2), .val (.int (0 : Int32))] [(.ref t1)])) (fun _ q => XS.aloadN X.here X.hx rfl (hb hby d34_15) rfl rfl q) ?_
  refine Goes.by (g' := (mkF m 17 #[.val (.ref t1), .val (.ref t2), .val (.int (0 : Int32))] [(.int (0 : Int32)), (.ref t1)])) (fun _ q => XS.iloadN X.here X.hx rfl (hb hby d34_16) rfl q) ?_
  refine X.baloadB A_t1 (i := 0) (by decide) (by decide) (hb hby d34_17) ?_
  show Goes _ _ _ _ _ _ _ _ _ T (mkF m 18 #[.val (.ref t1), .val (.ref t2), .val (.int (0 : Int32))] [(.int (102 : Int32))])
  refine Goes.by (g' := (mkF m 19 #[.val (.ref t1), .val (.ref t2), .val (.int (0 : Int32))] [(.ref t2), (.int (102 : Int32))])) (fun _ q => XS.aloadN X.here X.hx rfl (hb hby d34_18) rfl rfl q) ?_
  refine Goes.by (g' := (mkF m 20 #[.val (.ref t1), .val (.ref t2), .val (.int (0 : Int32))] [(.int (0 : Int32)), (.ref t2), (.int (102 : Int32))])) (fun _ q => XS.iloadN X.here X.hx rfl (hb hby d34_19) rfl q) ?_
  refine X.baloadB A_t2 (i := 0) (by decide) (by decide) (hb hby d34_20) ?_
  show Goes _ _ _ _ _ _ _ _ _ T (mkF m 21 #[.val (.ref t1), .val (.ref t2), .val (.int (0 : Int32))] [(.int (102 : Int32)), (.int (102 : Int32))])
  refine Goes.by (g' := (mkF m 26 #[.val (.ref t1), .val (.ref t2), .val (.int (0 : Int32))] [])) (fun _ q => XS.icmpYes X.here X.hx rfl (pc0 := 21) (pc' := 26) rfl (hb hby d34_21) rfl (teq (show (102 : Int32) = (102 : Int32) from (by decide))).1 (by decide) (by decide) q) ?_
  refine Goes.by (g' := (mkF m 29 #[.val (.ref t1), .val (.ref t2), .val (.int (1 : Int32))] [])) (fun _ q => XS.iinc X.here X.hx rfl (hb hby d34_26) rfl (l' := #[.val (.ref t1), .val (.ref t2), .val (.int (1 : Int32))]) rfl q) ?_
  refine Goes.by (g' := (mkF m 9 #[.val (.ref t1), .val (.ref t2), .val (.int (1 : Int32))] [])) (fun _ q => XS.goto X.here X.hx rfl (pc0 := 29) (pc' := 9) rfl (hb hby d34_29) (by decide) (by decide) q) ?_
  refine Goes.by (g' := (mkF m 10 #[.val (.ref t1), .val (.ref t2), .val (.int (1 : Int32))] [(.int (1 : Int32))])) (fun _ q => XS.iloadN X.here X.hx rfl (hb hby d34_9) rfl q) ?_
  refine Goes.by (g' := (mkF m 11 #[.val (.ref t1), .val (.ref t2), .val (.int (1 : Int32))] [(.ref t1), (.int (1 : Int32))])) (fun _ q => XS.aloadN X.here X.hx rfl (hb hby d34_10) rfl rfl q) ?_
  refine X.alen A_t1 (z := (5 : Int32)) (by decide) (hb hby d34_11) ?_
  show Goes _ _ _ _ _ _ _ _ _ T (mkF m 12 #[.val (.ref t1), .val (.ref t2), .val (.int (1 : Int32))] [(.int (5 : Int32)), (.int (1 : Int32))])
  refine Goes.by (g' := (mkF m 15 #[.val (.ref t1), .val (.ref t2), .val (.int (1 : Int32))] [])) (fun _ q => XS.icmpNo X.here X.hx rfl (hb hby d34_12) rfl (tlt (show (1 : Int32) < (5 : Int32) from (by decide))).2.1 q) ?_
  refine Goes.by (g' := (mkF m 16 #[.val (.ref t1), .val (.ref t2), .val (.int (1 : Int32))] [(.ref t1)])) (fun _ q => XS.aloadN X.here X.hx rfl (hb hby d34_15) rfl rfl q) ?_
  refine Goes.by (g' := (mkF m 17 #[.val (.ref t1), .val (.ref t2), .val (.int (1 : Int32))] [(.int (1 : Int32)), (.ref t1)])) (fun _ q => XS.iloadN X.here X.hx rfl (hb hby d34_16) rfl q) ?_
  refine X.baloadB A_t1 (i := 1) (by decide) (by decide) (hb hby d34_17) ?_
  show Goes _ _ _ _ _ _ _ _ _ T (mkF m 18 #[.val (.ref t1), .val (.ref t2), .val (.int (1 : Int32))] [(.int (97 : Int32))])
  refine Goes.by (g' := (mkF m 19 #[.val (.ref t1), .val (.ref t2), .val (.int (1 : Int32))] [(.ref t2), (.int (97 : Int32))])) (fun _ q => XS.aloadN X.here X.hx rfl (hb hby d34_18) rfl rfl q) ?_
  refine Goes.by (g' := (mkF m 20 #[.val (.ref t1), .val (.ref t2), .val (.int (1 : Int32))] [(.int (1 : Int32)), (.ref t2), (.int (97 : Int32))])) (fun _ q => XS.iloadN X.here X.hx rfl (hb hby d34_19) rfl q) ?_
  refine X.baloadB A_t2 (i := 1) (by decide) (by decide) (hb hby d34_20) ?_
  show Goes _ _ _ _ _ _ _ _ _ T (mkF m 21 #[.val (.ref t1), .val (.ref t2), .val (.int (1 : Int32))] [(.int (97 : Int32)), (.int (97 : Int32))])
  refine Goes.by (g' := (mkF m 26 #[.val (.ref t1), .val (.ref t2), .val (.int (1 : Int32))] [])) (fun _ q => XS.icmpYes X.here X.hx rfl (pc0 := 21) (pc' := 26) rfl (hb hby d34_21) rfl (teq (show (97 : Int32) = (97 : Int32) from (by decide))).1 (by decide) (by decide) q) ?_
  refine Goes.by (g' := (mkF m 29 #[.val (.ref t1), .val (.ref t2), .val (.int (2 : Int32))] [])) (fun _ q => XS.iinc X.here X.hx rfl (hb hby d34_26) rfl (l' := #[.val (.ref t1), .val (.ref t2), .val (.int (2 : Int32))]) rfl q) ?_
  refine Goes.by (g' := (mkF m 9 #[.val (.ref t1), .val (.ref t2), .val (.int (2 : Int32))] [])) (fun _ q => XS.goto X.here X.hx rfl (pc0 := 29) (pc' := 9) rfl (hb hby d34_29) (by decide) (by decide) q) ?_
  refine Goes.by (g' := (mkF m 10 #[.val (.ref t1), .val (.ref t2), .val (.int (2 : Int32))] [(.int (2 : Int32))])) (fun _ q => XS.iloadN X.here X.hx rfl (hb hby d34_9) rfl q) ?_
  refine Goes.by (g' := (mkF m 11 #[.val (.ref t1), .val (.ref t2), .val (.int (2 : Int32))] [(.ref t1), (.int (2 : Int32))])) (fun _ q => XS.aloadN X.here X.hx rfl (hb hby d34_10) rfl rfl q) ?_
  refine X.alen A_t1 (z := (5 : Int32)) (by decide) (hb hby d34_11) ?_
  show Goes _ _ _ _ _ _ _ _ _ T (mkF m 12 #[.val (.ref t1), .val (.ref t2), .val (.int (2 : Int32))] [(.int (5 : Int32)), (.int (2 : Int32))])
  refine Goes.by (g' := (mkF m 15 #[.val (.ref t1), .val (.ref t2), .val (.int (2 : Int32))] [])) (fun _ q => XS.icmpNo X.here X.hx rfl (hb hby d34_12) rfl (tlt (show (2 : Int32) < (5 : Int32) from (by decide))).2.1 q) ?_
  refine Goes.by (g' := (mkF m 16 #[.val (.ref t1), .val (.ref t2), .val (.int (2 : Int32))] [(.ref t1)])) (fun _ q => XS.aloadN X.here X.hx rfl (hb hby d34_15) rfl rfl q) ?_
  refine Goes.by (g' := (mkF m 17 #[.val (.ref t1), .val (.ref t2), .val (.int (2 : Int32))] [(.int (2 : Int32)), (.ref t1)])) (fun _ q => XS.iloadN X.here X.hx rfl (hb hby d34_16) rfl q) ?_
  refine X.baloadB A_t1 (i := 2) (by decide) (by decide) (hb hby d34_17) ?_
  show Goes _ _ _ _ _ _ _ _ _ T (mkF m 18 #[.val (.ref t1), .val (.ref t2), .val (.int (2 : Int32))] [(.int (108 : Int32))])
  refine Goes.by (g' := (mkF m 19 #[.val (.ref t1), .val (.ref t2), .val (.int (2 : Int32))] [(.ref t2), (.int (108 : Int32))])) (fun _ q => XS.aloadN X.here X.hx rfl (hb hby d34_18) rfl rfl q) ?_
  refine Goes.by (g' := (mkF m 20 #[.val (.ref t1), .val (.ref t2), .val (.int (2 : Int32))] [(.int (2 : Int32)), (.ref t2), (.int (108 : Int32))])) (fun _ q => XS.iloadN X.here X.hx rfl (hb hby d34_19) rfl q) ?_
  refine X.baloadB A_t2 (i := 2) (by decide) (by decide) (hb hby d34_20) ?_
  show Goes _ _ _ _ _ _ _ _ _ T (mkF m 21 #[.val (.ref t1), .val (.ref t2), .val (.int (2 : Int32))] [(.int (108 : Int32)), (.int (108 : Int32))])
  refine Goes.by (g' := (mkF m 26 #[.val (.ref t1), .val (.ref t2), .val (.int (2 : Int32))] [])) (fun _ q => XS.icmpYes X.here X.hx rfl (pc0 := 21) (pc' := 26) rfl (hb hby d34_21) rfl (teq (show (108 : Int32) = (108 : Int32) from (by decide))).1 (by decide) (by decide) q) ?_
  refine Goes.by (g' := (mkF m 29 #[.val (.ref t1), .val (.ref t2), .val (.int (3 : Int32))] [])) (fun _ q => XS.iinc X.here X.hx rfl (hb hby d34_26) rfl (l' := #[.val (.ref t1), .val (.ref t2), .val (.int (3 : Int32))]) rfl q) ?_
  refine Goes.by (g' := (mkF m 9 #[.val (.ref t1), .val (.ref t2), .val (.int (3 : Int32))] [])) (fun _ q => XS.goto X.here X.hx rfl (pc0 := 29) (pc' := 9) rfl (hb hby d34_29) (by decide) (by decide) q) ?_
  refine Goes.by (g' := (mkF m 10 #[.val (.ref t1), .val (.ref t2), .val (.int (3 : Int32))] [(.int (3 : Int32))])) (fun _ q => XS.iloadN X.here X.hx rfl (hb hby d34_9) rfl q) ?_
  refine Goes.by (g' := (mkF m 11 #[.val (.ref t1), .val (.ref t2), .val (.int (3 : Int32))] [(.ref t1), (.int (3 : Int32))])) (fun _ q => XS.aloadN X.here X.hx rfl (hb hby d34_10) rfl rfl q) ?_
  refine X.alen A_t1 (z := (5 : Int32)) (by decide) (hb hby d34_11) ?_
  show Goes _ _ _ _ _ _ _ _ _ T (mkF m 12 #[.val (.ref t1), .val (.ref t2), .val (.int (3 : Int32))] [(.int (5 : Int32)), (.int (3 : Int32))])
  refine Goes.by (g' := (mkF m 15 #[.val (.ref t1), .val (.ref t2), .val (.int (3 : Int32))] [])) (fun _ q => XS.icmpNo X.here X.hx rfl (hb hby d34_12) rfl (tlt (show (3 : Int32) < (5 : Int32) from (by decide))).2.1 q) ?_
  refine Goes.by (g' := (mkF m 16 #[.val (.ref t1), .val (.ref t2), .val (.int (3 : Int32))] [(.ref t1)])) (fun _ q => XS.aloadN X.here X.hx rfl (hb hby d34_15) rfl rfl q) ?_
  refine Goes.by (g' := (mkF m 17 #[.val (.ref t1), .val (.ref t2), .val (.int (3 : Int32))] [(.int (3 : Int32)), (.ref t1)])) (fun _ q => XS.iloadN X.here X.hx rfl (hb hby d34_16) rfl q) ?_
  refine X.baloadB A_t1 (i := 3) (by decide) (by decide) (hb hby d34_17) ?_
  show Goes _ _ _ _ _ _ _ _ _ T (mkF m 18 #[.val (.ref t1), .val (.ref t2), .val (.int (3 : Int32))] [(.int (115 : Int32))])
  refine Goes.by (g' := (mkF m 19 #[.val (.ref t1), .val (.ref t2), .val (.int (3 : Int32))] [(.ref t2), (.int (115 : Int32))])) (fun _ q => XS.aloadN X.here X.hx rfl (hb hby d34_18) rfl rfl q) ?_
  refine Goes.by (g' := (mkF m 20 #[.val (.ref t1), .val (.ref t2), .val (.int (3 : Int32))] [(.int (3 : Int32)), (.ref t2), (.int (115 : Int32))])) (fun _ q => XS.iloadN X.here X.hx rfl (hb hby d34_19) rfl q) ?_
  refine X.baloadB A_t2 (i := 3) (by decide) (by decide) (hb hby d34_20) ?_
  show Goes _ _ _ _ _ _ _ _ _ T (mkF m 21 #[.val (.ref t1), .val (.ref t2), .val (.int (3 : Int32))] [(.int (115 : Int32)), (.int (115 : Int32))])
  refine Goes.by (g' := (mkF m 26 #[.val (.ref t1), .val (.ref t2), .val (.int (3 : Int32))] [])) (fun _ q => XS.icmpYes X.here X.hx rfl (pc0 := 21) (pc' := 26) rfl (hb hby d34_21) rfl (teq (show (115 : Int32) = (115 : Int32) from (by decide))).1 (by decide) (by decide) q) ?_
  refine Goes.by (g' := (mkF m 29 #[.val (.ref t1), .val (.ref t2), .val (.int (4 : Int32))] [])) (fun _ q => XS.iinc X.here X.hx rfl (hb hby d34_26) rfl (l' := #[.val (.ref t1), .val (.ref t2), .val (.int (4 : Int32))]) rfl q) ?_
  refine Goes.by (g' := (mkF m 9 #[.val (.ref t1), .val (.ref t2), .val (.int (4 : Int32))] [])) (fun _ q => XS.goto X.here X.hx rfl (pc0 := 29) (pc' := 9) rfl (hb hby d34_29) (by decide) (by decide) q) ?_
  refine Goes.by (g' := (mkF m 10 #[.val (.ref t1), .val (.ref t2), .val (.int (4 : Int32))] [(.int (4 : Int32))])) (fun _ q => XS.iloadN X.here X.hx rfl (hb hby d34_9) rfl q) ?_
  refine Goes.by (g' := (mkF m 11 #[.val (.ref t1), .val (.ref t2), .val (.int (4 : Int32))] [(.ref t1), (.int (4 : Int32))])) (fun _ q => XS.aloadN X.here X.hx rfl (hb hby d34_10) rfl rfl q) ?_
  refine X.alen A_t1 (z := (5 : Int32)) (by decide) (hb hby d34_11) ?_
  show Goes _ _ _ _ _ _ _ _ _ T (mkF m 12 #[.val (.ref t1), .val (.ref t2), .val (.int (4 : Int32))] [(.int (5 : Int32)), (.int (4 : Int32))])
  refine Goes.by (g' := (mkF m 15 #[.val (.ref t1), .val (.ref t2), .val (.int (4 : Int32))] [])) (fun _ q => XS.icmpNo X.here X.hx rfl (hb hby d34_12) rfl (tlt (show (4 : Int32) < (5 : Int32) from (by decide))).2.1 q) ?_
  refine Goes.by (g' := (mkF m 16 #[.val (.ref t1), .val (.ref t2), .val (.int (4 : Int32))] [(.ref t1)])) (fun _ q => XS.aloadN X.here X.hx rfl (hb hby d34_15) rfl rfl q) ?_
  refine Goes.by (g' := (mkF m 17 #[.val (.ref t1), .val (.ref t2), .val (.int (4 : Int32))] [(.int (4 : Int32)), (.ref t1)])) (fun _ q => XS.iloadN X.here X.hx rfl (hb hby d34_16) rfl q) ?_
  refine X.baloadB A_t1 (i := 4) (by decide) (by decide) (hb hby d34_17) ?_
  show Goes _ _ _ _ _ _ _ _ _ T (mkF m 18 #[.val (.ref t1), .val (.ref t2), .val (.int (4 : Int32))] [(.int (101 : Int32))])
  refine Goes.by (g' := (mkF m 19 #[.val (.ref t1), .val (.ref t2), .val (.int (4 : Int32))] [(.ref t2), (.int (101 : Int32))])) (fun _ q => XS.aloadN X.here X.hx rfl (hb hby d34_18) rfl rfl q) ?_
  refine Goes.by (g' := (mkF m 20 #[.val (.ref t1), .val (.ref t2), .val (.int (4 : Int32))] [(.int (4 : Int32)), (.ref t2), (.int (101 : Int32))])) (fun _ q => XS.iloadN X.here X.hx rfl (hb hby d34_19) rfl q) ?_
  refine X.baloadB A_t2 (i := 4) (by decide) (by decide) (hb hby d34_20) ?_
  show Goes _ _ _ _ _ _ _ _ _ T (mkF m 21 #[.val (.ref t1), .val (.ref t2), .val (.int (4 : Int32))] [(.int (101 : Int32)), (.int (101 : Int32))])
  refine Goes.by (g' := (mkF m 26 #[.val (.ref t1), .val (.ref t2), .val (.int (4 : Int32))] [])) (fun _ q => XS.icmpYes X.here X.hx rfl (pc0 := 21) (pc' := 26) rfl (hb hby d34_21) rfl (teq (show (101 : Int32) = (101 : Int32) from (by decide))).1 (by decide) (by decide) q) ?_
  refine Goes.by (g' := (mkF m 29 #[.val (.ref t1), .val (.ref t2), .val (.int (5 : Int32))] [])) (fun _ q => XS.iinc X.here X.hx rfl (hb hby d34_26) rfl (l' := #[.val (.ref t1), .val (.ref t2), .val (.int (5 : Int32))]) rfl q) ?_
  refine Goes.by (g' := (mkF m 9 #[.val (.ref t1), .val (.ref t2), .val (.int (5 : Int32))] [])) (fun _ q => XS.goto X.here X.hx rfl (pc0 := 29) (pc' := 9) rfl (hb hby d34_29) (by decide) (by decide) q) ?_
  refine Goes.by (g' := (mkF m 10 #[.val (.ref t1), .val (.ref t2), .val (.int (5 : Int32))] [(.int (5 : Int32))])) (fun _ q => XS.iloadN X.here X.hx rfl (hb hby d34_9) rfl q) ?_
  refine Goes.by (g' := (mkF m 11 #[.val (.ref t1), .val (.ref t2), .val (.int (5 : Int32))] [(.ref t1), (.int (5 : Int32))])) (fun _ q => XS.aloadN X.here X.hx rfl (hb hby d34_10) rfl rfl q) ?_
  refine X.alen A_t1 (z := (5 : Int32)) (by decide) (hb hby d34_11) ?_
  show Goes _ _ _ _ _ _ _ _ _ T (mkF m 12 #[.val (.ref t1), .val (.ref t2), .val (.int (5 : Int32))] [(.int (5 : Int32)), (.int (5 : Int32))])
  refine Goes.by (g' := (mkF m 32 #[.val (.ref t1), .val (.ref t2), .val (.int (5 : Int32))] [])) (fun _ q => XS.icmpYes X.here X.hx rfl (pc0 := 12) (pc' := 32) rfl (hb hby d34_12) rfl (flt (show ¬ (5 : Int32) < (5 : Int32) from (by decide))).2.1 (by decide) (by decide) q) ?_
  refine Goes.by (g' := (mkF m 33 #[.val (.ref t1), .val (.ref t2), .val (.int (5 : Int32))] [(.int (1 : Int32))])) (fun _ q => XS.iconst X.here X.hx rfl (hb hby d34_32) q) ?_
  exact X.retZ hret (hb hby d34_33) (by decide) (by decide) ⟨rfl, rfl⟩
set_option maxRecDepth 65536 in
set_option maxHeartbeats 40000000 in
theorem rmEq5 (l : Launch) (Z : State) (a0 : Array Value) (hw : ∀ d ∈ allW, d.before a0 Z = true) (n0 : Nat) (h0 : Heap) (hn0 : n0 ≤ h0.size) (x tb : Addr) (E_x : Exa Z h0 x "java/lang/String") (F_x_value : Fld Z h0 x "java/lang/String" "value" "[B" (.ref tb)) (F_x_coder : Fld Z h0 x "java/lang/String" "coder" "B" (.int 0)) (A_tb : PArr Z h0 tb .byte 5 (tv [102, 97, 108, 115, 101])) (u ub : Addr) (E_u : Exa Z h0 u "java/lang/String") (F_u_value : Fld Z h0 u "java/lang/String" "value" "[B" (.ref ub)) (F_u_coder : Fld Z h0 u "java/lang/String" "coder" "B" (.int 0)) (A_ub : PArr Z h0 ub .byte 5 (tv [102, 97, 108, 115, 101])) (ne_x_u : x ≠ u) (zc : Int32) (hzc : ¬ zc = 0) (S_C : Sta Z Z.heap "java/lang/String" "COMPACT_STRINGS" "Z" (.int zc)) (O_ : Old Z n0 h0) :
    Met l Z n0 (⟨"java/lang/String", "equals", "(Ljava/lang/Object;)Z"⟩ : MethodName) jdk_42_method_66_code 3 (Option.some .boolean) ({ frames := 1, cells := 0, slots := 0, locals := 14 } : Room) #[(.ref x), (.ref u)] h0 (fun (v : Option Value) (h' : Heap) => v = some (.int 1) ∧ h' = h0) := by
  refine metW (Q := fun (v : Option Value) (h' : Heap) => v = some (.int 1) ∧ h' = h0) pf_33 hn0 ?_
  intro p e s m below meth c T X hby hml hret hnm
  refine Goes.by (g' := (mkF m 0 #[.val (.ref x), .val (.ref u), .unset] [])) (fun _ q => castTop (by first | rfl | (simp [entryFrame, mkF, argsToLocals, Value.category]; done)) q) ?_
  refine Goes.by (g' := (mkF m 1 #[.val (.ref x), .val (.ref u), .unset] [(.ref x)])) (fun _ q => XS.aloadN X.here X.hx rfl (hb hby d33_0) rfl rfl q) ?_
  refine Goes.by (g' := (mkF m 2 #[.val (.ref x), .val (.ref u), .unset] [(.ref u), (.ref x)])) (fun _ q => XS.aloadN X.here X.hx rfl (hb hby d33_1) rfl rfl q) ?_
  refine X.acmp rfl rfl (cd := .ne) (x := (.ref x)) (y := (.ref u)) (same := false) (pc' := 7) (hb hby d33_2) (decide_eq_false fun q => ne_x_u (Value.ref.inj q)) (by decide) (by decide) ?_
  show Goes _ _ _ _ _ _ _ _ _ T (mkF m 7 #[.val (.ref x), .val (.ref u), .unset] [])
  refine Goes.by (g' := (mkF m 8 #[.val (.ref x), .val (.ref u), .unset] [(.ref u)])) (fun _ q => XS.aloadN X.here X.hx rfl (hb hby d33_7) rfl rfl q) ?_
  refine X.instY (hw _ (List.mem_of_getElem? (i := 199) rfl)) (Ins.self E_u) (hb hby d33_8) (fun T X => ?_)
  show Goes _ _ _ _ _ _ _ _ _ T (mkF m 11 #[.val (.ref x), .val (.ref u), .unset] [(.int (1 : Int32))])
  refine Goes.by (g' := (mkF m 14 #[.val (.ref x), .val (.ref u), .unset] [])) (fun _ q => XS.ifNo X.here X.hx rfl (hb hby d33_11) rfl ((if0 _ _).trans (feq (show ¬ (1 : Int32) = (0 : Int32) from (by decide))).1) q) ?_
  refine Goes.by (g' := (mkF m 15 #[.val (.ref x), .val (.ref u), .unset] [(.ref u)])) (fun _ q => XS.aloadN X.here X.hx rfl (hb hby d33_14) rfl rfl q) ?_
  refine X.castY (hw _ (List.mem_of_getElem? (i := 199) rfl)) (Ins.self E_u) (hb hby d33_15) (fun T X => ?_)
  show Goes _ _ _ _ _ _ _ _ _ T (mkF m 18 #[.val (.ref x), .val (.ref u), .unset] [(.ref u)])
  refine Goes.by (g' := (mkF m 19 #[.val (.ref x), .val (.ref u), .val (.ref u)] [])) (fun _ q => XS.astoreN X.here X.hx rfl (hb hby d33_18) rfl rfl (l' := #[.val (.ref x), .val (.ref u), .val (.ref u)]) rfl q) ?_
  refine X.getS (Or.inl (hw _ (List.mem_of_getElem? (i := 118) rfl))) (host := "") Via.refl (S_C.ext O_.2) (hb hby d33_19) (fun T X => ?_)
  show Goes _ _ _ _ _ _ _ _ _ T (mkF m 22 #[.val (.ref x), .val (.ref u), .val (.ref u)] [(.int zc)])
  refine Goes.by (g' := (mkF m 25 #[.val (.ref x), .val (.ref u), .val (.ref u)] [])) (fun _ q => XS.ifNo X.here X.hx rfl (hb hby d33_22) rfl ((if0 _ _).trans (feq (show ¬ zc = (0 : Int32) from hzc)).1) q) ?_
  refine Goes.by (g' := (mkF m 26 #[.val (.ref x), .val (.ref u), .val (.ref u)] [(.ref x)])) (fun _ q => XS.aloadN X.here X.hx rfl (hb hby d33_25) rfl rfl q) ?_
  refine X.getF (host := "") (Or.inl (hw _ (List.mem_of_getElem? (i := 119) rfl))) Via.refl F_x_coder (hb hby d33_26) (fun T X => ?_)
  show Goes _ _ _ _ _ _ _ _ _ T (mkF m 29 #[.val (.ref x), .val (.ref u), .val (.ref u)] [(.int (0 : Int32))])
  refine Goes.by (g' := (mkF m 30 #[.val (.ref x), .val (.ref u), .val (.ref u)] [(.ref u), (.int (0 : Int32))])) (fun _ q => XS.aloadN X.here X.hx rfl (hb hby d33_29) rfl rfl q) ?_
  refine X.getF (host := "") (Or.inl (hw _ (List.mem_of_getElem? (i := 119) rfl))) Via.refl F_u_coder (hb hby d33_30) (fun T X => ?_)
  show Goes _ _ _ _ _ _ _ _ _ T (mkF m 33 #[.val (.ref x), .val (.ref u), .val (.ref u)] [(.int (0 : Int32)), (.int (0 : Int32))])
  refine Goes.by (g' := (mkF m 36 #[.val (.ref x), .val (.ref u), .val (.ref u)] [])) (fun _ q => XS.icmpNo X.here X.hx rfl (hb hby d33_33) rfl (teq (show (0 : Int32) = (0 : Int32) from (by decide))).2 q) ?_
  refine Goes.by (g' := (mkF m 37 #[.val (.ref x), .val (.ref u), .val (.ref u)] [(.ref x)])) (fun _ q => XS.aloadN X.here X.hx rfl (hb hby d33_36) rfl rfl q) ?_
  refine X.getF (host := "") (Or.inl (hw _ (List.mem_of_getElem? (i := 112) rfl))) Via.refl F_x_value (hb hby d33_37) (fun T X => ?_)
  show Goes _ _ _ _ _ _ _ _ _ T (mkF m 40 #[.val (.ref x), .val (.ref u), .val (.ref u)] [(.ref tb)])
  refine Goes.by (g' := (mkF m 41 #[.val (.ref x), .val (.ref u), .val (.ref u)] [(.ref u), (.ref tb)])) (fun _ q => XS.aloadN X.here X.hx rfl (hb hby d33_40) rfl rfl q) ?_
  refine X.getF (host := "") (Or.inl (hw _ (List.mem_of_getElem? (i := 112) rfl))) Via.refl F_u_value (hb hby d33_41) (fun T X => ?_)
  show Goes _ _ _ _ _ _ _ _ _ T (mkF m 44 #[.val (.ref x), .val (.ref u), .val (.ref u)] [(.ref ub), (.ref tb)])
  have X_o := X
  refine X.callS (hw _ (List.mem_of_getElem? (i := 200) rfl)) (hw _ (List.mem_of_getElem? (i := 201) rfl)) (hw _ (List.mem_of_getElem? (i := 202) rfl)) (hw _ (List.mem_of_getElem? (i := 203) rfl)) (by decide) pd_3824935658 (argsL := [(.ref tb), (.ref ub)]) rfl (rmLEq5 l Z a0 hw n0 h0 X.n0le tb ub A_tb A_ub) (by rw [hml]; rfl) rfl (by decide) (leB rfl) (hb hby d33_44) (by decide) (by decide) (fun T h74 v X hQ => ?_)
  obtain ⟨rfl, hh⟩ := hQ
  rw [hh] at X
  clear hh
  show Goes _ _ _ _ _ _ _ _ _ T (mkF m 47 #[.val (.ref x), .val (.ref u), .val (.ref u)] [(.int (1 : Int32))])
  refine Goes.by (g' := (mkF m 50 #[.val (.ref x), .val (.ref u), .val (.ref u)] [])) (fun _ q => XS.ifNo X.here X.hx rfl (hb hby d33_47) rfl ((if0 _ _).trans (feq (show ¬ (1 : Int32) = (0 : Int32) from (by decide))).1) q) ?_
  refine Goes.by (g' := (mkF m 51 #[.val (.ref x), .val (.ref u), .val (.ref u)] [(.int (1 : Int32))])) (fun _ q => XS.iconst X.here X.hx rfl (hb hby d33_50) q) ?_
  refine Goes.by (g' := (mkF m 55 #[.val (.ref x), .val (.ref u), .val (.ref u)] [(.int (1 : Int32))])) (fun _ q => XS.goto X.here X.hx rfl (pc0 := 51) (pc' := 55) rfl (hb hby d33_51) (by decide) (by decide) q) ?_
  exact X.retZ hret (hb hby d33_55) (by decide) (by decide) ⟨rfl, rfl⟩
set_option maxRecDepth 65536 in
set_option maxHeartbeats 40000000 in
theorem rm0 (l : Launch) (Z : State) (a0 : Array Value) (hw : ∀ d ∈ allW, d.before a0 Z = true) (n0 : Nat) (h0 : Heap) (hn0 : n0 ≤ h0.size) (ws : List Jvm.Cond) (p0 : Int32) (a_TRUE : Addr) (S_TRUE : Sta Z Z.heap "com/example/riskweave/riskweave/scenario/JsonValue" "TRUE" "Lcom/example/riskweave/riskweave/scenario/JsonValue;" (.ref a_TRUE)) (a_FALSE : Addr) (S_FALSE : Sta Z Z.heap "com/example/riskweave/riskweave/scenario/JsonValue" "FALSE" "Lcom/example/riskweave/riskweave/scenario/JsonValue;" (.ref a_FALSE)) (a_BOOLEAN : Addr) (S_BOOLEAN : Sta Z Z.heap "com/example/riskweave/riskweave/scenario/JsonValue$Kind" "BOOLEAN" "Lcom/example/riskweave/riskweave/scenario/JsonValue$Kind;" (.ref a_BOOLEAN)) (a_NULL : Addr) (S_NULL : Sta Z Z.heap "com/example/riskweave/riskweave/scenario/JsonValue$Kind" "NULL" "Lcom/example/riskweave/riskweave/scenario/JsonValue$Kind;" (.ref a_NULL)) (a_OBJECT : Addr) (S_OBJECT : Sta Z Z.heap "com/example/riskweave/riskweave/scenario/JsonValue$Kind" "OBJECT" "Lcom/example/riskweave/riskweave/scenario/JsonValue$Kind;" (.ref a_OBJECT)) (a_ARRAY : Addr) (S_ARRAY : Sta Z Z.heap "com/example/riskweave/riskweave/scenario/JsonValue$Kind" "ARRAY" "Lcom/example/riskweave/riskweave/scenario/JsonValue$Kind;" (.ref a_ARRAY)) (a_STRING : Addr) (S_STRING : Sta Z Z.heap "com/example/riskweave/riskweave/scenario/JsonValue$Kind" "STRING" "Lcom/example/riskweave/riskweave/scenario/JsonValue$Kind;" (.ref a_STRING)) (a_NUMBER : Addr) (S_NUMBER : Sta Z Z.heap "com/example/riskweave/riskweave/scenario/JsonValue$Kind" "NUMBER" "Lcom/example/riskweave/riskweave/scenario/JsonValue$Kind;" (.ref a_NUMBER)) (n_NULL : a_BOOLEAN ≠ a_NULL) (n_OBJECT : a_BOOLEAN ≠ a_OBJECT) (n_ARRAY : a_BOOLEAN ≠ a_ARRAY) (n_STRING : a_BOOLEAN ≠ a_STRING) (n_NUMBER : a_BOOLEAN ≠ a_NUMBER) (n_TRUE : a_FALSE ≠ a_TRUE) (x_TRUE t_TRUE : Addr) (E_TRUE : Exa Z Z.heap a_TRUE "com/example/riskweave/riskweave/scenario/JsonValue") (F_TRUE_kind : Fld Z Z.heap a_TRUE "com/example/riskweave/riskweave/scenario/JsonValue" "kind" "Lcom/example/riskweave/riskweave/scenario/JsonValue$Kind;" (.ref a_BOOLEAN)) (F_TRUE_text : Fld Z Z.heap a_TRUE "com/example/riskweave/riskweave/scenario/JsonValue" "text" "Ljava/lang/String;" (.ref x_TRUE)) (Ex_TRUE : Exa Z Z.heap x_TRUE "java/lang/String") (Fx_TRUE_value : Fld Z Z.heap x_TRUE "java/lang/String" "value" "[B" (.ref t_TRUE)) (Fx_TRUE_coder : Fld Z Z.heap x_TRUE "java/lang/String" "coder" "B" (.int 0)) (At_TRUE : PArr Z Z.heap t_TRUE .byte 4 (tv [116, 114, 117, 101])) (x_FALSE t_FALSE : Addr) (E_FALSE : Exa Z Z.heap a_FALSE "com/example/riskweave/riskweave/scenario/JsonValue") (F_FALSE_kind : Fld Z Z.heap a_FALSE "com/example/riskweave/riskweave/scenario/JsonValue" "kind" "Lcom/example/riskweave/riskweave/scenario/JsonValue$Kind;" (.ref a_BOOLEAN)) (F_FALSE_text : Fld Z Z.heap a_FALSE "com/example/riskweave/riskweave/scenario/JsonValue" "text" "Ljava/lang/String;" (.ref x_FALSE)) (Ex_FALSE : Exa Z Z.heap x_FALSE "java/lang/String") (Fx_FALSE_value : Fld Z Z.heap x_FALSE "java/lang/String" "value" "[B" (.ref t_FALSE)) (Fx_FALSE_coder : Fld Z Z.heap x_FALSE "java/lang/String" "coder" "B" (.int 0)) (At_FALSE : PArr Z Z.heap t_FALSE .byte 5 (tv [102, 97, 108, 115, 101])) (zc : Int32) (hzc : ¬ zc = 0) (S_C : Sta Z Z.heap "java/lang/String" "COMPACT_STRINGS" "Z" (.int zc)) (O_ : Old Z n0 h0) (hcw : Jvm.Lit.compactW.before a0 Z = true) (hh35 : Jvm.Lit.constHeld Z "com/example/riskweave/riskweave/scenario/JsonValueBoolPinLaw" 35) (hh37 : Jvm.Lit.constHeld Z "com/example/riskweave/riskweave/scenario/JsonValueBoolPinLaw" 37) (hkp : Z.heap = h0) :
    MetFree l x (head1 (Jvm.Cond.code x code maxLocals ret :: ws) room_1) (fun a U => a = #[(.int p0)] ∧ Z.Warmed39 U.vm ∧ U.heap = h0 ∧ U.vm.interned = Z.vm.interned) (fun _ _ _ _ _ => True) (fun _ U o U' => ∃ v L, o = .returned v ∧ (Fr n0 L ∧ (fun (v : Option Value) (h' : Heap) => v = some (.int 1)) v U'.heap) ∧ EndF true U o U' L room_1.cells room_1.slots) := by
  refine metL (Q := fun (v : Option Value) (h' : Heap) => v = some (.int 1)) pf_0 hn0 ?_
  intro p e s m below meth c T X hby hml hret hnm hsh hsi
  refine Goes.by (g' := (mkF m 0 #[.val (.int p0), .unset, .unset, .unset, .unset, .unset, .unset] [])) (fun _ q => castTop (by first | rfl | (simp [entryFrame, mkF, argsToLocals, Value.category, maxLocals]; done)) q) ?_
  have O_0 : Z.heap.size = n0 := O_.1
  have wS : ∀ d ∈ Bundle.stringAtoms, d.before a0 Z = true := fun d hd => hw d (strAtoms d hd)
  have E_a_TRUE := E_TRUE.ext O_.2
  have F_a_TRUE_kind := F_TRUE_kind.ext O_.2
  have F_a_TRUE_text := F_TRUE_text.ext O_.2
  have E_x_TRUE := Ex_TRUE.ext O_.2
  have F_x_TRUE_value := Fx_TRUE_value.ext O_.2
  have F_x_TRUE_coder := Fx_TRUE_coder.ext O_.2
  have A_t_TRUE := PArr.ext At_TRUE O_.2
  have E_a_FALSE := E_FALSE.ext O_.2
  have F_a_FALSE_kind := F_FALSE_kind.ext O_.2
  have F_a_FALSE_text := F_FALSE_text.ext O_.2
  have E_x_FALSE := Ex_FALSE.ext O_.2
  have F_x_FALSE_value := Fx_FALSE_value.ext O_.2
  have F_x_FALSE_coder := Fx_FALSE_coder.ext O_.2
  have A_t_FALSE := PArr.ext At_FALSE O_.2
  refine Goes.by (g' := (mkF m 1 #[.val (.int p0), .unset, .unset, .unset, .unset, .unset, .unset] [(.int p0)])) (fun _ q => XS.iloadN X.here X.hx rfl (hb hby at_0) rfl q) ?_
  refine Goes.by (g' := (mkF m 2 #[.val (.int p0), .unset, .unset, .unset, .unset, .unset, .unset] [(.int (1 : Int32)), (.int p0)])) (fun _ q => XS.iconst X.here X.hx rfl (hb hby at_1) q) ?_
  refine Goes.by (g' := (mkF m 3 #[.val (.int p0), .unset, .unset, .unset, .unset, .unset, .unset] [(.int (p0 &&& (1 : Int32)))])) (fun _ q => XS.iand X.here X.hx rfl (hb hby at_2) rfl q) ?_
  by_cases hB75 : (p0 &&& (1 : Int32)) = (0 : Int32)
  · skip
    refine Goes.by (g' := (mkF m 10 #[.val (.int p0), .unset, .unset, .unset, .unset, .unset, .unset] [])) (fun _ q => XS.ifYes X.here X.hx rfl (pc0 := 3) (pc' := 10) rfl (hb hby at_3) rfl ((if0 _ _).trans (teq hB75).1) (by decide) (by decide) q) ?_
    refine Goes.by (g' := (mkF m 11 #[.val (.int p0), .unset, .unset, .unset, .unset, .unset, .unset] [(.int (0 : Int32))])) (fun _ q => XS.iconst X.here X.hx rfl (hb hby at_10) q) ?_
    refine Goes.by (g' := (mkF m 12 #[.val (.int p0), .val (.int (0 : Int32)), .unset, .unset, .unset, .unset, .unset] [])) (fun _ q => XS.istoreN X.here X.hx rfl (hb hby at_11) rfl (l' := #[.val (.int p0), .val (.int (0 : Int32)), .unset, .unset, .unset, .unset, .unset]) rfl q) ?_
    refine Goes.by (g' := (mkF m 13 #[.val (.int p0), .val (.int (0 : Int32)), .unset, .unset, .unset, .unset, .unset] [(.int (0 : Int32))])) (fun _ q => XS.iloadN X.here X.hx rfl (hb hby at_12) rfl q) ?_
    have X_o := X
    refine X.callS (hw _ (List.mem_of_getElem? (i := 0) rfl)) (hw _ (List.mem_of_getElem? (i := 1) rfl)) (hw _ (List.mem_of_getElem? (i := 2) rfl)) (hw _ (List.mem_of_getElem? (i := 3) rfl)) (by decide) pd_2300949434 (argsL := [(.int (0 : Int32))]) rfl (rmBool0 l Z a0 hw n0 h0 X.n0le a_FALSE S_FALSE O_) (by rw [hml]; rfl) rfl (by decide) (leB rfl) (hb hby at_13) (by decide) (by decide) (fun T h76 v X hQ => ?_)
    obtain ⟨rfl, hh⟩ := hQ
    rw [hh] at X
    clear hh
    show Goes _ _ _ _ _ _ _ _ _ T (mkF m 16 #[.val (.int p0), .val (.int (0 : Int32)), .unset, .unset, .unset, .unset, .unset] [(.ref a_FALSE)])
    refine Goes.by (g' := (mkF m 17 #[.val (.int p0), .val (.int (0 : Int32)), .val (.ref a_FALSE), .unset, .unset, .unset, .unset] [])) (fun _ q => XS.astoreN X.here X.hx rfl (hb hby at_16) rfl rfl (l' := #[.val (.int p0), .val (.int (0 : Int32)), .val (.ref a_FALSE), .unset, .unset, .unset, .unset]) rfl q) ?_
    refine Goes.by (g' := (mkF m 18 #[.val (.int p0), .val (.int (0 : Int32)), .val (.ref a_FALSE), .unset, .unset, .unset, .unset] [(.ref a_FALSE)])) (fun _ q => XS.aloadN X.here X.hx rfl (hb hby at_17) rfl rfl q) ?_
    refine Goes.by (g' := (mkF m 23 #[.val (.int p0), .val (.int (0 : Int32)), .val (.ref a_FALSE), .unset, .unset, .unset, .unset] [])) (fun _ q => XS.ifnonnullYes X.here X.hx rfl (pc0 := 18) (pc' := 23) rfl (hb hby at_18) rfl (by decide) (by decide) q) ?_
    refine Goes.by (g' := (mkF m 24 #[.val (.int p0), .val (.int (0 : Int32)), .val (.ref a_FALSE), .unset, .unset, .unset, .unset] [(.ref a_FALSE)])) (fun _ q => XS.aloadN X.here X.hx rfl (hb hby at_23) rfl rfl q) ?_
    have X_o := X
    refine X.callV E_a_FALSE (hw _ (List.mem_of_getElem? (i := 6) rfl)) (hw _ (List.mem_of_getElem? (i := 7) rfl)) (hw _ (List.mem_of_getElem? (i := 9) rfl)) (hw _ (List.mem_of_getElem? (i := 9) rfl)) rfl (hw _ (List.mem_of_getElem? (i := 8) rfl)) (hw _ (List.mem_of_getElem? (i := 2) rfl)) (hw _ (List.mem_of_getElem? (i := 10) rfl)) (by decide) pd_193422000 (argsL := []) rfl (rm_isBoolean l Z a0 hw n0 h0 X.n0le a_BOOLEAN S_BOOLEAN a_FALSE F_a_FALSE_kind O_) (by rw [hml]; rfl) rfl (by decide) (leB rfl) (hb hby at_24) (by decide) (by decide) (fun T h77 v X hQ => ?_)
    obtain ⟨rfl, hh⟩ := hQ
    rw [hh] at X
    clear hh
    show Goes _ _ _ _ _ _ _ _ _ T (mkF m 27 #[.val (.int p0), .val (.int (0 : Int32)), .val (.ref a_FALSE), .unset, .unset, .unset, .unset] [(.int (1 : Int32))])
    refine Goes.by (g' := (mkF m 30 #[.val (.int p0), .val (.int (0 : Int32)), .val (.ref a_FALSE), .unset, .unset, .unset, .unset] [])) (fun _ q => XS.ifNo X.here X.hx rfl (hb hby at_27) rfl ((if0 _ _).trans (feq (show ¬ (1 : Int32) = (0 : Int32) from (by decide))).1) q) ?_
    refine Goes.by (g' := (mkF m 31 #[.val (.int p0), .val (.int (0 : Int32)), .val (.ref a_FALSE), .unset, .unset, .unset, .unset] [(.ref a_FALSE)])) (fun _ q => XS.aloadN X.here X.hx rfl (hb hby at_30) rfl rfl q) ?_
    have X_o := X
    refine X.callV E_a_FALSE (hw _ (List.mem_of_getElem? (i := 16) rfl)) (hw _ (List.mem_of_getElem? (i := 17) rfl)) (hw _ (List.mem_of_getElem? (i := 19) rfl)) (hw _ (List.mem_of_getElem? (i := 9) rfl)) rfl (hw _ (List.mem_of_getElem? (i := 18) rfl)) (hw _ (List.mem_of_getElem? (i := 2) rfl)) (hw _ (List.mem_of_getElem? (i := 20) rfl)) (by decide) pd_193422000 (argsL := []) rfl (rm_isNull l Z a0 hw n0 h0 X.n0le a_BOOLEAN a_NULL S_NULL n_NULL a_FALSE F_a_FALSE_kind O_) (by rw [hml]; rfl) rfl (by decide) (leB rfl) (hb hby at_31) (by decide) (by decide) (fun T h78 v X hQ => ?_)
    obtain ⟨rfl, hh⟩ := hQ
    rw [hh] at X
    clear hh
    show Goes _ _ _ _ _ _ _ _ _ T (mkF m 34 #[.val (.int p0), .val (.int (0 : Int32)), .val (.ref a_FALSE), .unset, .unset, .unset, .unset] [(.int (0 : Int32))])
    refine Goes.by (g' := (mkF m 37 #[.val (.int p0), .val (.int (0 : Int32)), .val (.ref a_FALSE), .unset, .unset, .unset, .unset] [])) (fun _ q => XS.ifNo X.here X.hx rfl (hb hby at_34) rfl ((if0 _ _).trans (teq (show (0 : Int32) = (0 : Int32) from (by decide))).2) q) ?_
    refine Goes.by (g' := (mkF m 38 #[.val (.int p0), .val (.int (0 : Int32)), .val (.ref a_FALSE), .unset, .unset, .unset, .unset] [(.ref a_FALSE)])) (fun _ q => XS.aloadN X.here X.hx rfl (hb hby at_37) rfl rfl q) ?_
    have X_o := X
    refine X.callV E_a_FALSE (hw _ (List.mem_of_getElem? (i := 23) rfl)) (hw _ (List.mem_of_getElem? (i := 24) rfl)) (hw _ (List.mem_of_getElem? (i := 26) rfl)) (hw _ (List.mem_of_getElem? (i := 9) rfl)) rfl (hw _ (List.mem_of_getElem? (i := 25) rfl)) (hw _ (List.mem_of_getElem? (i := 2) rfl)) (hw _ (List.mem_of_getElem? (i := 27) rfl)) (by decide) pd_193422000 (argsL := []) rfl (rm_isObject l Z a0 hw n0 h0 X.n0le a_BOOLEAN a_OBJECT S_OBJECT n_OBJECT a_FALSE F_a_FALSE_kind O_) (by rw [hml]; rfl) rfl (by decide) (leB rfl) (hb hby at_38) (by decide) (by decide) (fun T h79 v X hQ => ?_)
    obtain ⟨rfl, hh⟩ := hQ
    rw [hh] at X
    clear hh
    show Goes _ _ _ _ _ _ _ _ _ T (mkF m 41 #[.val (.int p0), .val (.int (0 : Int32)), .val (.ref a_FALSE), .unset, .unset, .unset, .unset] [(.int (0 : Int32))])
    refine Goes.by (g' := (mkF m 44 #[.val (.int p0), .val (.int (0 : Int32)), .val (.ref a_FALSE), .unset, .unset, .unset, .unset] [])) (fun _ q => XS.ifNo X.here X.hx rfl (hb hby at_41) rfl ((if0 _ _).trans (teq (show (0 : Int32) = (0 : Int32) from (by decide))).2) q) ?_
    refine Goes.by (g' := (mkF m 45 #[.val (.int p0), .val (.int (0 : Int32)), .val (.ref a_FALSE), .unset, .unset, .unset, .unset] [(.ref a_FALSE)])) (fun _ q => XS.aloadN X.here X.hx rfl (hb hby at_44) rfl rfl q) ?_
    have X_o := X
    refine X.callV E_a_FALSE (hw _ (List.mem_of_getElem? (i := 30) rfl)) (hw _ (List.mem_of_getElem? (i := 31) rfl)) (hw _ (List.mem_of_getElem? (i := 33) rfl)) (hw _ (List.mem_of_getElem? (i := 9) rfl)) rfl (hw _ (List.mem_of_getElem? (i := 32) rfl)) (hw _ (List.mem_of_getElem? (i := 2) rfl)) (hw _ (List.mem_of_getElem? (i := 34) rfl)) (by decide) pd_193422000 (argsL := []) rfl (rm_isArray l Z a0 hw n0 h0 X.n0le a_BOOLEAN a_ARRAY S_ARRAY n_ARRAY a_FALSE F_a_FALSE_kind O_) (by rw [hml]; rfl) rfl (by decide) (leB rfl) (hb hby at_45) (by decide) (by decide) (fun T h80 v X hQ => ?_)
    obtain ⟨rfl, hh⟩ := hQ
    rw [hh] at X
    clear hh
    show Goes _ _ _ _ _ _ _ _ _ T (mkF m 48 #[.val (.int p0), .val (.int (0 : Int32)), .val (.ref a_FALSE), .unset, .unset, .unset, .unset] [(.int (0 : Int32))])
    refine Goes.by (g' := (mkF m 51 #[.val (.int p0), .val (.int (0 : Int32)), .val (.ref a_FALSE), .unset, .unset, .unset, .unset] [])) (fun _ q => XS.ifNo X.here X.hx rfl (hb hby at_48) rfl ((if0 _ _).trans (teq (show (0 : Int32) = (0 : Int32) from (by decide))).2) q) ?_
    refine Goes.by (g' := (mkF m 52 #[.val (.int p0), .val (.int (0 : Int32)), .val (.ref a_FALSE), .unset, .unset, .unset, .unset] [(.ref a_FALSE)])) (fun _ q => XS.aloadN X.here X.hx rfl (hb hby at_51) rfl rfl q) ?_
    have X_o := X
    refine X.callV E_a_FALSE (hw _ (List.mem_of_getElem? (i := 37) rfl)) (hw _ (List.mem_of_getElem? (i := 38) rfl)) (hw _ (List.mem_of_getElem? (i := 40) rfl)) (hw _ (List.mem_of_getElem? (i := 9) rfl)) rfl (hw _ (List.mem_of_getElem? (i := 39) rfl)) (hw _ (List.mem_of_getElem? (i := 2) rfl)) (hw _ (List.mem_of_getElem? (i := 41) rfl)) (by decide) pd_193422000 (argsL := []) rfl (rm_isText l Z a0 hw n0 h0 X.n0le a_BOOLEAN a_STRING S_STRING n_STRING a_FALSE F_a_FALSE_kind O_) (by rw [hml]; rfl) rfl (by decide) (leB rfl) (hb hby at_52) (by decide) (by decide) (fun T h81 v X hQ => ?_)
    obtain ⟨rfl, hh⟩ := hQ
    rw [hh] at X
    clear hh
    show Goes _ _ _ _ _ _ _ _ _ T (mkF m 55 #[.val (.int p0), .val (.int (0 : Int32)), .val (.ref a_FALSE), .unset, .unset, .unset, .unset] [(.int (0 : Int32))])
    refine Goes.by (g' := (mkF m 58 #[.val (.int p0), .val (.int (0 : Int32)), .val (.ref a_FALSE), .unset, .unset, .unset, .unset] [])) (fun _ q => XS.ifNo X.here X.hx rfl (hb hby at_55) rfl ((if0 _ _).trans (teq (show (0 : Int32) = (0 : Int32) from (by decide))).2) q) ?_
    refine Goes.by (g' := (mkF m 59 #[.val (.int p0), .val (.int (0 : Int32)), .val (.ref a_FALSE), .unset, .unset, .unset, .unset] [(.ref a_FALSE)])) (fun _ q => XS.aloadN X.here X.hx rfl (hb hby at_58) rfl rfl q) ?_
    have X_o := X
    refine X.callV E_a_FALSE (hw _ (List.mem_of_getElem? (i := 44) rfl)) (hw _ (List.mem_of_getElem? (i := 45) rfl)) (hw _ (List.mem_of_getElem? (i := 47) rfl)) (hw _ (List.mem_of_getElem? (i := 9) rfl)) rfl (hw _ (List.mem_of_getElem? (i := 46) rfl)) (hw _ (List.mem_of_getElem? (i := 2) rfl)) (hw _ (List.mem_of_getElem? (i := 48) rfl)) (by decide) pd_193422000 (argsL := []) rfl (rm_isNumber l Z a0 hw n0 h0 X.n0le a_BOOLEAN a_NUMBER S_NUMBER n_NUMBER a_FALSE F_a_FALSE_kind O_) (by rw [hml]; rfl) rfl (by decide) (leB rfl) (hb hby at_59) (by decide) (by decide) (fun T h82 v X hQ => ?_)
    obtain ⟨rfl, hh⟩ := hQ
    rw [hh] at X
    clear hh
    show Goes _ _ _ _ _ _ _ _ _ T (mkF m 62 #[.val (.int p0), .val (.int (0 : Int32)), .val (.ref a_FALSE), .unset, .unset, .unset, .unset] [(.int (0 : Int32))])
    refine Goes.by (g' := (mkF m 65 #[.val (.int p0), .val (.int (0 : Int32)), .val (.ref a_FALSE), .unset, .unset, .unset, .unset] [])) (fun _ q => XS.ifNo X.here X.hx rfl (hb hby at_62) rfl ((if0 _ _).trans (teq (show (0 : Int32) = (0 : Int32) from (by decide))).2) q) ?_
    refine Goes.by (g' := (mkF m 66 #[.val (.int p0), .val (.int (0 : Int32)), .val (.ref a_FALSE), .unset, .unset, .unset, .unset] [(.int (1 : Int32))])) (fun _ q => XS.iconst X.here X.hx rfl (hb hby at_65) q) ?_
    refine Goes.by (g' := (mkF m 70 #[.val (.int p0), .val (.int (0 : Int32)), .val (.ref a_FALSE), .unset, .unset, .unset, .unset] [(.int (1 : Int32))])) (fun _ q => XS.goto X.here X.hx rfl (pc0 := 66) (pc' := 70) rfl (hb hby at_66) (by decide) (by decide) q) ?_
    refine Goes.by (g' := (mkF m 71 #[.val (.int p0), .val (.int (0 : Int32)), .val (.ref a_FALSE), .val (.int (1 : Int32)), .unset, .unset, .unset] [])) (fun _ q => XS.istoreN X.here X.hx rfl (hb hby at_70) rfl (l' := #[.val (.int p0), .val (.int (0 : Int32)), .val (.ref a_FALSE), .val (.int (1 : Int32)), .unset, .unset, .unset]) rfl q) ?_
    refine Goes.by (g' := (mkF m 72 #[.val (.int p0), .val (.int (0 : Int32)), .val (.ref a_FALSE), .val (.int (1 : Int32)), .unset, .unset, .unset] [(.ref a_FALSE)])) (fun _ q => XS.aloadN X.here X.hx rfl (hb hby at_71) rfl rfl q) ?_
    have X_o := X
    refine X.callV E_a_FALSE (hw _ (List.mem_of_getElem? (i := 51) rfl)) (hw _ (List.mem_of_getElem? (i := 52) rfl)) (hw _ (List.mem_of_getElem? (i := 54) rfl)) (hw _ (List.mem_of_getElem? (i := 9) rfl)) rfl (hw _ (List.mem_of_getElem? (i := 53) rfl)) (hw _ (List.mem_of_getElem? (i := 2) rfl)) (hw _ (List.mem_of_getElem? (i := 55) rfl)) (by decide) pd_193422000 (argsL := []) rfl (rmT0 l Z a0 hw n0 h0 X.n0le a_TRUE S_TRUE a_FALSE n_TRUE O_) (by rw [hml]; rfl) rfl (by decide) (leB rfl) (hb hby at_72) (by decide) (by decide) (fun T h83 v X hQ => ?_)
    obtain ⟨rfl, hh⟩ := hQ
    rw [hh] at X
    clear hh
    show Goes _ _ _ _ _ _ _ _ _ T (mkF m 75 #[.val (.int p0), .val (.int (0 : Int32)), .val (.ref a_FALSE), .val (.int (1 : Int32)), .unset, .unset, .unset] [(.int (0 : Int32))])
    refine Goes.by (g' := (mkF m 76 #[.val (.int p0), .val (.int (0 : Int32)), .val (.ref a_FALSE), .val (.int (1 : Int32)), .unset, .unset, .unset] [(.int (0 : Int32)), (.int (0 : Int32))])) (fun _ q => XS.iloadN X.here X.hx rfl (hb hby at_75) rfl q) ?_
    refine Goes.by (g' := (mkF m 79 #[.val (.int p0), .val (.int (0 : Int32)), .val (.ref a_FALSE), .val (.int (1 : Int32)), .unset, .unset, .unset] [])) (fun _ q => XS.icmpNo X.here X.hx rfl (hb hby at_76) rfl (teq (show (0 : Int32) = (0 : Int32) from (by decide))).2 q) ?_
    refine Goes.by (g' := (mkF m 80 #[.val (.int p0), .val (.int (0 : Int32)), .val (.ref a_FALSE), .val (.int (1 : Int32)), .unset, .unset, .unset] [(.int (1 : Int32))])) (fun _ q => XS.iconst X.here X.hx rfl (hb hby at_79) q) ?_
    refine Goes.by (g' := (mkF m 84 #[.val (.int p0), .val (.int (0 : Int32)), .val (.ref a_FALSE), .val (.int (1 : Int32)), .unset, .unset, .unset] [(.int (1 : Int32))])) (fun _ q => XS.goto X.here X.hx rfl (pc0 := 80) (pc' := 84) rfl (hb hby at_80) (by decide) (by decide) q) ?_
    refine Goes.by (g' := (mkF m 86 #[.val (.int p0), .val (.int (0 : Int32)), .val (.ref a_FALSE), .val (.int (1 : Int32)), .val (.int (1 : Int32)), .unset, .unset] [])) (fun _ q => XS.istore X.here X.hx rfl (hb hby at_84) rfl (l' := #[.val (.int p0), .val (.int (0 : Int32)), .val (.ref a_FALSE), .val (.int (1 : Int32)), .val (.int (1 : Int32)), .unset, .unset]) rfl q) ?_
    refine Goes.by (g' := (mkF m 87 #[.val (.int p0), .val (.int (0 : Int32)), .val (.ref a_FALSE), .val (.int (1 : Int32)), .val (.int (1 : Int32)), .unset, .unset] [(.int (0 : Int32))])) (fun _ q => XS.iloadN X.here X.hx rfl (hb hby at_86) rfl q) ?_
    refine Goes.by (g' := (mkF m 95 #[.val (.int p0), .val (.int (0 : Int32)), .val (.ref a_FALSE), .val (.int (1 : Int32)), .val (.int (1 : Int32)), .unset, .unset] [])) (fun _ q => XS.ifYes X.here X.hx rfl (pc0 := 87) (pc' := 95) rfl (hb hby at_87) rfl ((if0 _ _).trans (teq (show (0 : Int32) = (0 : Int32) from (by decide))).1) (by decide) (by decide) q) ?_
    refine X.ldcV (hw _ (List.mem_of_getElem? (i := 58) rfl)) wS hh37 hcw (by rw [hsh, ← hkp]; exact O_0) (fun b cl q => by rw [hsh, ← hkp]; exact q) hsi (vs := [.int 102, .int 97, .int 108, .int 115, .int 101]) (z := 5) (N := 5) (by decide) (by decide) rfl (hb hby at_95) (n' := 20) (by decide) (by decide) (by decide) (by decide) (fun T h84 ls lb X E E_ls F_ls_coder F_ls_value A_ls => ?_)
    have O_ := O_.ext E
    have E_a_TRUE := E_a_TRUE.ext E
    have F_a_TRUE_kind := F_a_TRUE_kind.ext E
    have F_a_TRUE_text := F_a_TRUE_text.ext E
    have E_x_TRUE := E_x_TRUE.ext E
    have F_x_TRUE_value := F_x_TRUE_value.ext E
    have F_x_TRUE_coder := F_x_TRUE_coder.ext E
    have A_t_TRUE := PArr.ext A_t_TRUE E
    have E_a_FALSE := E_a_FALSE.ext E
    have F_a_FALSE_kind := F_a_FALSE_kind.ext E
    have F_a_FALSE_text := F_a_FALSE_text.ext E
    have E_x_FALSE := E_x_FALSE.ext E
    have F_x_FALSE_value := F_x_FALSE_value.ext E
    have F_x_FALSE_coder := F_x_FALSE_coder.ext E
    have A_t_FALSE := PArr.ext A_t_FALSE E
    have A_lb : PArr Z h84 lb .byte 5 (tv [102, 97, 108, 115, 101]) := PArr.congr A_ls (by decide)
    show Goes _ _ _ _ _ _ _ _ _ T (mkF m 97 #[.val (.int p0), .val (.int (0 : Int32)), .val (.ref a_FALSE), .val (.int (1 : Int32)), .val (.int (1 : Int32)), .unset, .unset] [(.ref ls)])
    refine Goes.by (g' := (mkF m 99 #[.val (.int p0), .val (.int (0 : Int32)), .val (.ref a_FALSE), .val (.int (1 : Int32)), .val (.int (1 : Int32)), .val (.ref ls), .unset] [])) (fun _ q => XS.astore X.here X.hx rfl (hb hby at_97) rfl rfl (l' := #[.val (.int p0), .val (.int (0 : Int32)), .val (.ref a_FALSE), .val (.int (1 : Int32)), .val (.int (1 : Int32)), .val (.ref ls), .unset]) rfl q) ?_
    refine Goes.by (g' := (mkF m 101 #[.val (.int p0), .val (.int (0 : Int32)), .val (.ref a_FALSE), .val (.int (1 : Int32)), .val (.int (1 : Int32)), .val (.ref ls), .unset] [(.ref ls)])) (fun _ q => XS.aload X.here X.hx rfl (hb hby at_99) rfl rfl q) ?_
    refine Goes.by (g' := (mkF m 102 #[.val (.int p0), .val (.int (0 : Int32)), .val (.ref a_FALSE), .val (.int (1 : Int32)), .val (.int (1 : Int32)), .val (.ref ls), .unset] [(.ref a_FALSE), (.ref ls)])) (fun _ q => XS.aloadN X.here X.hx rfl (hb hby at_101) rfl rfl q) ?_
    have X_o := X
    refine X.callV E_a_FALSE (hw _ (List.mem_of_getElem? (i := 66) rfl)) (hw _ (List.mem_of_getElem? (i := 67) rfl)) (hw _ (List.mem_of_getElem? (i := 69) rfl)) (hw _ (List.mem_of_getElem? (i := 9) rfl)) rfl (hw _ (List.mem_of_getElem? (i := 68) rfl)) (hw _ (List.mem_of_getElem? (i := 2) rfl)) (hw _ (List.mem_of_getElem? (i := 70) rfl)) (by decide) pd_2047462102 (argsL := []) rfl (rmToJ5 l Z a0 hw n0 h84 X.n0le x_FALSE t_FALSE E_x_FALSE F_x_FALSE_value F_x_FALSE_coder A_t_FALSE zc hzc S_C O_ a_BOOLEAN a_OBJECT S_OBJECT a_ARRAY S_ARRAY a_STRING S_STRING n_OBJECT n_ARRAY n_STRING a_FALSE E_a_FALSE F_a_FALSE_kind F_a_FALSE_text) (by rw [hml]; rfl) rfl (by decide) (leB rfl) (hb hby at_102) (by decide) (by decide) (fun T h85 v X hQ => ?_)
    obtain ⟨rr, rb, rfl, gzr, gzb, K, E_rr, F_rr_value, F_rr_coder, A_rb⟩ := hQ
    have ga_rr : n0 ≤ rr := Nat.le_trans X_o.n0le gzr
    have ne_a_TRUE_rr : a_TRUE ≠ rr := Nat.ne_of_lt (Nat.lt_of_lt_of_le E_a_TRUE.lt gzr)
    have ne_x_TRUE_rr : x_TRUE ≠ rr := Nat.ne_of_lt (Nat.lt_of_lt_of_le E_x_TRUE.lt gzr)
    have ne_a_FALSE_rr : a_FALSE ≠ rr := Nat.ne_of_lt (Nat.lt_of_lt_of_le E_a_FALSE.lt gzr)
    have ne_x_FALSE_rr : x_FALSE ≠ rr := Nat.ne_of_lt (Nat.lt_of_lt_of_le E_x_FALSE.lt gzr)
    have ne_ls_rr : ls ≠ rr := Nat.ne_of_lt (Nat.lt_of_lt_of_le E_ls.lt gzr)
    have ne_t_TRUE_rr : t_TRUE ≠ rr := Nat.ne_of_lt (Nat.lt_of_lt_of_le A_t_TRUE.lt gzr)
    have ne_t_FALSE_rr : t_FALSE ≠ rr := Nat.ne_of_lt (Nat.lt_of_lt_of_le A_t_FALSE.lt gzr)
    have ne_lb_rr : lb ≠ rr := Nat.ne_of_lt (Nat.lt_of_lt_of_le A_lb.lt gzr)
    have ga_rb : n0 ≤ rb := Nat.le_trans X_o.n0le gzb
    have ne_a_TRUE_rb : a_TRUE ≠ rb := Nat.ne_of_lt (Nat.lt_of_lt_of_le E_a_TRUE.lt gzb)
    have ne_x_TRUE_rb : x_TRUE ≠ rb := Nat.ne_of_lt (Nat.lt_of_lt_of_le E_x_TRUE.lt gzb)
    have ne_a_FALSE_rb : a_FALSE ≠ rb := Nat.ne_of_lt (Nat.lt_of_lt_of_le E_a_FALSE.lt gzb)
    have ne_x_FALSE_rb : x_FALSE ≠ rb := Nat.ne_of_lt (Nat.lt_of_lt_of_le E_x_FALSE.lt gzb)
    have ne_ls_rb : ls ≠ rb := Nat.ne_of_lt (Nat.lt_of_lt_of_le E_ls.lt gzb)
    have ne_t_TRUE_rb : t_TRUE ≠ rb := Nat.ne_of_lt (Nat.lt_of_lt_of_le A_t_TRUE.lt gzb)
    have ne_t_FALSE_rb : t_FALSE ≠ rb := Nat.ne_of_lt (Nat.lt_of_lt_of_le A_t_FALSE.lt gzb)
    have ne_lb_rb : lb ≠ rb := Nat.ne_of_lt (Nat.lt_of_lt_of_le A_lb.lt gzb)
    have O_ := O_.keep K all0
    have E_a_TRUE := E_a_TRUE.keep K
    have F_a_TRUE_kind := F_a_TRUE_kind.keep K nin0
    have F_a_TRUE_text := F_a_TRUE_text.keep K nin0
    have E_x_TRUE := E_x_TRUE.keep K
    have F_x_TRUE_value := F_x_TRUE_value.keep K nin0
    have F_x_TRUE_coder := F_x_TRUE_coder.keep K nin0
    have A_t_TRUE := PArr.keep A_t_TRUE K nin0
    have E_a_FALSE := E_a_FALSE.keep K
    have F_a_FALSE_kind := F_a_FALSE_kind.keep K nin0
    have F_a_FALSE_text := F_a_FALSE_text.keep K nin0
    have E_x_FALSE := E_x_FALSE.keep K
    have F_x_FALSE_value := F_x_FALSE_value.keep K nin0
    have F_x_FALSE_coder := F_x_FALSE_coder.keep K nin0
    have A_t_FALSE := PArr.keep A_t_FALSE K nin0
    have E_ls := E_ls.keep K
    have F_ls_value := F_ls_value.keep K nin0
    have F_ls_coder := F_ls_coder.keep K nin0
    have A_lb := PArr.keep A_lb K nin0
    show Goes _ _ _ _ _ _ _ _ _ T (mkF m 105 #[.val (.int p0), .val (.int (0 : Int32)), .val (.ref a_FALSE), .val (.int (1 : Int32)), .val (.int (1 : Int32)), .val (.ref ls), .unset] [(.ref rr), (.ref ls)])
    have X_o := X
    refine X.callV E_ls (hw _ (List.mem_of_getElem? (i := 194) rfl)) (hw _ (List.mem_of_getElem? (i := 195) rfl)) (hw _ (List.mem_of_getElem? (i := 197) rfl)) (hw _ (List.mem_of_getElem? (i := 110) rfl)) rfl (hw _ (List.mem_of_getElem? (i := 196) rfl)) (hw _ (List.mem_of_getElem? (i := 59) rfl)) (hw _ (List.mem_of_getElem? (i := 198) rfl)) (by decide) pd_396412080 (argsL := [(.ref rr)]) rfl (rmEq5 l Z a0 hw n0 h85 X.n0le ls lb E_ls F_ls_value F_ls_coder A_lb rr rb E_rr F_rr_value F_rr_coder A_rb ne_ls_rr zc hzc S_C O_) (by rw [hml]; rfl) rfl (by decide) (leB rfl) (hb hby at_105) (by decide) (by decide) (fun T h86 v X hQ => ?_)
    obtain ⟨rfl, hh⟩ := hQ
    rw [hh] at X
    clear hh
    show Goes _ _ _ _ _ _ _ _ _ T (mkF m 108 #[.val (.int p0), .val (.int (0 : Int32)), .val (.ref a_FALSE), .val (.int (1 : Int32)), .val (.int (1 : Int32)), .val (.ref ls), .unset] [(.int (1 : Int32))])
    refine Goes.by (g' := (mkF m 110 #[.val (.int p0), .val (.int (0 : Int32)), .val (.ref a_FALSE), .val (.int (1 : Int32)), .val (.int (1 : Int32)), .val (.ref ls), .val (.int (1 : Int32))] [])) (fun _ q => XS.istore X.here X.hx rfl (hb hby at_108) rfl (l' := #[.val (.int p0), .val (.int (0 : Int32)), .val (.ref a_FALSE), .val (.int (1 : Int32)), .val (.int (1 : Int32)), .val (.ref ls), .val (.int (1 : Int32))]) rfl q) ?_
    refine Goes.by (g' := (mkF m 111 #[.val (.int p0), .val (.int (0 : Int32)), .val (.ref a_FALSE), .val (.int (1 : Int32)), .val (.int (1 : Int32)), .val (.ref ls), .val (.int (1 : Int32))] [(.int (1 : Int32))])) (fun _ q => XS.iloadN X.here X.hx rfl (hb hby at_110) rfl q) ?_
    refine Goes.by (g' := (mkF m 114 #[.val (.int p0), .val (.int (0 : Int32)), .val (.ref a_FALSE), .val (.int (1 : Int32)), .val (.int (1 : Int32)), .val (.ref ls), .val (.int (1 : Int32))] [])) (fun _ q => XS.ifNo X.here X.hx rfl (hb hby at_111) rfl ((if0 _ _).trans (feq (show ¬ (1 : Int32) = (0 : Int32) from (by decide))).1) q) ?_
    refine Goes.by (g' := (mkF m 116 #[.val (.int p0), .val (.int (0 : Int32)), .val (.ref a_FALSE), .val (.int (1 : Int32)), .val (.int (1 : Int32)), .val (.ref ls), .val (.int (1 : Int32))] [(.int (1 : Int32))])) (fun _ q => XS.iload X.here X.hx rfl (hb hby at_114) rfl q) ?_
    refine Goes.by (g' := (mkF m 119 #[.val (.int p0), .val (.int (0 : Int32)), .val (.ref a_FALSE), .val (.int (1 : Int32)), .val (.int (1 : Int32)), .val (.ref ls), .val (.int (1 : Int32))] [])) (fun _ q => XS.ifNo X.here X.hx rfl (hb hby at_116) rfl ((if0 _ _).trans (feq (show ¬ (1 : Int32) = (0 : Int32) from (by decide))).1) q) ?_
    refine Goes.by (g' := (mkF m 121 #[.val (.int p0), .val (.int (0 : Int32)), .val (.ref a_FALSE), .val (.int (1 : Int32)), .val (.int (1 : Int32)), .val (.ref ls), .val (.int (1 : Int32))] [(.int (1 : Int32))])) (fun _ q => XS.iload X.here X.hx rfl (hb hby at_119) rfl q) ?_
    refine Goes.by (g' := (mkF m 124 #[.val (.int p0), .val (.int (0 : Int32)), .val (.ref a_FALSE), .val (.int (1 : Int32)), .val (.int (1 : Int32)), .val (.ref ls), .val (.int (1 : Int32))] [])) (fun _ q => XS.ifNo X.here X.hx rfl (hb hby at_121) rfl ((if0 _ _).trans (feq (show ¬ (1 : Int32) = (0 : Int32) from (by decide))).1) q) ?_
    refine Goes.by (g' := (mkF m 125 #[.val (.int p0), .val (.int (0 : Int32)), .val (.ref a_FALSE), .val (.int (1 : Int32)), .val (.int (1 : Int32)), .val (.ref ls), .val (.int (1 : Int32))] [(.int (1 : Int32))])) (fun _ q => XS.iconst X.here X.hx rfl (hb hby at_124) q) ?_
    refine Goes.by (g' := (mkF m 129 #[.val (.int p0), .val (.int (0 : Int32)), .val (.ref a_FALSE), .val (.int (1 : Int32)), .val (.int (1 : Int32)), .val (.ref ls), .val (.int (1 : Int32))] [(.int (1 : Int32))])) (fun _ q => XS.goto X.here X.hx rfl (pc0 := 125) (pc' := 129) rfl (hb hby at_125) (by decide) (by decide) q) ?_
    exact X.retZ hret (hb hby at_129) (by decide) (by decide) rfl
  · skip
    refine Goes.by (g' := (mkF m 6 #[.val (.int p0), .unset, .unset, .unset, .unset, .unset, .unset] [])) (fun _ q => XS.ifNo X.here X.hx rfl (hb hby at_3) rfl ((if0 _ _).trans (feq hB75).1) q) ?_
    refine Goes.by (g' := (mkF m 7 #[.val (.int p0), .unset, .unset, .unset, .unset, .unset, .unset] [(.int (1 : Int32))])) (fun _ q => XS.iconst X.here X.hx rfl (hb hby at_6) q) ?_
    refine Goes.by (g' := (mkF m 11 #[.val (.int p0), .unset, .unset, .unset, .unset, .unset, .unset] [(.int (1 : Int32))])) (fun _ q => XS.goto X.here X.hx rfl (pc0 := 7) (pc' := 11) rfl (hb hby at_7) (by decide) (by decide) q) ?_
    refine Goes.by (g' := (mkF m 12 #[.val (.int p0), .val (.int (1 : Int32)), .unset, .unset, .unset, .unset, .unset] [])) (fun _ q => XS.istoreN X.here X.hx rfl (hb hby at_11) rfl (l' := #[.val (.int p0), .val (.int (1 : Int32)), .unset, .unset, .unset, .unset, .unset]) rfl q) ?_
    refine Goes.by (g' := (mkF m 13 #[.val (.int p0), .val (.int (1 : Int32)), .unset, .unset, .unset, .unset, .unset] [(.int (1 : Int32))])) (fun _ q => XS.iloadN X.here X.hx rfl (hb hby at_12) rfl q) ?_
    have X_o := X
    refine X.callS (hw _ (List.mem_of_getElem? (i := 0) rfl)) (hw _ (List.mem_of_getElem? (i := 1) rfl)) (hw _ (List.mem_of_getElem? (i := 2) rfl)) (hw _ (List.mem_of_getElem? (i := 3) rfl)) (by decide) pd_2300949434 (argsL := [(.int (1 : Int32))]) rfl (rmBool1 l Z a0 hw n0 h0 X.n0le a_TRUE S_TRUE O_) (by rw [hml]; rfl) rfl (by decide) (leB rfl) (hb hby at_13) (by decide) (by decide) (fun T h87 v X hQ => ?_)
    obtain ⟨rfl, hh⟩ := hQ
    rw [hh] at X
    clear hh
    show Goes _ _ _ _ _ _ _ _ _ T (mkF m 16 #[.val (.int p0), .val (.int (1 : Int32)), .unset, .unset, .unset, .unset, .unset] [(.ref a_TRUE)])
    refine Goes.by (g' := (mkF m 17 #[.val (.int p0), .val (.int (1 : Int32)), .val (.ref a_TRUE), .unset, .unset, .unset, .unset] [])) (fun _ q => XS.astoreN X.here X.hx rfl (hb hby at_16) rfl rfl (l' := #[.val (.int p0), .val (.int (1 : Int32)), .val (.ref a_TRUE), .unset, .unset, .unset, .unset]) rfl q) ?_
    refine Goes.by (g' := (mkF m 18 #[.val (.int p0), .val (.int (1 : Int32)), .val (.ref a_TRUE), .unset, .unset, .unset, .unset] [(.ref a_TRUE)])) (fun _ q => XS.aloadN X.here X.hx rfl (hb hby at_17) rfl rfl q) ?_
    refine Goes.by (g' := (mkF m 23 #[.val (.int p0), .val (.int (1 : Int32)), .val (.ref a_TRUE), .unset, .unset, .unset, .unset] [])) (fun _ q => XS.ifnonnullYes X.here X.hx rfl (pc0 := 18) (pc' := 23) rfl (hb hby at_18) rfl (by decide) (by decide) q) ?_
    refine Goes.by (g' := (mkF m 24 #[.val (.int p0), .val (.int (1 : Int32)), .val (.ref a_TRUE), .unset, .unset, .unset, .unset] [(.ref a_TRUE)])) (fun _ q => XS.aloadN X.here X.hx rfl (hb hby at_23) rfl rfl q) ?_
    have X_o := X
    refine X.callV E_a_TRUE (hw _ (List.mem_of_getElem? (i := 6) rfl)) (hw _ (List.mem_of_getElem? (i := 7) rfl)) (hw _ (List.mem_of_getElem? (i := 9) rfl)) (hw _ (List.mem_of_getElem? (i := 9) rfl)) rfl (hw _ (List.mem_of_getElem? (i := 8) rfl)) (hw _ (List.mem_of_getElem? (i := 2) rfl)) (hw _ (List.mem_of_getElem? (i := 10) rfl)) (by decide) pd_193422000 (argsL := []) rfl (rm_isBoolean l Z a0 hw n0 h0 X.n0le a_BOOLEAN S_BOOLEAN a_TRUE F_a_TRUE_kind O_) (by rw [hml]; rfl) rfl (by decide) (leB rfl) (hb hby at_24) (by decide) (by decide) (fun T h88 v X hQ => ?_)
    obtain ⟨rfl, hh⟩ := hQ
    rw [hh] at X
    clear hh
    show Goes _ _ _ _ _ _ _ _ _ T (mkF m 27 #[.val (.int p0), .val (.int (1 : Int32)), .val (.ref a_TRUE), .unset, .unset, .unset, .unset] [(.int (1 : Int32))])
    refine Goes.by (g' := (mkF m 30 #[.val (.int p0), .val (.int (1 : Int32)), .val (.ref a_TRUE), .unset, .unset, .unset, .unset] [])) (fun _ q => XS.ifNo X.here X.hx rfl (hb hby at_27) rfl ((if0 _ _).trans (feq (show ¬ (1 : Int32) = (0 : Int32) from (by decide))).1) q) ?_
    refine Goes.by (g' := (mkF m 31 #[.val (.int p0), .val (.int (1 : Int32)), .val (.ref a_TRUE), .unset, .unset, .unset, .unset] [(.ref a_TRUE)])) (fun _ q => XS.aloadN X.here X.hx rfl (hb hby at_30) rfl rfl q) ?_
    have X_o := X
    refine X.callV E_a_TRUE (hw _ (List.mem_of_getElem? (i := 16) rfl)) (hw _ (List.mem_of_getElem? (i := 17) rfl)) (hw _ (List.mem_of_getElem? (i := 19) rfl)) (hw _ (List.mem_of_getElem? (i := 9) rfl)) rfl (hw _ (List.mem_of_getElem? (i := 18) rfl)) (hw _ (List.mem_of_getElem? (i := 2) rfl)) (hw _ (List.mem_of_getElem? (i := 20) rfl)) (by decide) pd_193422000 (argsL := []) rfl (rm_isNull l Z a0 hw n0 h0 X.n0le a_BOOLEAN a_NULL S_NULL n_NULL a_TRUE F_a_TRUE_kind O_) (by rw [hml]; rfl) rfl (by decide) (leB rfl) (hb hby at_31) (by decide) (by decide) (fun T h89 v X hQ => ?_)
    obtain ⟨rfl, hh⟩ := hQ
    rw [hh] at X
    clear hh
    show Goes _ _ _ _ _ _ _ _ _ T (mkF m 34 #[.val (.int p0), .val (.int (1 : Int32)), .val (.ref a_TRUE), .unset, .unset, .unset, .unset] [(.int (0 : Int32))])
    refine Goes.by (g' := (mkF m 37 #[.val (.int p0), .val (.int (1 : Int32)), .val (.ref a_TRUE), .unset, .unset, .unset, .unset] [])) (fun _ q => XS.ifNo X.here X.hx rfl (hb hby at_34) rfl ((if0 _ _).trans (teq (show (0 : Int32) = (0 : Int32) from (by decide))).2) q) ?_
    refine Goes.by (g' := (mkF m 38 #[.val (.int p0), .val (.int (1 : Int32)), .val (.ref a_TRUE), .unset, .unset, .unset, .unset] [(.ref a_TRUE)])) (fun _ q => XS.aloadN X.here X.hx rfl (hb hby at_37) rfl rfl q) ?_
    have X_o := X
    refine X.callV E_a_TRUE (hw _ (List.mem_of_getElem? (i := 23) rfl)) (hw _ (List.mem_of_getElem? (i := 24) rfl)) (hw _ (List.mem_of_getElem? (i := 26) rfl)) (hw _ (List.mem_of_getElem? (i := 9) rfl)) rfl (hw _ (List.mem_of_getElem? (i := 25) rfl)) (hw _ (List.mem_of_getElem? (i := 2) rfl)) (hw _ (List.mem_of_getElem? (i := 27) rfl)) (by decide) pd_193422000 (argsL := []) rfl (rm_isObject l Z a0 hw n0 h0 X.n0le a_BOOLEAN a_OBJECT S_OBJECT n_OBJECT a_TRUE F_a_TRUE_kind O_) (by rw [hml]; rfl) rfl (by decide) (leB rfl) (hb hby at_38) (by decide) (by decide) (fun T h90 v X hQ => ?_)
    obtain ⟨rfl, hh⟩ := hQ
    rw [hh] at X
    clear hh
    show Goes _ _ _ _ _ _ _ _ _ T (mkF m 41 #[.val (.int p0), .val (.int (1 : Int32)), .val (.ref a_TRUE), .unset, .unset, .unset, .unset] [(.int (0 : Int32))])
    refine Goes.by (g' := (mkF m 44 #[.val (.int p0), .val (.int (1 : Int32)), .val (.ref a_TRUE), .unset, .unset, .unset, .unset] [])) (fun _ q => XS.ifNo X.here X.hx rfl (hb hby at_41) rfl ((if0 _ _).trans (teq (show (0 : Int32) = (0 : Int32) from (by decide))).2) q) ?_
    refine Goes.by (g' := (mkF m 45 #[.val (.int p0), .val (.int (1 : Int32)), .val (.ref a_TRUE), .unset, .unset, .unset, .unset] [(.ref a_TRUE)])) (fun _ q => XS.aloadN X.here X.hx rfl (hb hby at_44) rfl rfl q) ?_
    have X_o := X
    refine X.callV E_a_TRUE (hw _ (List.mem_of_getElem? (i := 30) rfl)) (hw _ (List.mem_of_getElem? (i := 31) rfl)) (hw _ (List.mem_of_getElem? (i := 33) rfl)) (hw _ (List.mem_of_getElem? (i := 9) rfl)) rfl (hw _ (List.mem_of_getElem? (i := 32) rfl)) (hw _ (List.mem_of_getElem? (i := 2) rfl)) (hw _ (List.mem_of_getElem? (i := 34) rfl)) (by decide) pd_193422000 (argsL := []) rfl (rm_isArray l Z a0 hw n0 h0 X.n0le a_BOOLEAN a_ARRAY S_ARRAY n_ARRAY a_TRUE F_a_TRUE_kind O_) (by rw [hml]; rfl) rfl (by decide) (leB rfl) (hb hby at_45) (by decide) (by decide) (fun T h91 v X hQ => ?_)
    obtain ⟨rfl, hh⟩ := hQ
    rw [hh] at X
    clear hh
    show Goes _ _ _ _ _ _ _ _ _ T (mkF m 48 #[.val (.int p0), .val (.int (1 : Int32)), .val (.ref a_TRUE), .unset, .unset, .unset, .unset] [(.int (0 : Int32))])
    refine Goes.by (g' := (mkF m 51 #[.val (.int p0), .val (.int (1 : Int32)), .val (.ref a_TRUE), .unset, .unset, .unset, .unset] [])) (fun _ q => XS.ifNo X.here X.hx rfl (hb hby at_48) rfl ((if0 _ _).trans (teq (show (0 : Int32) = (0 : Int32) from (by decide))).2) q) ?_
    refine Goes.by (g' := (mkF m 52 #[.val (.int p0), .val (.int (1 : Int32)), .val (.ref a_TRUE), .unset, .unset, .unset, .unset] [(.ref a_TRUE)])) (fun _ q => XS.aloadN X.here X.hx rfl (hb hby at_51) rfl rfl q) ?_
    have X_o := X
    refine X.callV E_a_TRUE (hw _ (List.mem_of_getElem? (i := 37) rfl)) (hw _ (List.mem_of_getElem? (i := 38) rfl)) (hw _ (List.mem_of_getElem? (i := 40) rfl)) (hw _ (List.mem_of_getElem? (i := 9) rfl)) rfl (hw _ (List.mem_of_getElem? (i := 39) rfl)) (hw _ (List.mem_of_getElem? (i := 2) rfl)) (hw _ (List.mem_of_getElem? (i := 41) rfl)) (by decide) pd_193422000 (argsL := []) rfl (rm_isText l Z a0 hw n0 h0 X.n0le a_BOOLEAN a_STRING S_STRING n_STRING a_TRUE F_a_TRUE_kind O_) (by rw [hml]; rfl) rfl (by decide) (leB rfl) (hb hby at_52) (by decide) (by decide) (fun T h92 v X hQ => ?_)
    obtain ⟨rfl, hh⟩ := hQ
    rw [hh] at X
    clear hh
    show Goes _ _ _ _ _ _ _ _ _ T (mkF m 55 #[.val (.int p0), .val (.int (1 : Int32)), .val (.ref a_TRUE), .unset, .unset, .unset, .unset] [(.int (0 : Int32))])
    refine Goes.by (g' := (mkF m 58 #[.val (.int p0), .val (.int (1 : Int32)), .val (.ref a_TRUE), .unset, .unset, .unset, .unset] [])) (fun _ q => XS.ifNo X.here X.hx rfl (hb hby at_55) rfl ((if0 _ _).trans (teq (show (0 : Int32) = (0 : Int32) from (by decide))).2) q) ?_
    refine Goes.by (g' := (mkF m 59 #[.val (.int p0), .val (.int (1 : Int32)), .val (.ref a_TRUE), .unset, .unset, .unset, .unset] [(.ref a_TRUE)])) (fun _ q => XS.aloadN X.here X.hx rfl (hb hby at_58) rfl rfl q) ?_
    have X_o := X
    refine X.callV E_a_TRUE (hw _ (List.mem_of_getElem? (i := 44) rfl)) (hw _ (List.mem_of_getElem? (i := 45) rfl)) (hw _ (List.mem_of_getElem? (i := 47) rfl)) (hw _ (List.mem_of_getElem? (i := 9) rfl)) rfl (hw _ (List.mem_of_getElem? (i := 46) rfl)) (hw _ (List.mem_of_getElem? (i := 2) rfl)) (hw _ (List.mem_of_getElem? (i := 48) rfl)) (by decide) pd_193422000 (argsL := []) rfl (rm_isNumber l Z a0 hw n0 h0 X.n0le a_BOOLEAN a_NUMBER S_NUMBER n_NUMBER a_TRUE F_a_TRUE_kind O_) (by rw [hml]; rfl) rfl (by decide) (leB rfl) (hb hby at_59) (by decide) (by decide) (fun T h93 v X hQ => ?_)
    obtain ⟨rfl, hh⟩ := hQ
    rw [hh] at X
    clear hh
    show Goes _ _ _ _ _ _ _ _ _ T (mkF m 62 #[.val (.int p0), .val (.int (1 : Int32)), .val (.ref a_TRUE), .unset, .unset, .unset, .unset] [(.int (0 : Int32))])
    refine Goes.by (g' := (mkF m 65 #[.val (.int p0), .val (.int (1 : Int32)), .val (.ref a_TRUE), .unset, .unset, .unset, .unset] [])) (fun _ q => XS.ifNo X.here X.hx rfl (hb hby at_62) rfl ((if0 _ _).trans (teq (show (0 : Int32) = (0 : Int32) from (by decide))).2) q) ?_
    refine Goes.by (g' := (mkF m 66 #[.val (.int p0), .val (.int (1 : Int32)), .val (.ref a_TRUE), .unset, .unset, .unset, .unset] [(.int (1 : Int32))])) (fun _ q => XS.iconst X.here X.hx rfl (hb hby at_65) q) ?_
    refine Goes.by (g' := (mkF m 70 #[.val (.int p0), .val (.int (1 : Int32)), .val (.ref a_TRUE), .unset, .unset, .unset, .unset] [(.int (1 : Int32))])) (fun _ q => XS.goto X.here X.hx rfl (pc0 := 66) (pc' := 70) rfl (hb hby at_66) (by decide) (by decide) q) ?_
    refine Goes.by (g' := (mkF m 71 #[.val (.int p0), .val (.int (1 : Int32)), .val (.ref a_TRUE), .val (.int (1 : Int32)), .unset, .unset, .unset] [])) (fun _ q => XS.istoreN X.here X.hx rfl (hb hby at_70) rfl (l' := #[.val (.int p0), .val (.int (1 : Int32)), .val (.ref a_TRUE), .val (.int (1 : Int32)), .unset, .unset, .unset]) rfl q) ?_
    refine Goes.by (g' := (mkF m 72 #[.val (.int p0), .val (.int (1 : Int32)), .val (.ref a_TRUE), .val (.int (1 : Int32)), .unset, .unset, .unset] [(.ref a_TRUE)])) (fun _ q => XS.aloadN X.here X.hx rfl (hb hby at_71) rfl rfl q) ?_
    have X_o := X
    refine X.callV E_a_TRUE (hw _ (List.mem_of_getElem? (i := 51) rfl)) (hw _ (List.mem_of_getElem? (i := 52) rfl)) (hw _ (List.mem_of_getElem? (i := 54) rfl)) (hw _ (List.mem_of_getElem? (i := 9) rfl)) rfl (hw _ (List.mem_of_getElem? (i := 53) rfl)) (hw _ (List.mem_of_getElem? (i := 2) rfl)) (hw _ (List.mem_of_getElem? (i := 55) rfl)) (by decide) pd_193422000 (argsL := []) rfl (rmT1 l Z a0 hw n0 h0 X.n0le a_TRUE S_TRUE O_) (by rw [hml]; rfl) rfl (by decide) (leB rfl) (hb hby at_72) (by decide) (by decide) (fun T h94 v X hQ => ?_)
    obtain ⟨rfl, hh⟩ := hQ
    rw [hh] at X
    clear hh
    show Goes _ _ _ _ _ _ _ _ _ T (mkF m 75 #[.val (.int p0), .val (.int (1 : Int32)), .val (.ref a_TRUE), .val (.int (1 : Int32)), .unset, .unset, .unset] [(.int (1 : Int32))])
    refine Goes.by (g' := (mkF m 76 #[.val (.int p0), .val (.int (1 : Int32)), .val (.ref a_TRUE), .val (.int (1 : Int32)), .unset, .unset, .unset] [(.int (1 : Int32)), (.int (1 : Int32))])) (fun _ q => XS.iloadN X.here X.hx rfl (hb hby at_75) rfl q) ?_
    refine Goes.by (g' := (mkF m 79 #[.val (.int p0), .val (.int (1 : Int32)), .val (.ref a_TRUE), .val (.int (1 : Int32)), .unset, .unset, .unset] [])) (fun _ q => XS.icmpNo X.here X.hx rfl (hb hby at_76) rfl (teq (show (1 : Int32) = (1 : Int32) from (by decide))).2 q) ?_
    refine Goes.by (g' := (mkF m 80 #[.val (.int p0), .val (.int (1 : Int32)), .val (.ref a_TRUE), .val (.int (1 : Int32)), .unset, .unset, .unset] [(.int (1 : Int32))])) (fun _ q => XS.iconst X.here X.hx rfl (hb hby at_79) q) ?_
    refine Goes.by (g' := (mkF m 84 #[.val (.int p0), .val (.int (1 : Int32)), .val (.ref a_TRUE), .val (.int (1 : Int32)), .unset, .unset, .unset] [(.int (1 : Int32))])) (fun _ q => XS.goto X.here X.hx rfl (pc0 := 80) (pc' := 84) rfl (hb hby at_80) (by decide) (by decide) q) ?_
    refine Goes.by (g' := (mkF m 86 #[.val (.int p0), .val (.int (1 : Int32)), .val (.ref a_TRUE), .val (.int (1 : Int32)), .val (.int (1 : Int32)), .unset, .unset] [])) (fun _ q => XS.istore X.here X.hx rfl (hb hby at_84) rfl (l' := #[.val (.int p0), .val (.int (1 : Int32)), .val (.ref a_TRUE), .val (.int (1 : Int32)), .val (.int (1 : Int32)), .unset, .unset]) rfl q) ?_
    refine Goes.by (g' := (mkF m 87 #[.val (.int p0), .val (.int (1 : Int32)), .val (.ref a_TRUE), .val (.int (1 : Int32)), .val (.int (1 : Int32)), .unset, .unset] [(.int (1 : Int32))])) (fun _ q => XS.iloadN X.here X.hx rfl (hb hby at_86) rfl q) ?_
    refine Goes.by (g' := (mkF m 90 #[.val (.int p0), .val (.int (1 : Int32)), .val (.ref a_TRUE), .val (.int (1 : Int32)), .val (.int (1 : Int32)), .unset, .unset] [])) (fun _ q => XS.ifNo X.here X.hx rfl (hb hby at_87) rfl ((if0 _ _).trans (feq (show ¬ (1 : Int32) = (0 : Int32) from (by decide))).1) q) ?_
    refine X.ldcV (hw _ (List.mem_of_getElem? (i := 204) rfl)) wS hh35 hcw (by rw [hsh, ← hkp]; exact O_0) (fun b cl q => by rw [hsh, ← hkp]; exact q) hsi (vs := [.int 116, .int 114, .int 117, .int 101]) (z := 4) (N := 4) (by decide) (by decide) rfl (hb hby at_90) (n' := 16) (by decide) (by decide) (by decide) (by decide) (fun T h95 ls lb X E E_ls F_ls_coder F_ls_value A_ls => ?_)
    have O_ := O_.ext E
    have E_a_TRUE := E_a_TRUE.ext E
    have F_a_TRUE_kind := F_a_TRUE_kind.ext E
    have F_a_TRUE_text := F_a_TRUE_text.ext E
    have E_x_TRUE := E_x_TRUE.ext E
    have F_x_TRUE_value := F_x_TRUE_value.ext E
    have F_x_TRUE_coder := F_x_TRUE_coder.ext E
    have A_t_TRUE := PArr.ext A_t_TRUE E
    have E_a_FALSE := E_a_FALSE.ext E
    have F_a_FALSE_kind := F_a_FALSE_kind.ext E
    have F_a_FALSE_text := F_a_FALSE_text.ext E
    have E_x_FALSE := E_x_FALSE.ext E
    have F_x_FALSE_value := F_x_FALSE_value.ext E
    have F_x_FALSE_coder := F_x_FALSE_coder.ext E
    have A_t_FALSE := PArr.ext A_t_FALSE E
    have A_lb : PArr Z h95 lb .byte 4 (tv [116, 114, 117, 101]) := PArr.congr A_ls (by decide)
    show Goes _ _ _ _ _ _ _ _ _ T (mkF m 92 #[.val (.int p0), .val (.int (1 : Int32)), .val (.ref a_TRUE), .val (.int (1 : Int32)), .val (.int (1 : Int32)), .unset, .unset] [(.ref ls)])
    refine Goes.by (g' := (mkF m 97 #[.val (.int p0), .val (.int (1 : Int32)), .val (.ref a_TRUE), .val (.int (1 : Int32)), .val (.int (1 : Int32)), .unset, .unset] [(.ref ls)])) (fun _ q => XS.goto X.here X.hx rfl (pc0 := 92) (pc' := 97) rfl (hb hby at_92) (by decide) (by decide) q) ?_
    refine Goes.by (g' := (mkF m 99 #[.val (.int p0), .val (.int (1 : Int32)), .val (.ref a_TRUE), .val (.int (1 : Int32)), .val (.int (1 : Int32)), .val (.ref ls), .unset] [])) (fun _ q => XS.astore X.here X.hx rfl (hb hby at_97) rfl rfl (l' := #[.val (.int p0), .val (.int (1 : Int32)), .val (.ref a_TRUE), .val (.int (1 : Int32)), .val (.int (1 : Int32)), .val (.ref ls), .unset]) rfl q) ?_
    refine Goes.by (g' := (mkF m 101 #[.val (.int p0), .val (.int (1 : Int32)), .val (.ref a_TRUE), .val (.int (1 : Int32)), .val (.int (1 : Int32)), .val (.ref ls), .unset] [(.ref ls)])) (fun _ q => XS.aload X.here X.hx rfl (hb hby at_99) rfl rfl q) ?_
    refine Goes.by (g' := (mkF m 102 #[.val (.int p0), .val (.int (1 : Int32)), .val (.ref a_TRUE), .val (.int (1 : Int32)), .val (.int (1 : Int32)), .val (.ref ls), .unset] [(.ref a_TRUE), (.ref ls)])) (fun _ q => XS.aloadN X.here X.hx rfl (hb hby at_101) rfl rfl q) ?_
    have X_o := X
    refine X.callV E_a_TRUE (hw _ (List.mem_of_getElem? (i := 66) rfl)) (hw _ (List.mem_of_getElem? (i := 67) rfl)) (hw _ (List.mem_of_getElem? (i := 69) rfl)) (hw _ (List.mem_of_getElem? (i := 9) rfl)) rfl (hw _ (List.mem_of_getElem? (i := 68) rfl)) (hw _ (List.mem_of_getElem? (i := 2) rfl)) (hw _ (List.mem_of_getElem? (i := 70) rfl)) (by decide) pd_2047462102 (argsL := []) rfl (rmToJ4 l Z a0 hw n0 h95 X.n0le x_TRUE t_TRUE E_x_TRUE F_x_TRUE_value F_x_TRUE_coder A_t_TRUE zc hzc S_C O_ a_BOOLEAN a_OBJECT S_OBJECT a_ARRAY S_ARRAY a_STRING S_STRING n_OBJECT n_ARRAY n_STRING a_TRUE E_a_TRUE F_a_TRUE_kind F_a_TRUE_text) (by rw [hml]; rfl) rfl (by decide) (leB rfl) (hb hby at_102) (by decide) (by decide) (fun T h96 v X hQ => ?_)
    obtain ⟨rr, rb, rfl, gzr, gzb, K, E_rr, F_rr_value, F_rr_coder, A_rb⟩ := hQ
    have ga_rr : n0 ≤ rr := Nat.le_trans X_o.n0le gzr
    have ne_a_TRUE_rr : a_TRUE ≠ rr := Nat.ne_of_lt (Nat.lt_of_lt_of_le E_a_TRUE.lt gzr)
    have ne_x_TRUE_rr : x_TRUE ≠ rr := Nat.ne_of_lt (Nat.lt_of_lt_of_le E_x_TRUE.lt gzr)
    have ne_a_FALSE_rr : a_FALSE ≠ rr := Nat.ne_of_lt (Nat.lt_of_lt_of_le E_a_FALSE.lt gzr)
    have ne_x_FALSE_rr : x_FALSE ≠ rr := Nat.ne_of_lt (Nat.lt_of_lt_of_le E_x_FALSE.lt gzr)
    have ne_ls_rr : ls ≠ rr := Nat.ne_of_lt (Nat.lt_of_lt_of_le E_ls.lt gzr)
    have ne_t_TRUE_rr : t_TRUE ≠ rr := Nat.ne_of_lt (Nat.lt_of_lt_of_le A_t_TRUE.lt gzr)
    have ne_t_FALSE_rr : t_FALSE ≠ rr := Nat.ne_of_lt (Nat.lt_of_lt_of_le A_t_FALSE.lt gzr)
    have ne_lb_rr : lb ≠ rr := Nat.ne_of_lt (Nat.lt_of_lt_of_le A_lb.lt gzr)
    have ga_rb : n0 ≤ rb := Nat.le_trans X_o.n0le gzb
    have ne_a_TRUE_rb : a_TRUE ≠ rb := Nat.ne_of_lt (Nat.lt_of_lt_of_le E_a_TRUE.lt gzb)
    have ne_x_TRUE_rb : x_TRUE ≠ rb := Nat.ne_of_lt (Nat.lt_of_lt_of_le E_x_TRUE.lt gzb)
    have ne_a_FALSE_rb : a_FALSE ≠ rb := Nat.ne_of_lt (Nat.lt_of_lt_of_le E_a_FALSE.lt gzb)
    have ne_x_FALSE_rb : x_FALSE ≠ rb := Nat.ne_of_lt (Nat.lt_of_lt_of_le E_x_FALSE.lt gzb)
    have ne_ls_rb : ls ≠ rb := Nat.ne_of_lt (Nat.lt_of_lt_of_le E_ls.lt gzb)
    have ne_t_TRUE_rb : t_TRUE ≠ rb := Nat.ne_of_lt (Nat.lt_of_lt_of_le A_t_TRUE.lt gzb)
    have ne_t_FALSE_rb : t_FALSE ≠ rb := Nat.ne_of_lt (Nat.lt_of_lt_of_le A_t_FALSE.lt gzb)
    have ne_lb_rb : lb ≠ rb := Nat.ne_of_lt (Nat.lt_of_lt_of_le A_lb.lt gzb)
    have O_ := O_.keep K all0
    have E_a_TRUE := E_a_TRUE.keep K
    have F_a_TRUE_kind := F_a_TRUE_kind.keep K nin0
    have F_a_TRUE_text := F_a_TRUE_text.keep K nin0
    have E_x_TRUE := E_x_TRUE.keep K
    have F_x_TRUE_value := F_x_TRUE_value.keep K nin0
    have F_x_TRUE_coder := F_x_TRUE_coder.keep K nin0
    have A_t_TRUE := PArr.keep A_t_TRUE K nin0
    have E_a_FALSE := E_a_FALSE.keep K
    have F_a_FALSE_kind := F_a_FALSE_kind.keep K nin0
    have F_a_FALSE_text := F_a_FALSE_text.keep K nin0
    have E_x_FALSE := E_x_FALSE.keep K
    have F_x_FALSE_value := F_x_FALSE_value.keep K nin0
    have F_x_FALSE_coder := F_x_FALSE_coder.keep K nin0
    have A_t_FALSE := PArr.keep A_t_FALSE K nin0
    have E_ls := E_ls.keep K
    have F_ls_value := F_ls_value.keep K nin0
    have F_ls_coder := F_ls_coder.keep K nin0
    have A_lb := PArr.keep A_lb K nin0
    show Goes _ _ _ _ _ _ _ _ _ T (mkF m 105 #[.val (.int p0), .val (.int (1 : Int32)), .val (.ref a_TRUE), .val (.int (1 : Int32)), .val (.int (1 : Int32)), .val (.ref ls), .unset] [(.ref rr), (.ref ls)])
    have X_o := X
    refine X.callV E_ls (hw _ (List.mem_of_getElem? (i := 194) rfl)) (hw _ (List.mem_of_getElem? (i := 195) rfl)) (hw _ (List.mem_of_getElem? (i := 197) rfl)) (hw _ (List.mem_of_getElem? (i := 110) rfl)) rfl (hw _ (List.mem_of_getElem? (i := 196) rfl)) (hw _ (List.mem_of_getElem? (i := 59) rfl)) (hw _ (List.mem_of_getElem? (i := 198) rfl)) (by decide) pd_396412080 (argsL := [(.ref rr)]) rfl (rmEq4 l Z a0 hw n0 h96 X.n0le ls lb E_ls F_ls_value F_ls_coder A_lb rr rb E_rr F_rr_value F_rr_coder A_rb ne_ls_rr zc hzc S_C O_) (by rw [hml]; rfl) rfl (by decide) (leB rfl) (hb hby at_105) (by decide) (by decide) (fun T h97 v X hQ => ?_)
    obtain ⟨rfl, hh⟩ := hQ
    rw [hh] at X
    clear hh
    show Goes _ _ _ _ _ _ _ _ _ T (mkF m 108 #[.val (.int p0), .val (.int (1 : Int32)), .val (.ref a_TRUE), .val (.int (1 : Int32)), .val (.int (1 : Int32)), .val (.ref ls), .unset] [(.int (1 : Int32))])
    refine Goes.by (g' := (mkF m 110 #[.val (.int p0), .val (.int (1 : Int32)), .val (.ref a_TRUE), .val (.int (1 : Int32)), .val (.int (1 : Int32)), .val (.ref ls), .val (.int (1 : Int32))] [])) (fun _ q => XS.istore X.here X.hx rfl (hb hby at_108) rfl (l' := #[.val (.int p0), .val (.int (1 : Int32)), .val (.ref a_TRUE), .val (.int (1 : Int32)), .val (.int (1 : Int32)), .val (.ref ls), .val (.int (1 : Int32))]) rfl q) ?_
    refine Goes.by (g' := (mkF m 111 #[.val (.int p0), .val (.int (1 : Int32)), .val (.ref a_TRUE), .val (.int (1 : Int32)), .val (.int (1 : Int32)), .val (.ref ls), .val (.int (1 : Int32))] [(.int (1 : Int32))])) (fun _ q => XS.iloadN X.here X.hx rfl (hb hby at_110) rfl q) ?_
    refine Goes.by (g' := (mkF m 114 #[.val (.int p0), .val (.int (1 : Int32)), .val (.ref a_TRUE), .val (.int (1 : Int32)), .val (.int (1 : Int32)), .val (.ref ls), .val (.int (1 : Int32))] [])) (fun _ q => XS.ifNo X.here X.hx rfl (hb hby at_111) rfl ((if0 _ _).trans (feq (show ¬ (1 : Int32) = (0 : Int32) from (by decide))).1) q) ?_
    refine Goes.by (g' := (mkF m 116 #[.val (.int p0), .val (.int (1 : Int32)), .val (.ref a_TRUE), .val (.int (1 : Int32)), .val (.int (1 : Int32)), .val (.ref ls), .val (.int (1 : Int32))] [(.int (1 : Int32))])) (fun _ q => XS.iload X.here X.hx rfl (hb hby at_114) rfl q) ?_
    refine Goes.by (g' := (mkF m 119 #[.val (.int p0), .val (.int (1 : Int32)), .val (.ref a_TRUE), .val (.int (1 : Int32)), .val (.int (1 : Int32)), .val (.ref ls), .val (.int (1 : Int32))] [])) (fun _ q => XS.ifNo X.here X.hx rfl (hb hby at_116) rfl ((if0 _ _).trans (feq (show ¬ (1 : Int32) = (0 : Int32) from (by decide))).1) q) ?_
    refine Goes.by (g' := (mkF m 121 #[.val (.int p0), .val (.int (1 : Int32)), .val (.ref a_TRUE), .val (.int (1 : Int32)), .val (.int (1 : Int32)), .val (.ref ls), .val (.int (1 : Int32))] [(.int (1 : Int32))])) (fun _ q => XS.iload X.here X.hx rfl (hb hby at_119) rfl q) ?_
    refine Goes.by (g' := (mkF m 124 #[.val (.int p0), .val (.int (1 : Int32)), .val (.ref a_TRUE), .val (.int (1 : Int32)), .val (.int (1 : Int32)), .val (.ref ls), .val (.int (1 : Int32))] [])) (fun _ q => XS.ifNo X.here X.hx rfl (hb hby at_121) rfl ((if0 _ _).trans (feq (show ¬ (1 : Int32) = (0 : Int32) from (by decide))).1) q) ?_
    refine Goes.by (g' := (mkF m 125 #[.val (.int p0), .val (.int (1 : Int32)), .val (.ref a_TRUE), .val (.int (1 : Int32)), .val (.int (1 : Int32)), .val (.ref ls), .val (.int (1 : Int32))] [(.int (1 : Int32))])) (fun _ q => XS.iconst X.here X.hx rfl (hb hby at_124) q) ?_
    refine Goes.by (g' := (mkF m 129 #[.val (.int p0), .val (.int (1 : Int32)), .val (.ref a_TRUE), .val (.int (1 : Int32)), .val (.int (1 : Int32)), .val (.ref ls), .val (.int (1 : Int32))] [(.int (1 : Int32))])) (fun _ q => XS.goto X.here X.hx rfl (pc0 := 125) (pc' := 129) rfl (hb hby at_125) (by decide) (by decide) q) ?_
    exact X.retZ hret (hb hby at_129) (by decide) (by decide) rfl
set_option maxRecDepth 65536 in
set_option maxHeartbeats 40000000 in
theorem comes_1 {Post : Tables → Env → Array Value → State → Outcome → State → Prop} (hpost : ∀ tb e args s v u, (limb_1_1.after args s (.returned v) u = true ∧ limb_1_2.after args s (.returned v) u = true ∧ True) → EndF true s (.returned v) u (Jvm.fieldLocs frame_1_writes args s ++ Jvm.arrayLocs frame_1_arrays args s ++ Jvm.staticLocs frame_1_statics s) 24 2240 → Post tb e args s (.returned v) u) :
    ArmFor flags0 classFile x code maxLocals ret World_1 tables_1 room_1 Calls_1 rest_1 Pre_1 Post := by
  intro l hfl _ _ p e ha hc hk s m args below hf hA hF happ hP
  obtain ⟨hcalls, hrest, hpre⟩ := hP
  obtain ⟨-, -, -, hnamed, -, -, -, hat⟩ := (Spec.applies_iff hf).mp happ
  obtain ⟨hg, hn⟩ := and_e (Cond.before_iff.mp (show (Jvm.Cond.and given_1 narrow_1).before args s = true from hpre))
  obtain ⟨hcount, hg⟩ := and_e hg
  obtain ⟨w0, rfl⟩ : ∃ w0 : Value, args = #[w0] := by
    have hs : args.size = 1 := by simpa [Cond.value, given_1] using hcount
    obtain ⟨L⟩ := args
    match L, hs with
    | [w0], _ => exact ⟨w0, rfl⟩
  have hg0 := hg
  obtain ⟨p0, ep0⟩ := is_v hg0
  obtain rfl : w0 = (.int p0) := Option.some.inj ep0
  have hw := fun d (hd : d ∈ tables_1) => atoms_spec (ws := Jvm.Cond.code x code maxLocals ret :: tables_1) hat d (List.mem_cons_of_mem _ hd)
  have hfit : Fit s := fun {y c} hc i hi => by
    obtain ⟨ha, rfl⟩ := Array.getElem?_eq_some_iff.mp hc
    have q := List.all_eq_true.mp ((Array.all_eq_true_iff_forall_mem.mp hF) _ (Array.getElem_mem ha)) i (List.mem_range.mpr hi)
    simpa [Array.getElem?_eq_getElem hi] using q
  obtain ⟨hsets, hown0⟩ := atoms_of _ (rest_1_c_eq ▸ (show rest_1_c.before _ s = true from hrest))
  have hr0 := Cond.before_iff.mp hown0
  have hw : ∀ d ∈ allW, d.before _ s = true := fun d hd => (List.mem_append.mp hd).elim (hw d) (hsets d)
  obtain ⟨c0, hn⟩ := and_e hn
  obtain ⟨c1, hn⟩ := and_e hn
  obtain ⟨c2, hn⟩ := and_e hn
  obtain ⟨c3, hn⟩ := and_e hn
  obtain ⟨c4, hn⟩ := and_e hn
  obtain ⟨c5, hn⟩ := and_e hn
  obtain ⟨c6, hn⟩ := and_e hn
  obtain ⟨c7, hn⟩ := and_e hn
  obtain ⟨c8, hn⟩ := and_e hn
  obtain ⟨c9, hn⟩ := and_e hn
  obtain ⟨c10, hn⟩ := and_e hn
  obtain ⟨c11, hn⟩ := and_e hn
  obtain ⟨c12, hn⟩ := and_e hn
  obtain ⟨c13, hn⟩ := and_e hn
  obtain ⟨c14, hn⟩ := and_e hn
  obtain ⟨c15, hn⟩ := and_e hn
  obtain ⟨c16, hn⟩ := and_e hn
  obtain ⟨c17, hn⟩ := and_e hn
  obtain ⟨c18, hn⟩ := and_e hn
  obtain ⟨c19, hn⟩ := and_e hn
  obtain ⟨c20, hn⟩ := and_e hn
  obtain ⟨c21, hn⟩ := and_e hn
  obtain ⟨c22, hn⟩ := and_e hn
  obtain ⟨c23, hn⟩ := and_e hn
  obtain ⟨c24, hn⟩ := and_e hn
  obtain ⟨c25, hn⟩ := and_e hn
  obtain ⟨c26, hn⟩ := and_e hn
  obtain ⟨c27, hn⟩ := and_e hn
  obtain ⟨c28, hn⟩ := and_e hn
  obtain ⟨c29, hn⟩ := and_e hn
  obtain ⟨c30, hn⟩ := and_e hn
  obtain ⟨c31, hn⟩ := and_e hn
  obtain ⟨c32, hn⟩ := and_e hn
  obtain ⟨c33, hn⟩ := and_e hn
  obtain ⟨c34, hn⟩ := and_e hn
  have c35 := hn
  obtain ⟨a_FALSE, e_FALSE⟩ := exa_v c0
  have E_FALSE := Exa.start e_FALSE c0
  have S_FALSE : Sta s s.heap "com/example/riskweave/riskweave/scenario/JsonValue" "FALSE" "Lcom/example/riskweave/riskweave/scenario/JsonValue;" (.ref a_FALSE) := Sta.start e_FALSE (Or.inr ⟨(hw _ (List.mem_of_getElem? (i := 2) rfl)), (hw _ (List.mem_of_getElem? (i := 5) rfl))⟩)
  obtain ⟨a_BOOLEAN, e_BOOLEAN⟩ := exa_v c1
  have E_BOOLEAN := Exa.start e_BOOLEAN c1
  have S_BOOLEAN : Sta s s.heap "com/example/riskweave/riskweave/scenario/JsonValue$Kind" "BOOLEAN" "Lcom/example/riskweave/riskweave/scenario/JsonValue$Kind;" (.ref a_BOOLEAN) := Sta.start e_BOOLEAN (Or.inr ⟨(hw _ (List.mem_of_getElem? (i := 13) rfl)), (hw _ (List.mem_of_getElem? (i := 14) rfl))⟩)
  obtain ⟨a_NULL, e_NULL⟩ := exa_v c3
  have E_NULL := Exa.start e_NULL c3
  have S_NULL : Sta s s.heap "com/example/riskweave/riskweave/scenario/JsonValue$Kind" "NULL" "Lcom/example/riskweave/riskweave/scenario/JsonValue$Kind;" (.ref a_NULL) := Sta.start e_NULL (Or.inr ⟨(hw _ (List.mem_of_getElem? (i := 13) rfl)), (hw _ (List.mem_of_getElem? (i := 22) rfl))⟩)
  obtain ⟨a_OBJECT, e_OBJECT⟩ := exa_v c6
  have E_OBJECT := Exa.start e_OBJECT c6
  have S_OBJECT : Sta s s.heap "com/example/riskweave/riskweave/scenario/JsonValue$Kind" "OBJECT" "Lcom/example/riskweave/riskweave/scenario/JsonValue$Kind;" (.ref a_OBJECT) := Sta.start e_OBJECT (Or.inr ⟨(hw _ (List.mem_of_getElem? (i := 13) rfl)), (hw _ (List.mem_of_getElem? (i := 29) rfl))⟩)
  obtain ⟨a_ARRAY, e_ARRAY⟩ := exa_v c8
  have E_ARRAY := Exa.start e_ARRAY c8
  have S_ARRAY : Sta s s.heap "com/example/riskweave/riskweave/scenario/JsonValue$Kind" "ARRAY" "Lcom/example/riskweave/riskweave/scenario/JsonValue$Kind;" (.ref a_ARRAY) := Sta.start e_ARRAY (Or.inr ⟨(hw _ (List.mem_of_getElem? (i := 13) rfl)), (hw _ (List.mem_of_getElem? (i := 36) rfl))⟩)
  obtain ⟨a_STRING, e_STRING⟩ := exa_v c10
  have E_STRING := Exa.start e_STRING c10
  have S_STRING : Sta s s.heap "com/example/riskweave/riskweave/scenario/JsonValue$Kind" "STRING" "Lcom/example/riskweave/riskweave/scenario/JsonValue$Kind;" (.ref a_STRING) := Sta.start e_STRING (Or.inr ⟨(hw _ (List.mem_of_getElem? (i := 13) rfl)), (hw _ (List.mem_of_getElem? (i := 43) rfl))⟩)
  obtain ⟨a_NUMBER, e_NUMBER⟩ := exa_v c12
  have E_NUMBER := Exa.start e_NUMBER c12
  have S_NUMBER : Sta s s.heap "com/example/riskweave/riskweave/scenario/JsonValue$Kind" "NUMBER" "Lcom/example/riskweave/riskweave/scenario/JsonValue$Kind;" (.ref a_NUMBER) := Sta.start e_NUMBER (Or.inr ⟨(hw _ (List.mem_of_getElem? (i := 13) rfl)), (hw _ (List.mem_of_getElem? (i := 50) rfl))⟩)
  obtain ⟨a_TRUE, e_TRUE⟩ := exa_v c14
  have E_TRUE := Exa.start e_TRUE c14
  have S_TRUE : Sta s s.heap "com/example/riskweave/riskweave/scenario/JsonValue" "TRUE" "Lcom/example/riskweave/riskweave/scenario/JsonValue;" (.ref a_TRUE) := Sta.start e_TRUE (Or.inr ⟨(hw _ (List.mem_of_getElem? (i := 2) rfl)), (hw _ (List.mem_of_getElem? (i := 57) rfl))⟩)
  have F_FALSE_kind := fldEqS e_FALSE e_BOOLEAN c2
  have F_BOOLEAN_ordinal := fldEq e_BOOLEAN c4
  have F_NULL_ordinal := fldEq e_NULL c5
  have F_OBJECT_ordinal := fldEq e_OBJECT c7
  have F_ARRAY_ordinal := fldEq e_ARRAY c9
  have F_STRING_ordinal := fldEq e_STRING c11
  have F_NUMBER_ordinal := fldEq e_NUMBER c13
  have F_TRUE_kind := fldEqS e_TRUE e_BOOLEAN c21
  obtain ⟨x_TRUE, ex_TRUE, F_TRUE_text, Ex_TRUE⟩ := exaF e_TRUE c22
  obtain ⟨t_TRUE, et_TRUE, Fx_TRUE_value, Et_TRUE⟩ := exaF ex_TRUE c24
  have Fx_TRUE_coder := fldEq ex_TRUE c26
  have At_TRUE := cell0 et_TRUE c23 (N := 4) (by decide) c25 [116, 114, 117, 101] (fun i hi => by
    match i, hi with
    | 0, _ => exact c27
    | 1, _ => exact c28
    | 2, _ => exact c29
    | 3, _ => exact c30)
  obtain ⟨x_FALSE, ex_FALSE, F_FALSE_text, Ex_FALSE⟩ := exaF e_FALSE c16
  obtain ⟨t_FALSE, et_FALSE, Fx_FALSE_value, Et_FALSE⟩ := exaF ex_FALSE c18
  have Fx_FALSE_coder := fldEq ex_FALSE c20
  have At_FALSE := cell0 et_FALSE c17 (N := 5) (by decide) c19 [102, 97, 108, 115, 101] (fun i hi => by
    match i, hi with
    | 0, _ => exact c31
    | 1, _ => exact c32
    | 2, _ => exact c33
    | 3, _ => exact c34
    | 4, _ => exact c35)
  have n_NULL : a_BOOLEAN ≠ a_NULL := Fld.ne F_BOOLEAN_ordinal F_NULL_ordinal (by decide)
  have n_OBJECT : a_BOOLEAN ≠ a_OBJECT := Fld.ne F_BOOLEAN_ordinal F_OBJECT_ordinal (by decide)
  have n_ARRAY : a_BOOLEAN ≠ a_ARRAY := Fld.ne F_BOOLEAN_ordinal F_ARRAY_ordinal (by decide)
  have n_STRING : a_BOOLEAN ≠ a_STRING := Fld.ne F_BOOLEAN_ordinal F_STRING_ordinal (by decide)
  have n_NUMBER : a_BOOLEAN ≠ a_NUMBER := Fld.ne F_BOOLEAN_ordinal F_NUMBER_ordinal (by decide)
  have n_TRUE : a_FALSE ≠ a_TRUE := fun q => gotF (eq_R e_FALSE e_TRUE rfl rfl) (not_v c15) (congrArg Value.ref q)
  obtain ⟨zc, ezc⟩ := is_v (Cond.before_iff.mp (hw _ (List.mem_of_getElem? (i := 206) rfl)))
  have hcw : Jvm.Lit.compactW.before _ s = true := (hw _ (List.mem_of_getElem? (i := 207) rfl))
  have hzc : ¬ zc = 0 := gotF (Cond.eq_ints ezc (Term.int_eval 0)) (not_v (Cond.before_iff.mp hcw))
  have S_C : Sta s s.heap "java/lang/String" "COMPACT_STRINGS" "Z" (.int zc) := Sta.start ezc (Or.inl (hw _ (List.mem_of_getElem? (i := 205) rfl)))
  have hh35 : Jvm.Lit.constHeld s "com/example/riskweave/riskweave/scenario/JsonValueBoolPinLaw" 35 := hcalls.1 _ (List.mem_of_getElem? (i := 0) rfl)
  have hh37 : Jvm.Lit.constHeld s "com/example/riskweave/riskweave/scenario/JsonValueBoolPinLaw" 37 := hcalls.1 _ (List.mem_of_getElem? (i := 1) rfl)
  obtain ⟨n, o, h1, h2, h3, _, L, rfl, ⟨N, rfl⟩, hq⟩ := rm0 l s _ hw s.heap.size s.heap (Nat.le_refl _) tables_1 p0 a_TRUE S_TRUE a_FALSE S_FALSE a_BOOLEAN S_BOOLEAN a_NULL S_NULL a_OBJECT S_OBJECT a_ARRAY S_ARRAY a_STRING S_STRING a_NUMBER S_NUMBER n_NULL n_OBJECT n_ARRAY n_STRING n_NUMBER n_TRUE x_TRUE t_TRUE E_TRUE F_TRUE_kind F_TRUE_text Ex_TRUE Fx_TRUE_value Fx_TRUE_coder At_TRUE x_FALSE t_FALSE E_FALSE F_FALSE_kind F_FALSE_text Ex_FALSE Fx_FALSE_value Fx_FALSE_coder At_FALSE zc hzc S_C (Old.start s) hcw hh35 hh37 rfl p e ha hc hk s m _ below hf ((Spec.applies_iff_loose hf).mp happ).1 ⟨rfl, State.Warmed39.refl s, rfl, rfl⟩ trivial
  refine ⟨n, _, h1, h2, h3, hpost _ _ _ _ _ _ ⟨Cond.after_iff.mpr rfl, Cond.after_iff.mpr (eq_i res_at (Term.int_eval (1)) rfl), trivial⟩ ⟨hq.1, hq.2.1, hq.2.2.1, (hq.2.2.2.sift fun y hy => Or.inr (N y hy)).mono (by decide) (by decide)⟩⟩
theorem main_1_1 : Claimed_1_1 := comes_1 fun _ _ _ _ _ _ h hF => ⟨h.1, hF⟩
theorem main_1_2 : Claimed_1_2 := comes_1 fun _ _ _ _ _ _ h hF => ⟨h.2.1, hF⟩
end Jvm.Pilot.@@N@@
namespace Jvm.Pilot.@@N@@
open Jvm Jvm.ClassFile Sem Op Lib Jvm.Free Jvm.Stand Jvm.Pilot.@@N@@.Jvm.D
/-! MADE BY PROGRAM (witnessworld.py) out of the Statement's table words and the real class files: 25 classes; the members and pool entries that the words name. The judged class is class 1, her method 1. -/
namespace start1
open Jvm.ClassFile
def u (s : String) : CpInfo := .utf8 (stringToUtf16 s)
/-- a pool by its gaps: so many unusable entries, then the entry; so many at the end -/
def gap : Nat → List CpInfo → List CpInfo
  | 0, r => r
  | n + 1, r => .unusable :: gap n r
def poolList (es : List (Nat × CpInfo)) (last : Nat) : List CpInfo := es.foldr (fun e r => gap e.1 (e.2 :: r)) (gap last [])
def pool (es : List (Nat × CpInfo)) (last : Nat) : Array CpInfo := ⟨poolList es last⟩
def fileOf (pool : Array CpInfo) (this : Nat) (attrs : Array Attribute := #[]) (ms : Array MethodInfo := #[]) (fl : Nat := 33) (sup : Nat := 0) (ifs : Array Nat := #[]) (fds : Array FieldInfo := #[]) : ClassFile where
  minorVersion := 0
  majorVersion := 65
  constantPool := pool
  accessFlags := fl
  thisClass := this
  superClass := sup
  interfaces := ifs
  fields := fds
  methods := ms
  attributes := attrs
def plain (name : String) (sup : Option ClassId) : Class where
  name := name
  kind := .ordinary
  loader := none
  accessFlags := 33
  super := sup
  interfaces := #[]
  cf := none
  fields := #[]
  methods := #[]
  instanceTypes := #[]
  staticTypes := #[]
  resolved := #[]
  callSites := []
  init := .initialized
  statics := none
  mirror := none

def pool0 : Array CpInfo := pool [(5, u "<init>"), (0, u "()V"), (1, .class_ 10), (1, u "java/lang/Object")] 113

def k0c0 : Code := { maxStack := 0, maxLocals := 1, code := object_method_1_code, exceptionTable := #[], attributes := #[] }
def k0m0 : Method := { name := "<init>", desc := "()V", sig := { parameters := [], returnType := none }, accessFlags := 1, code := some k0c0 }
/-- java/lang/Object -/
def k0 : Class := { plain "java/lang/Object" none with
  accessFlags := 33
  interfaces := #[]
  cf := some (fileOf pool0 8 #[] #[{ accessFlags := 1, nameIndex := 5, descriptorIndex := 6, attributes := #[] }] 33 0 #[] #[])
  fields := #[]
  methods := #[k0m0]
  instanceTypes := #[]
  staticTypes := #[]
  resolved := Array.replicate 124 none
  statics := none }

def pool1 : Array CpInfo := pool [(2, .class_ 4), (1, u "java/lang/Object"), (0, u "<init>"), (0, u "()V"), (0, .methodref 8 9), (0, .class_ 10), (0, .nameAndType 11 12), (0, u "com/example/riskweave/riskweave/scenario/JsonValue"), (0, u "bool"), (0, u "(Z)Lcom/example/riskweave/riskweave/scenario/JsonValue;"), (0, .methodref 8 14), (0, .nameAndType 15 16), (0, u "isBoolean"), (0, u "()Z"), (0, .methodref 8 18), (0, .nameAndType 19 16), (0, u "isNull"), (0, .methodref 8 21), (0, .nameAndType 22 16), (0, u "isObject"), (0, .methodref 8 24), (0, .nameAndType 25 16), (0, u "isArray"), (0, .methodref 8 27), (0, .nameAndType 28 16), (0, u "isText"), (0, .methodref 8 30), (0, .nameAndType 31 16), (0, u "isNumber"), (0, .methodref 8 33), (0, .nameAndType 34 16), (0, u "isTrue"), (0, .string 36), (0, u "true"), (0, .string 38), (0, u "false"), (0, .methodref 8 40), (0, .nameAndType 41 42), (0, u "toString"), (0, u "()Ljava/lang/String;"), (0, .methodref 44 45), (0, .class_ 46), (0, .nameAndType 47 48), (0, u "java/lang/String"), (0, u "equals"), (0, u "(Ljava/lang/Object;)Z"), (0, .class_ 50), (0, u "com/example/riskweave/riskweave/scenario/JsonValueBoolPinLaw"), (2, u "law"), (0, u "(I)Z")] 3

def k1m0 : Method := { name := "<init>", desc := "()V", sig := { parameters := [], returnType := none }, accessFlags := 2, code := none }
def k1c1 : Code := { maxStack := 2, maxLocals := 7, code := code, exceptionTable := #[], attributes := #[] }
def k1m1 : Method := { name := "law", desc := "(I)Z", sig := { parameters := [.int], returnType := some .boolean }, accessFlags := 9, code := some k1c1 }
/-- com/example/riskweave/riskweave/scenario/JsonValueBoolPinLaw -/
def k1 : Class := { plain "com/example/riskweave/riskweave/scenario/JsonValueBoolPinLaw" (some 0) with
  accessFlags := 49
  interfaces := #[]
  cf := some (fileOf pool1 49 #[] #[{ accessFlags := 2, nameIndex := 5, descriptorIndex := 6, attributes := #[] }, { accessFlags := 9, nameIndex := 53, descriptorIndex := 54, attributes := #[] }] 49 2 #[] #[])
  fields := #[]
  methods := #[k1m0, k1m1]
  instanceTypes := #[]
  staticTypes := #[]
  resolved := Array.replicate 58 none
  statics := none }

def pool2 : Array CpInfo := pool [(2, .class_ 4), (0, .nameAndType 5 6), (0, u "java/lang/Object"), (0, u "<init>"), (0, u "()V"), (0, .fieldref 8 9), (0, .class_ 10), (0, .nameAndType 11 12), (0, u "com/example/riskweave/riskweave/scenario/JsonValue"), (0, u "kind"), (0, u "Lcom/example/riskweave/riskweave/scenario/JsonValue$Kind;"), (0, .fieldref 8 14), (0, .nameAndType 15 16), (0, u "text"), (0, u "Ljava/lang/String;"), (2, u "members"), (0, u "Ljava/util/Map;"), (2, u "items"), (0, u "Ljava/util/List;"), (2, u "number"), (0, u "D"), (2, u "whole"), (0, u "Z"), (0, .fieldref 34 35), (0, .class_ 36), (0, .nameAndType 37 12), (0, u "com/example/riskweave/riskweave/scenario/JsonValue$Kind"), (0, u "OBJECT"), (15, .fieldref 34 54), (0, .nameAndType 55 12), (0, u "ARRAY"), (9, .fieldref 34 66), (0, .nameAndType 67 12), (0, u "STRING"), (6, .fieldref 34 75), (0, .nameAndType 76 12), (0, u "NUMBER"), (6, .fieldref 8 84), (0, .nameAndType 85 86), (0, u "TRUE"), (0, u "Lcom/example/riskweave/riskweave/scenario/JsonValue;"), (0, .fieldref 8 88), (0, .nameAndType 89 86), (0, u "FALSE"), (2, u "NULL"), (0, .fieldref 34 94), (0, .nameAndType 95 12), (0, u "BOOLEAN"), (0, .fieldref 34 97), (0, .nameAndType 92 12), (6, u "isNull"), (0, u "()Z"), (9, .class_ 116), (0, u "java/lang/StringBuilder"), (0, .methodref 115 3), (0, .methodref 8 119), (0, .nameAndType 120 121), (0, u "write"), (0, u "(Ljava/lang/StringBuilder;)V"), (0, .methodref 115 123), (0, .nameAndType 124 125), (0, u "toString"), (0, u "()Ljava/lang/String;"), (2, u "append"), (24, .methodref 115 154), (0, .nameAndType 128 155), (0, u "(Ljava/lang/String;)Ljava/lang/StringBuilder;"), (52, u "bool"), (0, u "(Z)Lcom/example/riskweave/riskweave/scenario/JsonValue;"), (2, u "isObject"), (0, u "isArray"), (0, u "isText"), (0, u "isNumber"), (0, u "isBoolean"), (6, u "isTrue")] 7

def k2c0 : Code := { maxStack := 1, maxLocals := 1, code := prog_74_method_6_code, exceptionTable := #[], attributes := #[] }
def k2m0 : Method := { name := "bool", desc := "(Z)Lcom/example/riskweave/riskweave/scenario/JsonValue;", sig := { parameters := [.boolean], returnType := some (.object "com/example/riskweave/riskweave/scenario/JsonValue") }, accessFlags := 8, code := some k2c0 }
def k2c1 : Code := { maxStack := 2, maxLocals := 1, code := prog_74_method_8_code, exceptionTable := #[], attributes := #[] }
def k2m1 : Method := { name := "isObject", desc := "()Z", sig := { parameters := [], returnType := some .boolean }, accessFlags := 1, code := some k2c1 }
def k2c2 : Code := { maxStack := 2, maxLocals := 1, code := prog_74_method_9_code, exceptionTable := #[], attributes := #[] }
def k2m2 : Method := { name := "isArray", desc := "()Z", sig := { parameters := [], returnType := some .boolean }, accessFlags := 1, code := some k2c2 }
def k2c3 : Code := { maxStack := 2, maxLocals := 1, code := prog_74_method_10_code, exceptionTable := #[], attributes := #[] }
def k2m3 : Method := { name := "isText", desc := "()Z", sig := { parameters := [], returnType := some .boolean }, accessFlags := 1, code := some k2c3 }
def k2c4 : Code := { maxStack := 2, maxLocals := 1, code := prog_74_method_11_code, exceptionTable := #[], attributes := #[] }
def k2m4 : Method := { name := "isNumber", desc := "()Z", sig := { parameters := [], returnType := some .boolean }, accessFlags := 1, code := some k2c4 }
def k2c5 : Code := { maxStack := 2, maxLocals := 1, code := prog_74_method_13_code, exceptionTable := #[], attributes := #[] }
def k2m5 : Method := { name := "isBoolean", desc := "()Z", sig := { parameters := [], returnType := some .boolean }, accessFlags := 1, code := some k2c5 }
def k2c6 : Code := { maxStack := 2, maxLocals := 1, code := prog_74_method_14_code, exceptionTable := #[], attributes := #[] }
def k2m6 : Method := { name := "isNull", desc := "()Z", sig := { parameters := [], returnType := some .boolean }, accessFlags := 1, code := some k2c6 }
def k2c7 : Code := { maxStack := 2, maxLocals := 1, code := prog_74_method_22_code, exceptionTable := #[], attributes := #[] }
def k2m7 : Method := { name := "isTrue", desc := "()Z", sig := { parameters := [], returnType := some .boolean }, accessFlags := 1, code := some k2c7 }
def k2c8 : Code := { maxStack := 2, maxLocals := 2, code := prog_74_method_23_code, exceptionTable := #[], attributes := #[] }
def k2m8 : Method := { name := "toString", desc := "()Ljava/lang/String;", sig := { parameters := [], returnType := some (.object "java/lang/String") }, accessFlags := 1, code := some k2c8 }
def k2c9 : Code := { maxStack := 2, maxLocals := 5, code := prog_74_method_24_code, exceptionTable := #[], attributes := #[] }
def k2m9 : Method := { name := "write", desc := "(Ljava/lang/StringBuilder;)V", sig := { parameters := [(.object "java/lang/StringBuilder")], returnType := none }, accessFlags := 2, code := some k2c9 }
/-- com/example/riskweave/riskweave/scenario/JsonValue -/
def k2 : Class := { plain "com/example/riskweave/riskweave/scenario/JsonValue" (some 0) with
  accessFlags := 49
  interfaces := #[]
  cf := some (fileOf pool2 8 #[.nestMembers #[34]] #[{ accessFlags := 8, nameIndex := 208, descriptorIndex := 209, attributes := #[] }, { accessFlags := 1, nameIndex := 212, descriptorIndex := 105, attributes := #[] }, { accessFlags := 1, nameIndex := 213, descriptorIndex := 105, attributes := #[] }, { accessFlags := 1, nameIndex := 214, descriptorIndex := 105, attributes := #[] }, { accessFlags := 1, nameIndex := 215, descriptorIndex := 105, attributes := #[] }, { accessFlags := 1, nameIndex := 216, descriptorIndex := 105, attributes := #[] }, { accessFlags := 1, nameIndex := 104, descriptorIndex := 105, attributes := #[] }, { accessFlags := 1, nameIndex := 223, descriptorIndex := 105, attributes := #[] }, { accessFlags := 1, nameIndex := 124, descriptorIndex := 125, attributes := #[] }, { accessFlags := 2, nameIndex := 120, descriptorIndex := 121, attributes := #[] }] 49 2 #[] #[{ accessFlags := 26, nameIndex := 85, descriptorIndex := 86, attributes := #[] }, { accessFlags := 26, nameIndex := 89, descriptorIndex := 86, attributes := #[] }, { accessFlags := 26, nameIndex := 92, descriptorIndex := 86, attributes := #[] }, { accessFlags := 18, nameIndex := 11, descriptorIndex := 12, attributes := #[] }, { accessFlags := 18, nameIndex := 15, descriptorIndex := 16, attributes := #[] }, { accessFlags := 18, nameIndex := 19, descriptorIndex := 20, attributes := #[] }, { accessFlags := 18, nameIndex := 23, descriptorIndex := 24, attributes := #[] }, { accessFlags := 18, nameIndex := 27, descriptorIndex := 28, attributes := #[] }, { accessFlags := 18, nameIndex := 31, descriptorIndex := 32, attributes := #[] }])
  fields := #[{ name := "TRUE", type := (.object "com/example/riskweave/riskweave/scenario/JsonValue"), accessFlags := 26, slot := 0, constantValue := 0 }, { name := "FALSE", type := (.object "com/example/riskweave/riskweave/scenario/JsonValue"), accessFlags := 26, slot := 1, constantValue := 0 }, { name := "NULL", type := (.object "com/example/riskweave/riskweave/scenario/JsonValue"), accessFlags := 26, slot := 2, constantValue := 0 }, { name := "kind", type := (.object "com/example/riskweave/riskweave/scenario/JsonValue$Kind"), accessFlags := 18, slot := 0, constantValue := 0 }, { name := "text", type := (.object "java/lang/String"), accessFlags := 18, slot := 1, constantValue := 0 }, { name := "members", type := (.object "java/util/Map"), accessFlags := 18, slot := 2, constantValue := 0 }, { name := "items", type := (.object "java/util/List"), accessFlags := 18, slot := 3, constantValue := 0 }, { name := "number", type := .double, accessFlags := 18, slot := 4, constantValue := 0 }, { name := "whole", type := .boolean, accessFlags := 18, slot := 5, constantValue := 0 }]
  methods := #[k2m0, k2m1, k2m2, k2m3, k2m4, k2m5, k2m6, k2m7, k2m8, k2m9]
  instanceTypes := #[(.object "com/example/riskweave/riskweave/scenario/JsonValue$Kind"), (.object "java/lang/String"), (.object "java/util/Map"), (.object "java/util/List"), .double, .boolean]
  staticTypes := #[(.object "com/example/riskweave/riskweave/scenario/JsonValue"), (.object "com/example/riskweave/riskweave/scenario/JsonValue"), (.object "com/example/riskweave/riskweave/scenario/JsonValue")]
  resolved := Array.replicate 231 none
  statics := some 0 }

def pool3 : Array CpInfo := pool [(1, .class_ 2), (0, u "java/lang/constant/Constable"), (0, .class_ 4), (0, u "java/lang/Object")] 6

/-- java/lang/constant/Constable -/
def k3 : Class := { plain "java/lang/constant/Constable" (some 0) with
  accessFlags := 1537
  interfaces := #[]
  cf := some (fileOf pool3 1 #[] #[] 1537 3 #[] #[])
  fields := #[]
  methods := #[]
  instanceTypes := #[]
  staticTypes := #[]
  resolved := Array.replicate 11 none
  statics := none }

def pool4 : Array CpInfo := pool [(1, .class_ 2), (0, u "java/lang/Comparable"), (0, .class_ 4), (0, u "java/lang/Object")] 7

/-- java/lang/Comparable -/
def k4 : Class := { plain "java/lang/Comparable" (some 0) with
  accessFlags := 1537
  interfaces := #[]
  cf := some (fileOf pool4 1 #[] #[] 1537 3 #[] #[])
  fields := #[]
  methods := #[]
  instanceTypes := #[]
  staticTypes := #[]
  resolved := Array.replicate 12 none
  statics := none }

def pool5 : Array CpInfo := pool [(1, .class_ 2), (0, u "java/io/Serializable"), (0, .class_ 4), (0, u "java/lang/Object")] 2

/-- java/io/Serializable -/
def k5 : Class := { plain "java/io/Serializable" (some 0) with
  accessFlags := 1537
  interfaces := #[]
  cf := some (fileOf pool5 1 #[] #[] 1537 3 #[] #[])
  fields := #[]
  methods := #[]
  instanceTypes := #[]
  staticTypes := #[]
  resolved := Array.replicate 7 none
  statics := none }

def pool6 : Array CpInfo := pool [(2, .class_ 4), (1, u "java/lang/Enum"), (0, u "name"), (0, u "Ljava/lang/String;"), (2, u "ordinal"), (0, u "I"), (1, .class_ 14), (1, u "java/lang/Object"), (4, u "hash"), (86, .class_ 108), (1, u "java/lang/Enum$EnumDesc"), (2, .class_ 112), (0, u "java/lang/constant/Constable"), (0, .class_ 114), (0, u "java/lang/Comparable"), (0, .class_ 116), (0, u "java/io/Serializable")] 87

/-- java/lang/Enum -/
def k6 : Class := { plain "java/lang/Enum" (some 0) with
  accessFlags := 1057
  interfaces := #[3, 4, 5]
  cf := some (fileOf pool6 2 #[.nestMembers #[106]] #[] 1057 12 #[111, 113, 115] #[{ accessFlags := 18, nameIndex := 5, descriptorIndex := 6, attributes := #[] }, { accessFlags := 18, nameIndex := 9, descriptorIndex := 10, attributes := #[] }, { accessFlags := 2, nameIndex := 19, descriptorIndex := 10, attributes := #[] }])
  fields := #[{ name := "name", type := (.object "java/lang/String"), accessFlags := 18, slot := 0, constantValue := 0 }, { name := "ordinal", type := .int, accessFlags := 18, slot := 1, constantValue := 0 }, { name := "hash", type := .int, accessFlags := 2, slot := 2, constantValue := 0 }]
  methods := #[]
  instanceTypes := #[(.object "java/lang/String"), .int, .int]
  staticTypes := #[]
  resolved := Array.replicate 204 none
  statics := none }

def pool7 : Array CpInfo := pool [(1, .class_ 2), (0, u "com/example/riskweave/riskweave/scenario/JsonValue$Kind"), (2, u "OBJECT"), (0, u "Lcom/example/riskweave/riskweave/scenario/JsonValue$Kind;"), (2, u "ARRAY"), (2, u "STRING"), (2, u "NUMBER"), (2, u "BOOLEAN"), (2, u "NULL"), (2, u "$VALUES"), (0, u "[Lcom/example/riskweave/riskweave/scenario/JsonValue$Kind;"), (6, .class_ 34), (1, u "java/lang/Enum"), (29, .class_ 65), (0, u "com/example/riskweave/riskweave/scenario/JsonValue")] 2

/-- com/example/riskweave/riskweave/scenario/JsonValue$Kind -/
def k7 : Class := { plain "com/example/riskweave/riskweave/scenario/JsonValue$Kind" (some 6) with
  accessFlags := 16432
  interfaces := #[]
  cf := some (fileOf pool7 1 #[.nestHost 64] #[] 16432 32 #[] #[{ accessFlags := 16409, nameIndex := 5, descriptorIndex := 6, attributes := #[] }, { accessFlags := 16409, nameIndex := 9, descriptorIndex := 6, attributes := #[] }, { accessFlags := 16409, nameIndex := 12, descriptorIndex := 6, attributes := #[] }, { accessFlags := 16409, nameIndex := 15, descriptorIndex := 6, attributes := #[] }, { accessFlags := 16409, nameIndex := 18, descriptorIndex := 6, attributes := #[] }, { accessFlags := 16409, nameIndex := 21, descriptorIndex := 6, attributes := #[] }, { accessFlags := 4122, nameIndex := 24, descriptorIndex := 25, attributes := #[] }])
  fields := #[{ name := "OBJECT", type := (.object "com/example/riskweave/riskweave/scenario/JsonValue$Kind"), accessFlags := 16409, slot := 0, constantValue := 0 }, { name := "ARRAY", type := (.object "com/example/riskweave/riskweave/scenario/JsonValue$Kind"), accessFlags := 16409, slot := 1, constantValue := 0 }, { name := "STRING", type := (.object "com/example/riskweave/riskweave/scenario/JsonValue$Kind"), accessFlags := 16409, slot := 2, constantValue := 0 }, { name := "NUMBER", type := (.object "com/example/riskweave/riskweave/scenario/JsonValue$Kind"), accessFlags := 16409, slot := 3, constantValue := 0 }, { name := "BOOLEAN", type := (.object "com/example/riskweave/riskweave/scenario/JsonValue$Kind"), accessFlags := 16409, slot := 4, constantValue := 0 }, { name := "NULL", type := (.object "com/example/riskweave/riskweave/scenario/JsonValue$Kind"), accessFlags := 16409, slot := 5, constantValue := 0 }, { name := "$VALUES", type := (.array (.object "com/example/riskweave/riskweave/scenario/JsonValue$Kind")), accessFlags := 4122, slot := 6, constantValue := 0 }]
  methods := #[]
  instanceTypes := #[(.object "java/lang/String"), .int, .int]
  staticTypes := #[(.object "com/example/riskweave/riskweave/scenario/JsonValue$Kind"), (.object "com/example/riskweave/riskweave/scenario/JsonValue$Kind"), (.object "com/example/riskweave/riskweave/scenario/JsonValue$Kind"), (.object "com/example/riskweave/riskweave/scenario/JsonValue$Kind"), (.object "com/example/riskweave/riskweave/scenario/JsonValue$Kind"), (.object "com/example/riskweave/riskweave/scenario/JsonValue$Kind"), (.array (.object "com/example/riskweave/riskweave/scenario/JsonValue$Kind"))]
  resolved := Array.replicate 68 none
  statics := some 1 }

def pool8 : Array CpInfo := pool [(2, .class_ 4), (1, u "java/lang/CharSequence"), (42, .class_ 48), (0, u "java/lang/CharSequence$1CodePointIterator"), (10, .class_ 60), (0, u "java/lang/CharSequence$1CharIterator"), (5, .class_ 67), (0, u "java/lang/Object")] 63

/-- java/lang/CharSequence -/
def k8 : Class := { plain "java/lang/CharSequence" (some 0) with
  accessFlags := 1537
  interfaces := #[]
  cf := some (fileOf pool8 2 #[.nestMembers #[47, 59]] #[] 1537 66 #[] #[])
  fields := #[]
  methods := #[]
  instanceTypes := #[]
  staticTypes := #[]
  resolved := Array.replicate 131 none
  statics := none }

def pool9 : Array CpInfo := pool [(1, .class_ 2), (0, u "java/lang/constant/ConstantDesc"), (0, .class_ 4), (0, u "java/lang/Object")] 32

/-- java/lang/constant/ConstantDesc -/
def k9 : Class := { plain "java/lang/constant/ConstantDesc" (some 0) with
  accessFlags := 1537
  interfaces := #[]
  cf := some (fileOf pool9 1 #[] #[] 1537 3 #[] #[])
  fields := #[]
  methods := #[]
  instanceTypes := #[]
  staticTypes := #[]
  resolved := Array.replicate 37 none
  statics := none }

def pool10 : Array CpInfo := pool [(1, .methodref 2 3), (0, .class_ 4), (0, .nameAndType 5 6), (0, u "java/lang/Object"), (0, u "<init>"), (0, u "()V"), (2, .fieldref 10 11), (0, .class_ 12), (0, .nameAndType 13 14), (0, u "java/lang/String"), (0, u "value"), (0, u "[B"), (0, .fieldref 10 16), (0, .nameAndType 17 18), (0, u "coder"), (0, u "B"), (2, u "hash"), (0, u "I"), (2, u "hashIsZero"), (0, u "Z"), (11, .fieldref 10 39), (0, .nameAndType 40 26), (0, u "COMPACT_STRINGS"), (13, .methodref 55 56), (0, .class_ 57), (0, .nameAndType 58 59), (0, u "java/util/Arrays"), (0, u "copyOfRange"), (0, u "([BII)[B"), (47, .class_ 109), (1, u "java/lang/StringLatin1"), (32, u "()Z"), (50, .class_ 195), (1, u "java/lang/System"), (16, .methodref 193 213), (0, .nameAndType 214 215), (0, u "arraycopy"), (0, u "(Ljava/lang/Object;ILjava/lang/Object;II)V"), (118, u "()I"), (0, .methodref 10 336), (0, .nameAndType 17 337), (0, u "()B"), (2, u "()[B"), (148, .methodref 10 490), (0, .nameAndType 5 491), (0, u "(Ljava/lang/AbstractStringBuilder;Ljava/lang/Void;)V"), (1, .nameAndType 494 142), (0, u "isLatin1"), (11, .nameAndType 507 334), (0, u "length"), (24, u "getBytes"), (8, .methodref 107 542), (0, .nameAndType 543 544), (0, u "equals"), (0, u "([B[B)Z"), (4, .methodref 550 506), (0, .class_ 551), (0, u "java/lang/AbstractStringBuilder"), (0, .methodref 550 553), (0, .nameAndType 554 340), (0, u "getValue"), (18, u "(Ljava/lang/Object;)Z"), (1, .class_ 576), (0, u "java/lang/CharSequence"), (22, u "CASE_INSENSITIVE_ORDER"), (0, u "Ljava/util/Comparator;"), (220, u "([BIB)V"), (225, .methodref 550 493), (53, u "serialPersistentFields"), (0, u "[Ljava/io/ObjectStreamField;"), (0, .class_ 1104), (0, u "java/lang/String$CaseInsensitiveComparator"), (1, .class_ 1107), (0, u "java/io/Serializable"), (0, .class_ 1109), (0, u "java/lang/Comparable"), (0, .class_ 1111), (0, u "java/lang/constant/Constable"), (0, .class_ 1113), (0, u "java/lang/constant/ConstantDesc"), (2, u "serialVersionUID"), (0, u "J"), (3, u "REPL"), (0, u "C"), (2, u "LATIN1"), (1, u "UTF16"), (105, u "(Ljava/lang/StringBuilder;)V")] 217

def k10m0 : Method := { name := "<init>", desc := "()V", sig := { parameters := [], returnType := none }, accessFlags := 1, code := none }
def k10c1 : Code := { maxStack := 3, maxLocals := 2, code := jdk_42_method_53_code, exceptionTable := #[], attributes := #[] }
def k10m1 : Method := { name := "<init>", desc := "(Ljava/lang/StringBuilder;)V", sig := { parameters := [(.object "java/lang/StringBuilder")], returnType := none }, accessFlags := 1, code := some k10c1 }
def k10c2 : Code := { maxStack := 2, maxLocals := 1, code := jdk_42_method_54_code, exceptionTable := #[], attributes := #[] }
def k10m2 : Method := { name := "length", desc := "()I", sig := { parameters := [], returnType := some .int }, accessFlags := 1, code := some k10c2 }
def k10c3 : Code := { maxStack := 2, maxLocals := 3, code := jdk_42_method_66_code, exceptionTable := #[], attributes := #[] }
def k10m3 : Method := { name := "equals", desc := "(Ljava/lang/Object;)Z", sig := { parameters := [(.object "java/lang/Object")], returnType := some .boolean }, accessFlags := 1, code := some k10c3 }
def k10c4 : Code := { maxStack := 5, maxLocals := 4, code := jdk_42_method_147_code, exceptionTable := #[], attributes := #[] }
def k10m4 : Method := { name := "getBytes", desc := "([BIB)V", sig := { parameters := [(.array .byte), .int, .byte], returnType := none }, accessFlags := 0, code := some k10c4 }
def k10c5 : Code := { maxStack := 5, maxLocals := 5, code := jdk_42_method_150_code, exceptionTable := #[], attributes := #[] }
def k10m5 : Method := { name := "<init>", desc := "(Ljava/lang/AbstractStringBuilder;Ljava/lang/Void;)V", sig := { parameters := [(.object "java/lang/AbstractStringBuilder"), (.object "java/lang/Void")], returnType := none }, accessFlags := 0, code := some k10c5 }
def k10c6 : Code := { maxStack := 1, maxLocals := 1, code := jdk_42_method_152_code, exceptionTable := #[], attributes := #[] }
def k10m6 : Method := { name := "coder", desc := "()B", sig := { parameters := [], returnType := some .byte }, accessFlags := 0, code := some k10c6 }
/-- java/lang/String -/
def k10 : Class := { plain "java/lang/String" (some 0) with
  accessFlags := 49
  interfaces := #[5, 4, 8, 3, 9]
  cf := some (fileOf pool10 10 #[.nestMembers #[1103]] #[{ accessFlags := 1, nameIndex := 5, descriptorIndex := 6, attributes := #[] }, { accessFlags := 1, nameIndex := 5, descriptorIndex := 1233, attributes := #[] }, { accessFlags := 1, nameIndex := 507, descriptorIndex := 334, attributes := #[] }, { accessFlags := 1, nameIndex := 543, descriptorIndex := 573, attributes := #[] }, { accessFlags := 0, nameIndex := 532, descriptorIndex := 821, attributes := #[] }, { accessFlags := 0, nameIndex := 5, descriptorIndex := 491, attributes := #[] }, { accessFlags := 0, nameIndex := 17, descriptorIndex := 337, attributes := #[] }] 49 2 #[1106, 1108, 575, 1110, 1112] #[{ accessFlags := 18, nameIndex := 13, descriptorIndex := 14, attributes := #[] }, { accessFlags := 18, nameIndex := 17, descriptorIndex := 18, attributes := #[] }, { accessFlags := 2, nameIndex := 21, descriptorIndex := 22, attributes := #[] }, { accessFlags := 2, nameIndex := 25, descriptorIndex := 26, attributes := #[] }, { accessFlags := 26, nameIndex := 1116, descriptorIndex := 1117, attributes := #[] }, { accessFlags := 24, nameIndex := 40, descriptorIndex := 26, attributes := #[] }, { accessFlags := 26, nameIndex := 1101, descriptorIndex := 1102, attributes := #[] }, { accessFlags := 26, nameIndex := 1121, descriptorIndex := 1122, attributes := #[] }, { accessFlags := 25, nameIndex := 599, descriptorIndex := 600, attributes := #[] }, { accessFlags := 24, nameIndex := 1125, descriptorIndex := 18, attributes := #[] }, { accessFlags := 24, nameIndex := 1127, descriptorIndex := 18, attributes := #[] }])
  fields := #[{ name := "value", type := (.array .byte), accessFlags := 18, slot := 0, constantValue := 0 }, { name := "coder", type := .byte, accessFlags := 18, slot := 1, constantValue := 0 }, { name := "hash", type := .int, accessFlags := 2, slot := 2, constantValue := 0 }, { name := "hashIsZero", type := .boolean, accessFlags := 2, slot := 3, constantValue := 0 }, { name := "serialVersionUID", type := .long, accessFlags := 26, slot := 0, constantValue := 0 }, { name := "COMPACT_STRINGS", type := .boolean, accessFlags := 24, slot := 1, constantValue := 0 }, { name := "serialPersistentFields", type := (.array (.object "java/io/ObjectStreamField")), accessFlags := 26, slot := 2, constantValue := 0 }, { name := "REPL", type := .char, accessFlags := 26, slot := 3, constantValue := 0 }, { name := "CASE_INSENSITIVE_ORDER", type := (.object "java/util/Comparator"), accessFlags := 25, slot := 4, constantValue := 0 }, { name := "LATIN1", type := .byte, accessFlags := 24, slot := 5, constantValue := 0 }, { name := "UTF16", type := .byte, accessFlags := 24, slot := 6, constantValue := 0 }]
  methods := #[k10m0, k10m1, k10m2, k10m3, k10m4, k10m5, k10m6]
  instanceTypes := #[(.array .byte), .byte, .int, .boolean]
  staticTypes := #[.long, .boolean, (.array (.object "java/io/ObjectStreamField")), .char, (.object "java/util/Comparator"), .byte, .byte]
  resolved := Array.replicate 1451 none
  statics := some 2 }

def pool11 : Array CpInfo := pool [(1, .class_ 2), (0, u "java/lang/Appendable"), (0, .class_ 4), (0, u "java/lang/Object")] 9

/-- java/lang/Appendable -/
def k11 : Class := { plain "java/lang/Appendable" (some 0) with
  accessFlags := 1537
  interfaces := #[]
  cf := some (fileOf pool11 1 #[] #[] 1537 3 #[] #[])
  fields := #[]
  methods := #[]
  instanceTypes := #[]
  staticTypes := #[]
  resolved := Array.replicate 14 none
  statics := none }

def pool12 : Array CpInfo := pool [(1, .class_ 2), (0, u "java/lang/String"), (0, .methodref 4 5), (0, .class_ 6), (0, .nameAndType 7 8), (0, u "java/lang/Object"), (0, u "<init>"), (0, u "()V"), (1, .class_ 12), (1, u "java/lang/AbstractStringBuilder"), (0, u "EMPTYVALUE"), (0, u "[B"), (0, .fieldref 10 16), (0, .nameAndType 17 14), (0, u "value"), (0, .fieldref 1 19), (0, .nameAndType 20 21), (0, u "COMPACT_STRINGS"), (0, u "Z"), (0, .fieldref 10 23), (0, .nameAndType 24 25), (0, u "coder"), (0, u "B"), (6, .methodref 1 33), (0, .nameAndType 34 35), (0, u "length"), (0, u "()I"), (4, .methodref 1 41), (0, .nameAndType 24 42), (0, u "()B"), (2, u "append"), (0, u "(Ljava/lang/String;)Ljava/lang/AbstractStringBuilder;"), (1, .class_ 49), (0, u "java/lang/CharSequence"), (19, u "(Ljava/lang/String;)V"), (5, u "maybeLatin1"), (3, .fieldref 10 80), (0, .nameAndType 81 82), (0, u "count"), (0, u "I"), (2, u "isLatin1"), (0, u "()Z"), (13, .methodref 10 101), (0, .nameAndType 102 103), (0, u "ensureCapacityInternal"), (0, u "(I)V"), (104, .methodref 10 209), (0, .nameAndType 210 211), (0, u "putStringAt"), (0, u "(ILjava/lang/String;)V"), (5, u "inflateIfNeededFor"), (2, .nameAndType 221 222), (0, u "getBytes"), (0, u "([BIB)V"), (174, .methodref 10 398), (0, .nameAndType 217 69), (0, .methodref 1 220), (3, u "()[B"), (40, .class_ 445), (0, u "java/lang/Appendable"), (106, u "getValue")] 56

def k12m0 : Method := { name := "<init>", desc := "()V", sig := { parameters := [], returnType := none }, accessFlags := 0, code := none }
def k12c1 : Code := { maxStack := 2, maxLocals := 2, code := jdk_68_method_2_code, exceptionTable := #[], attributes := #[] }
def k12m1 : Method := { name := "<init>", desc := "(I)V", sig := { parameters := [.int], returnType := none }, accessFlags := 0, code := some k12c1 }
def k12c2 : Code := { maxStack := 1, maxLocals := 1, code := jdk_68_method_6_code, exceptionTable := #[], attributes := #[] }
def k12m2 : Method := { name := "length", desc := "()I", sig := { parameters := [], returnType := some .int }, accessFlags := 1, code := some k12c2 }
def k12c3 : Code := { maxStack := 4, maxLocals := 3, code := jdk_68_method_9_code, exceptionTable := #[], attributes := #[] }
def k12m3 : Method := { name := "ensureCapacityInternal", desc := "(I)V", sig := { parameters := [.int], returnType := none }, accessFlags := 2, code := some k12c3 }
def k12c4 : Code := { maxStack := 3, maxLocals := 3, code := jdk_68_method_22_code, exceptionTable := #[], attributes := #[] }
def k12m4 : Method := { name := "append", desc := "(Ljava/lang/String;)Ljava/lang/AbstractStringBuilder;", sig := { parameters := [(.object "java/lang/String")], returnType := some (.object "java/lang/AbstractStringBuilder") }, accessFlags := 1, code := some k12c4 }
def k12c5 : Code := { maxStack := 1, maxLocals := 1, code := jdk_68_method_64_code, exceptionTable := #[], attributes := #[] }
def k12m5 : Method := { name := "getValue", desc := "()[B", sig := { parameters := [], returnType := some (.array .byte) }, accessFlags := 16, code := some k12c5 }
def k12c6 : Code := { maxStack := 1, maxLocals := 1, code := jdk_68_method_68_code, exceptionTable := #[], attributes := #[] }
def k12m6 : Method := { name := "isLatin1", desc := "()Z", sig := { parameters := [], returnType := some .boolean }, accessFlags := 16, code := some k12c6 }
def k12c7 : Code := { maxStack := 2, maxLocals := 2, code := jdk_68_method_71_code, exceptionTable := #[], attributes := #[] }
def k12m7 : Method := { name := "inflateIfNeededFor", desc := "(Ljava/lang/String;)V", sig := { parameters := [(.object "java/lang/String")], returnType := none }, accessFlags := 2, code := some k12c7 }
def k12c8 : Code := { maxStack := 4, maxLocals := 3, code := jdk_68_method_73_code, exceptionTable := #[], attributes := #[] }
def k12m8 : Method := { name := "putStringAt", desc := "(ILjava/lang/String;)V", sig := { parameters := [.int, (.object "java/lang/String")], returnType := none }, accessFlags := 2, code := some k12c8 }
/-- java/lang/AbstractStringBuilder -/
def k12 : Class := { plain "java/lang/AbstractStringBuilder" (some 0) with
  accessFlags := 1056
  interfaces := #[11, 8]
  cf := some (fileOf pool12 10 #[] #[{ accessFlags := 0, nameIndex := 7, descriptorIndex := 8, attributes := #[] }, { accessFlags := 0, nameIndex := 7, descriptorIndex := 103, attributes := #[] }, { accessFlags := 1, nameIndex := 34, descriptorIndex := 35, attributes := #[] }, { accessFlags := 2, nameIndex := 102, descriptorIndex := 103, attributes := #[] }, { accessFlags := 1, nameIndex := 45, descriptorIndex := 46, attributes := #[] }, { accessFlags := 16, nameIndex := 552, descriptorIndex := 403, attributes := #[] }, { accessFlags := 16, nameIndex := 85, descriptorIndex := 86, attributes := #[] }, { accessFlags := 2, nameIndex := 217, descriptorIndex := 69, attributes := #[] }, { accessFlags := 2, nameIndex := 210, descriptorIndex := 211, attributes := #[] }] 1056 4 #[444, 48] #[{ accessFlags := 0, nameIndex := 17, descriptorIndex := 14, attributes := #[] }, { accessFlags := 0, nameIndex := 24, descriptorIndex := 25, attributes := #[] }, { accessFlags := 0, nameIndex := 75, descriptorIndex := 21, attributes := #[] }, { accessFlags := 0, nameIndex := 81, descriptorIndex := 82, attributes := #[] }, { accessFlags := 26, nameIndex := 13, descriptorIndex := 14, attributes := #[] }])
  fields := #[{ name := "value", type := (.array .byte), accessFlags := 0, slot := 0, constantValue := 0 }, { name := "coder", type := .byte, accessFlags := 0, slot := 1, constantValue := 0 }, { name := "maybeLatin1", type := .boolean, accessFlags := 0, slot := 2, constantValue := 0 }, { name := "count", type := .int, accessFlags := 0, slot := 3, constantValue := 0 }, { name := "EMPTYVALUE", type := (.array .byte), accessFlags := 26, slot := 0, constantValue := 0 }]
  methods := #[k12m0, k12m1, k12m2, k12m3, k12m4, k12m5, k12m6, k12m7, k12m8]
  instanceTypes := #[(.array .byte), .byte, .boolean, .int]
  staticTypes := #[(.array .byte)]
  resolved := Array.replicate 609 none
  statics := none }

def pool13 : Array CpInfo := pool [(1, .methodref 2 3), (0, .class_ 4), (0, .nameAndType 5 6), (0, u "java/lang/AbstractStringBuilder"), (0, u "<init>"), (0, u "(I)V"), (11, .class_ 20), (1, u "java/lang/String"), (3, .class_ 26), (1, u "java/lang/StringBuilder"), (0, u "append"), (0, u "(Ljava/lang/String;)Ljava/lang/StringBuilder;"), (0, .methodref 2 30), (0, .nameAndType 27 31), (0, u "(Ljava/lang/String;)Ljava/lang/AbstractStringBuilder;"), (105, .methodref 18 138), (0, .nameAndType 5 139), (0, u "(Ljava/lang/StringBuilder;)V"), (5, u "()V"), (10, u "()I"), (186, .methodref 2 344), (0, .nameAndType 345 156), (0, u "length"), (3, .class_ 350), (0, u "java/lang/Appendable"), (0, .class_ 352), (0, u "java/io/Serializable"), (0, .class_ 354), (0, u "java/lang/Comparable"), (0, .class_ 356), (0, u "java/lang/CharSequence"), (0, u "serialVersionUID"), (0, u "J"), (40, u "toString"), (0, u "()Ljava/lang/String;")] 21

def k13c0 : Code := { maxStack := 2, maxLocals := 1, code := jdk_67_method_1_code, exceptionTable := #[], attributes := #[] }
def k13m0 : Method := { name := "<init>", desc := "()V", sig := { parameters := [], returnType := none }, accessFlags := 1, code := some k13c0 }
def k13c1 : Code := { maxStack := 2, maxLocals := 2, code := jdk_67_method_7_code, exceptionTable := #[], attributes := #[] }
def k13m1 : Method := { name := "append", desc := "(Ljava/lang/String;)Ljava/lang/StringBuilder;", sig := { parameters := [(.object "java/lang/String")], returnType := some (.object "java/lang/StringBuilder") }, accessFlags := 1, code := some k13c1 }
def k13c2 : Code := { maxStack := 3, maxLocals := 1, code := jdk_67_method_42_code, exceptionTable := #[], attributes := #[] }
def k13m2 : Method := { name := "toString", desc := "()Ljava/lang/String;", sig := { parameters := [], returnType := some (.object "java/lang/String") }, accessFlags := 1, code := some k13c2 }
def k13c3 : Code := { maxStack := 1, maxLocals := 1, code := jdk_67_method_93_code, exceptionTable := #[], attributes := #[] }
def k13m3 : Method := { name := "length", desc := "()I", sig := { parameters := [], returnType := some .int }, accessFlags := 4161, code := some k13c3 }
/-- java/lang/StringBuilder -/
def k13 : Class := { plain "java/lang/StringBuilder" (some 12) with
  accessFlags := 49
  interfaces := #[11, 5, 4, 8]
  cf := some (fileOf pool13 24 #[] #[{ accessFlags := 1, nameIndex := 5, descriptorIndex := 145, attributes := #[] }, { accessFlags := 1, nameIndex := 27, descriptorIndex := 28, attributes := #[] }, { accessFlags := 1, nameIndex := 399, descriptorIndex := 400, attributes := #[] }, { accessFlags := 4161, nameIndex := 345, descriptorIndex := 156, attributes := #[] }] 49 2 #[349, 351, 353, 355] #[{ accessFlags := 24, nameIndex := 357, descriptorIndex := 358, attributes := #[] }])
  fields := #[{ name := "serialVersionUID", type := .long, accessFlags := 24, slot := 0, constantValue := 0 }]
  methods := #[k13m0, k13m1, k13m2, k13m3]
  instanceTypes := #[(.array .byte), .byte, .boolean, .int]
  staticTypes := #[.long]
  resolved := Array.replicate 422 none
  statics := none }

def pool14 : Array CpInfo := pool [(2, .class_ 4), (1, u "java/lang/Object"), (0, u "<init>"), (0, u "()V"), (1, .class_ 10), (1, u "java/lang/System"), (0, u "allowSecurityManager"), (0, u "I"), (16, u "cons"), (0, u "Ljava/io/Console;"), (77, .class_ 110), (1, u "java/lang/System$CallersHolder"), (43, u "initialErrStream"), (0, u "Ljava/io/PrintStream;"), (19, u "security"), (0, u "Ljava/lang/SecurityManager;"), (31, .class_ 209), (0, u "java/lang/System$1"), (7, u "props"), (0, u "Ljava/util/Properties;"), (2, u "lineSeparator"), (0, u "Ljava/lang/String;"), (96, .class_ 321), (1, u "java/lang/System$LoggerFinder"), (5, .class_ 328), (0, u "java/lang/System$Logger"), (67, u "err"), (2, u "out"), (91, u "notSupportedJnuEncoding"), (15, u "in"), (17, u "initialIn"), (0, u "Ljava/io/InputStream;"), (35, u "bootLayer"), (0, u "Ljava/lang/ModuleLayer;"), (99, .class_ 664), (0, u "java/lang/System$2"), (9, u "NEVER"), (2, u "MAYBE"), (49, u "arraycopy"), (0, u "(Ljava/lang/Object;ILjava/lang/Object;II)V"), (72, .class_ 802), (0, u "java/lang/System$Logger$Level")] 31

def k14m0 : Method := { name := "<init>", desc := "()V", sig := { parameters := [], returnType := none }, accessFlags := 2, code := none }
def k14m1 : Method := { name := "arraycopy", desc := "(Ljava/lang/Object;ILjava/lang/Object;II)V", sig := { parameters := [(.object "java/lang/Object"), .int, (.object "java/lang/Object"), .int, .int], returnType := none }, accessFlags := 265, code := none }
/-- java/lang/System -/
def k14 : Class := { plain "java/lang/System" (some 0) with
  accessFlags := 49
  interfaces := #[]
  cf := some (fileOf pool14 8 #[.nestMembers #[319, 327, 801, 108, 663, 208]] #[{ accessFlags := 2, nameIndex := 5, descriptorIndex := 6, attributes := #[] }, { accessFlags := 265, nameIndex := 727, descriptorIndex := 728, attributes := #[] }] 49 2 #[] #[{ accessFlags := 25, nameIndex := 507, descriptorIndex := 526, attributes := #[] }, { accessFlags := 25, nameIndex := 399, descriptorIndex := 155, attributes := #[] }, { accessFlags := 25, nameIndex := 396, descriptorIndex := 155, attributes := #[] }, { accessFlags := 10, nameIndex := 525, descriptorIndex := 526, attributes := #[] }, { accessFlags := 26, nameIndex := 674, descriptorIndex := 12, attributes := #[] }, { accessFlags := 26, nameIndex := 677, descriptorIndex := 12, attributes := #[] }, { accessFlags := 10, nameIndex := 11, descriptorIndex := 12, attributes := #[] }, { accessFlags := 74, nameIndex := 175, descriptorIndex := 176, attributes := #[] }, { accessFlags := 10, nameIndex := 491, descriptorIndex := 222, attributes := #[] }, { accessFlags := 74, nameIndex := 29, descriptorIndex := 30, attributes := #[] }, { accessFlags := 74, nameIndex := 154, descriptorIndex := 155, attributes := #[] }, { accessFlags := 10, nameIndex := 217, descriptorIndex := 218, attributes := #[] }, { accessFlags := 10, nameIndex := 221, descriptorIndex := 222, attributes := #[] }, { accessFlags := 8, nameIndex := 562, descriptorIndex := 563, attributes := #[] }])
  fields := #[{ name := "in", type := (.object "java/io/InputStream"), accessFlags := 25, slot := 0, constantValue := 0 }, { name := "out", type := (.object "java/io/PrintStream"), accessFlags := 25, slot := 1, constantValue := 0 }, { name := "err", type := (.object "java/io/PrintStream"), accessFlags := 25, slot := 2, constantValue := 0 }, { name := "initialIn", type := (.object "java/io/InputStream"), accessFlags := 10, slot := 3, constantValue := 0 }, { name := "NEVER", type := .int, accessFlags := 26, slot := 4, constantValue := 0 }, { name := "MAYBE", type := .int, accessFlags := 26, slot := 5, constantValue := 0 }, { name := "allowSecurityManager", type := .int, accessFlags := 10, slot := 6, constantValue := 0 }, { name := "security", type := (.object "java/lang/SecurityManager"), accessFlags := 74, slot := 7, constantValue := 0 }, { name := "notSupportedJnuEncoding", type := (.object "java/lang/String"), accessFlags := 10, slot := 8, constantValue := 0 }, { name := "cons", type := (.object "java/io/Console"), accessFlags := 74, slot := 9, constantValue := 0 }, { name := "initialErrStream", type := (.object "java/io/PrintStream"), accessFlags := 74, slot := 10, constantValue := 0 }, { name := "props", type := (.object "java/util/Properties"), accessFlags := 10, slot := 11, constantValue := 0 }, { name := "lineSeparator", type := (.object "java/lang/String"), accessFlags := 10, slot := 12, constantValue := 0 }, { name := "bootLayer", type := (.object "java/lang/ModuleLayer"), accessFlags := 8, slot := 13, constantValue := 0 }]
  methods := #[k14m0, k14m1]
  instanceTypes := #[]
  staticTypes := #[(.object "java/io/InputStream"), (.object "java/io/PrintStream"), (.object "java/io/PrintStream"), (.object "java/io/InputStream"), .int, .int, .int, (.object "java/lang/SecurityManager"), (.object "java/lang/String"), (.object "java/io/Console"), (.object "java/io/PrintStream"), (.object "java/util/Properties"), (.object "java/lang/String"), (.object "java/lang/ModuleLayer")]
  resolved := Array.replicate 834 none
  statics := none }

def pool15 : Array CpInfo := pool [(2, .class_ 4), (1, u "java/lang/Object"), (0, u "<init>"), (0, u "()V"), (7, .class_ 16), (1, u "java/util/Arrays"), (57, .class_ 76), (1, u "java/util/Arrays$NaturalOrder"), (36, .class_ 115), (1, u "java/util/Arrays$LegacyMergeSort"), (1, u "Z"), (21, u "copyOfRange"), (10, .methodref 151 152), (0, .class_ 153), (0, .nameAndType 154 155), (0, u "java/lang/System"), (0, u "arraycopy"), (0, u "(Ljava/lang/Object;ILjava/lang/Object;II)V"), (148, .methodref 305 306), (0, .class_ 307), (0, .nameAndType 308 309), (0, u "java/lang/Math"), (0, u "min"), (0, u "(II)I"), (29, .methodref 14 340), (0, .nameAndType 341 342), (0, u "copyOfRangeByte"), (0, u "([BII)[B"), (0, .methodref 14 344), (0, .nameAndType 345 346), (0, u "checkLength"), (0, u "(II)V"), (28, .class_ 376), (0, u "java/util/Arrays$ArrayList"), (68, u "$assertionsDisabled"), (269, u "MIN_ARRAY_SORT_GRAN"), (0, u "I"), (2, u "INSERTIONSORT_THRESHOLD"), (255, .class_ 976), (0, u "java/util/Arrays$ArrayItr")] 52

def k15m0 : Method := { name := "<init>", desc := "()V", sig := { parameters := [], returnType := none }, accessFlags := 2, code := none }
def k15c1 : Code := { maxStack := 4, maxLocals := 2, code := jdk_65_method_131_code, exceptionTable := #[], attributes := #[] }
def k15m1 : Method := { name := "checkLength", desc := "(II)V", sig := { parameters := [.int, .int], returnType := none }, accessFlags := 10, code := some k15c1 }
def k15c2 : Code := { maxStack := 3, maxLocals := 3, code := jdk_65_method_132_code, exceptionTable := #[], attributes := #[] }
def k15m2 : Method := { name := "copyOfRange", desc := "([BII)[B", sig := { parameters := [(.array .byte), .int, .int], returnType := some (.array .byte) }, accessFlags := 9, code := some k15c2 }
def k15c3 : Code := { maxStack := 6, maxLocals := 5, code := jdk_65_method_133_code, exceptionTable := #[], attributes := #[] }
def k15m3 : Method := { name := "copyOfRangeByte", desc := "([BII)[B", sig := { parameters := [(.array .byte), .int, .int], returnType := some (.array .byte) }, accessFlags := 10, code := some k15c3 }
/-- java/util/Arrays -/
def k15 : Class := { plain "java/util/Arrays" (some 0) with
  accessFlags := 49
  interfaces := #[]
  cf := some (fileOf pool15 14 #[.nestMembers #[975, 375, 113, 74]] #[{ accessFlags := 2, nameIndex := 5, descriptorIndex := 6, attributes := #[] }, { accessFlags := 10, nameIndex := 345, descriptorIndex := 346, attributes := #[] }, { accessFlags := 9, nameIndex := 139, descriptorIndex := 342, attributes := #[] }, { accessFlags := 10, nameIndex := 341, descriptorIndex := 342, attributes := #[] }] 49 2 #[] #[{ accessFlags := 26, nameIndex := 715, descriptorIndex := 716, attributes := #[] }, { accessFlags := 26, nameIndex := 719, descriptorIndex := 716, attributes := #[] }, { accessFlags := 4120, nameIndex := 445, descriptorIndex := 117, attributes := #[] }])
  fields := #[{ name := "MIN_ARRAY_SORT_GRAN", type := .int, accessFlags := 26, slot := 0, constantValue := 0 }, { name := "INSERTIONSORT_THRESHOLD", type := .int, accessFlags := 26, slot := 1, constantValue := 0 }, { name := "$assertionsDisabled", type := .boolean, accessFlags := 4120, slot := 2, constantValue := 0 }]
  methods := #[k15m0, k15m1, k15m2, k15m3]
  instanceTypes := #[]
  staticTypes := #[.int, .int, .boolean]
  resolved := Array.replicate 1029 none
  statics := none }

def pool16 : Array CpInfo := pool [(1, .class_ 2), (0, u "java/lang/Math"), (1, .class_ 6), (1, u "java/lang/Object"), (0, u "<init>"), (0, u "()V"), (89, .class_ 100), (1, u "java/lang/Math$RandomNumberGeneratorHolder"), (71, u "negativeZeroFloatBits"), (0, u "J"), (2, u "negativeZeroDoubleBits"), (24, u "min"), (43, u "$assertionsDisabled"), (0, u "Z"), (88, u "(II)I"), (2, u "twoToTheDoubleScaleDown"), (0, u "D"), (4, u "twoToTheDoubleScaleUp"), (9, u "E"), (3, u "PI"), (2, u "TAU"), (2, u "DEGREES_TO_RADIANS"), (0, u "RADIANS_TO_DEGREES")] 94

def k16m0 : Method := { name := "<init>", desc := "()V", sig := { parameters := [], returnType := none }, accessFlags := 2, code := none }
def k16c1 : Code := { maxStack := 2, maxLocals := 2, code := jdk_29_method_69_code, exceptionTable := #[], attributes := #[] }
def k16m1 : Method := { name := "min", desc := "(II)I", sig := { parameters := [.int, .int], returnType := some .int }, accessFlags := 9, code := some k16c1 }
/-- java/lang/Math -/
def k16 : Class := { plain "java/lang/Math" (some 0) with
  accessFlags := 49
  interfaces := #[]
  cf := some (fileOf pool16 1 #[.nestMembers #[98]] #[{ accessFlags := 2, nameIndex := 7, descriptorIndex := 8, attributes := #[] }, { accessFlags := 9, nameIndex := 201, descriptorIndex := 335, attributes := #[] }] 49 4 #[] #[{ accessFlags := 25, nameIndex := 354, descriptorIndex := 339, attributes := #[] }, { accessFlags := 25, nameIndex := 358, descriptorIndex := 339, attributes := #[] }, { accessFlags := 25, nameIndex := 361, descriptorIndex := 339, attributes := #[] }, { accessFlags := 26, nameIndex := 364, descriptorIndex := 339, attributes := #[] }, { accessFlags := 26, nameIndex := 365, descriptorIndex := 339, attributes := #[] }, { accessFlags := 26, nameIndex := 172, descriptorIndex := 173, attributes := #[] }, { accessFlags := 26, nameIndex := 176, descriptorIndex := 173, attributes := #[] }, { accessFlags := 8, nameIndex := 344, descriptorIndex := 339, attributes := #[] }, { accessFlags := 8, nameIndex := 338, descriptorIndex := 339, attributes := #[] }, { accessFlags := 4120, nameIndex := 245, descriptorIndex := 246, attributes := #[] }])
  fields := #[{ name := "E", type := .double, accessFlags := 25, slot := 0, constantValue := 0 }, { name := "PI", type := .double, accessFlags := 25, slot := 1, constantValue := 0 }, { name := "TAU", type := .double, accessFlags := 25, slot := 2, constantValue := 0 }, { name := "DEGREES_TO_RADIANS", type := .double, accessFlags := 26, slot := 3, constantValue := 0 }, { name := "RADIANS_TO_DEGREES", type := .double, accessFlags := 26, slot := 4, constantValue := 0 }, { name := "negativeZeroFloatBits", type := .long, accessFlags := 26, slot := 5, constantValue := 0 }, { name := "negativeZeroDoubleBits", type := .long, accessFlags := 26, slot := 6, constantValue := 0 }, { name := "twoToTheDoubleScaleUp", type := .double, accessFlags := 8, slot := 7, constantValue := 0 }, { name := "twoToTheDoubleScaleDown", type := .double, accessFlags := 8, slot := 8, constantValue := 0 }, { name := "$assertionsDisabled", type := .boolean, accessFlags := 4120, slot := 9, constantValue := 0 }]
  methods := #[k16m0, k16m1]
  instanceTypes := #[]
  staticTypes := #[.double, .double, .double, .double, .double, .long, .long, .double, .double, .boolean]
  resolved := Array.replicate 460 none
  statics := none }

def pool17 : Array CpInfo := pool [(4, .class_ 6), (1, u "java/lang/Object"), (0, u "<init>"), (0, u "()V"), (5, .class_ 16), (1, u "java/lang/StringLatin1"), (104, u "$assertionsDisabled"), (0, u "Z"), (98, .class_ 223), (1, u "java/lang/StringLatin1$LinesSpliterator"), (57, u "equals"), (0, u "([B[B)Z"), (107, .class_ 391), (0, u "java/lang/StringLatin1$CharsSpliterator")] 3

def k17m0 : Method := { name := "<init>", desc := "()V", sig := { parameters := [], returnType := none }, accessFlags := 0, code := none }
def k17c1 : Code := { maxStack := 3, maxLocals := 3, code := jdk_43_method_13_code, exceptionTable := #[], attributes := #[] }
def k17m1 : Method := { name := "equals", desc := "([B[B)Z", sig := { parameters := [(.array .byte), (.array .byte)], returnType := some .boolean }, accessFlags := 9, code := some k17c1 }
/-- java/lang/StringLatin1 -/
def k17 : Class := { plain "java/lang/StringLatin1" (some 0) with
  accessFlags := 48
  interfaces := #[]
  cf := some (fileOf pool17 14 #[.nestMembers #[390, 221]] #[{ accessFlags := 0, nameIndex := 7, descriptorIndex := 8, attributes := #[] }, { accessFlags := 9, nameIndex := 281, descriptorIndex := 282, attributes := #[] }] 48 4 #[] #[{ accessFlags := 4120, nameIndex := 121, descriptorIndex := 122, attributes := #[] }])
  fields := #[{ name := "$assertionsDisabled", type := .boolean, accessFlags := 4120, slot := 0, constantValue := 0 }]
  methods := #[k17m0, k17m1]
  instanceTypes := #[]
  staticTypes := #[.boolean]
  resolved := Array.replicate 395 none
  statics := none }

def pool18 : Array CpInfo := pool [(2, .class_ 4), (1, u "java/lang/Object"), (0, u "<init>"), (0, u "()V"), (17, .class_ 26), (1, u "jdk/internal/util/Preconditions"), (28, .class_ 56), (0, u "jdk/internal/util/Preconditions$4"), (57, .class_ 115), (0, u "jdk/internal/util/Preconditions$1"), (7, u "SIOOBE_FORMATTER"), (0, u "Ljava/util/function/BiFunction;"), (0, .class_ 126), (0, u "jdk/internal/util/Preconditions$2"), (3, u "AIOOBE_FORMATTER"), (0, .class_ 132), (0, u "jdk/internal/util/Preconditions$3"), (3, u "IOOBE_FORMATTER")] 57

def k18m0 : Method := { name := "<init>", desc := "()V", sig := { parameters := [], returnType := none }, accessFlags := 1, code := none }
/-- jdk/internal/util/Preconditions -/
def k18 : Class := { plain "jdk/internal/util/Preconditions" (some 0) with
  accessFlags := 33
  interfaces := #[]
  cf := some (fileOf pool18 24 #[.nestMembers #[55, 131, 125, 114]] #[{ accessFlags := 1, nameIndex := 5, descriptorIndex := 6, attributes := #[] }] 33 2 #[] #[{ accessFlags := 25, nameIndex := 123, descriptorIndex := 124, attributes := #[] }, { accessFlags := 25, nameIndex := 130, descriptorIndex := 124, attributes := #[] }, { accessFlags := 25, nameIndex := 136, descriptorIndex := 124, attributes := #[] }])
  fields := #[{ name := "SIOOBE_FORMATTER", type := (.object "java/util/function/BiFunction"), accessFlags := 25, slot := 0, constantValue := 0 }, { name := "AIOOBE_FORMATTER", type := (.object "java/util/function/BiFunction"), accessFlags := 25, slot := 1, constantValue := 0 }, { name := "IOOBE_FORMATTER", type := (.object "java/util/function/BiFunction"), accessFlags := 25, slot := 2, constantValue := 0 }]
  methods := #[k18m0]
  instanceTypes := #[]
  staticTypes := #[(.object "java/util/function/BiFunction"), (.object "java/util/function/BiFunction"), (.object "java/util/function/BiFunction")]
  resolved := Array.replicate 194 none
  statics := some 3 }

def pool19 : Array CpInfo := pool [(9, u "<init>"), (6, .class_ 18), (1, u "java/lang/Object"), (0, u "()V"), (1, .class_ 23), (1, u "jdk/internal/util/ArraysSupport"), (0, u "LOG2_ARRAY_LONG_INDEX_SCALE"), (0, u "I"), (2, u "U"), (0, u "Ljdk/internal/misc/Unsafe;"), (8, u "BIG_ENDIAN"), (0, u "Z"), (8, u "LOG2_BYTE_BIT_SIZE"), (4, u "LOG2_ARRAY_INT_INDEX_SCALE"), (54, u "JLA"), (0, u "Ljdk/internal/access/JavaLangAccess;"), (11, u "LOG2_ARRAY_BOOLEAN_INDEX_SCALE"), (9, u "LOG2_ARRAY_BYTE_INDEX_SCALE"), (5, u "LOG2_ARRAY_CHAR_INDEX_SCALE"), (5, u "LOG2_ARRAY_SHORT_INDEX_SCALE"), (18, u "LOG2_ARRAY_FLOAT_INDEX_SCALE"), (24, u "LOG2_ARRAY_DOUBLE_INDEX_SCALE"), (89, u "T_BOOLEAN"), (2, u "T_CHAR"), (1, u "T_FLOAT"), (1, u "T_DOUBLE"), (1, u "T_BYTE"), (1, u "T_SHORT"), (1, u "T_INT"), (1, u "T_LONG"), (1, u "SOFT_MAX_ARRAY_LENGTH")] 83

def k19m0 : Method := { name := "<init>", desc := "()V", sig := { parameters := [], returnType := none }, accessFlags := 2, code := none }
/-- jdk/internal/util/ArraysSupport -/
def k19 : Class := { plain "jdk/internal/util/ArraysSupport" (some 0) with
  accessFlags := 33
  interfaces := #[]
  cf := some (fileOf pool19 21 #[] #[{ accessFlags := 2, nameIndex := 9, descriptorIndex := 19, attributes := #[] }] 33 16 #[] #[{ accessFlags := 24, nameIndex := 28, descriptorIndex := 29, attributes := #[] }, { accessFlags := 26, nameIndex := 38, descriptorIndex := 39, attributes := #[] }, { accessFlags := 25, nameIndex := 121, descriptorIndex := 25, attributes := #[] }, { accessFlags := 25, nameIndex := 131, descriptorIndex := 25, attributes := #[] }, { accessFlags := 25, nameIndex := 137, descriptorIndex := 25, attributes := #[] }, { accessFlags := 25, nameIndex := 143, descriptorIndex := 25, attributes := #[] }, { accessFlags := 25, nameIndex := 53, descriptorIndex := 25, attributes := #[] }, { accessFlags := 25, nameIndex := 24, descriptorIndex := 25, attributes := #[] }, { accessFlags := 25, nameIndex := 162, descriptorIndex := 25, attributes := #[] }, { accessFlags := 25, nameIndex := 187, descriptorIndex := 25, attributes := #[] }, { accessFlags := 26, nameIndex := 48, descriptorIndex := 25, attributes := #[] }, { accessFlags := 25, nameIndex := 277, descriptorIndex := 25, attributes := #[] }, { accessFlags := 25, nameIndex := 280, descriptorIndex := 25, attributes := #[] }, { accessFlags := 25, nameIndex := 282, descriptorIndex := 25, attributes := #[] }, { accessFlags := 25, nameIndex := 284, descriptorIndex := 25, attributes := #[] }, { accessFlags := 25, nameIndex := 286, descriptorIndex := 25, attributes := #[] }, { accessFlags := 25, nameIndex := 288, descriptorIndex := 25, attributes := #[] }, { accessFlags := 25, nameIndex := 290, descriptorIndex := 25, attributes := #[] }, { accessFlags := 25, nameIndex := 292, descriptorIndex := 25, attributes := #[] }, { accessFlags := 26, nameIndex := 108, descriptorIndex := 109, attributes := #[] }, { accessFlags := 25, nameIndex := 294, descriptorIndex := 25, attributes := #[] }])
  fields := #[{ name := "U", type := (.object "jdk/internal/misc/Unsafe"), accessFlags := 24, slot := 0, constantValue := 0 }, { name := "BIG_ENDIAN", type := .boolean, accessFlags := 26, slot := 1, constantValue := 0 }, { name := "LOG2_ARRAY_BOOLEAN_INDEX_SCALE", type := .int, accessFlags := 25, slot := 2, constantValue := 0 }, { name := "LOG2_ARRAY_BYTE_INDEX_SCALE", type := .int, accessFlags := 25, slot := 3, constantValue := 0 }, { name := "LOG2_ARRAY_CHAR_INDEX_SCALE", type := .int, accessFlags := 25, slot := 4, constantValue := 0 }, { name := "LOG2_ARRAY_SHORT_INDEX_SCALE", type := .int, accessFlags := 25, slot := 5, constantValue := 0 }, { name := "LOG2_ARRAY_INT_INDEX_SCALE", type := .int, accessFlags := 25, slot := 6, constantValue := 0 }, { name := "LOG2_ARRAY_LONG_INDEX_SCALE", type := .int, accessFlags := 25, slot := 7, constantValue := 0 }, { name := "LOG2_ARRAY_FLOAT_INDEX_SCALE", type := .int, accessFlags := 25, slot := 8, constantValue := 0 }, { name := "LOG2_ARRAY_DOUBLE_INDEX_SCALE", type := .int, accessFlags := 25, slot := 9, constantValue := 0 }, { name := "LOG2_BYTE_BIT_SIZE", type := .int, accessFlags := 26, slot := 10, constantValue := 0 }, { name := "T_BOOLEAN", type := .int, accessFlags := 25, slot := 11, constantValue := 0 }, { name := "T_CHAR", type := .int, accessFlags := 25, slot := 12, constantValue := 0 }, { name := "T_FLOAT", type := .int, accessFlags := 25, slot := 13, constantValue := 0 }, { name := "T_DOUBLE", type := .int, accessFlags := 25, slot := 14, constantValue := 0 }, { name := "T_BYTE", type := .int, accessFlags := 25, slot := 15, constantValue := 0 }, { name := "T_SHORT", type := .int, accessFlags := 25, slot := 16, constantValue := 0 }, { name := "T_INT", type := .int, accessFlags := 25, slot := 17, constantValue := 0 }, { name := "T_LONG", type := .int, accessFlags := 25, slot := 18, constantValue := 0 }, { name := "JLA", type := (.object "jdk/internal/access/JavaLangAccess"), accessFlags := 26, slot := 19, constantValue := 0 }, { name := "SOFT_MAX_ARRAY_LENGTH", type := .int, accessFlags := 25, slot := 20, constantValue := 0 }]
  methods := #[k19m0]
  instanceTypes := #[]
  staticTypes := #[(.object "jdk/internal/misc/Unsafe"), .boolean, .int, .int, .int, .int, .int, .int, .int, .int, .int, .int, .int, .int, .int, .int, .int, .int, .int, (.object "jdk/internal/access/JavaLangAccess"), .int]
  resolved := Array.replicate 378 none
  statics := none }

def pool20 : Array CpInfo := pool [(1, u "java/lang/Cloneable"), (0, .class_ 1), (0, u "java/lang/Object"), (0, .class_ 3)] 3

/-- java/lang/Cloneable -/
def k20 : Class := { plain "java/lang/Cloneable" (some 0) with
  accessFlags := 1537
  interfaces := #[]
  cf := some (fileOf pool20 2 #[] #[] 1537 4 #[] #[])
  fields := #[]
  methods := #[]
  instanceTypes := #[]
  staticTypes := #[]
  resolved := Array.replicate 8 none
  statics := none }

/-- the primitive byte -/
def k21 : Class := { plain "byte" none with kind := .primitive 'B', accessFlags := 0x411 }
/-- [B -/
def k22 : Class := { plain "[B" (some 0) with kind := .array 21 .byte, interfaces := #[20, 5], accessFlags := 1041 }

/-- the primitive int -/
def k23 : Class := { plain "int" none with kind := .primitive 'I', accessFlags := 0x411 }
/-- [I -/
def k24 : Class := { plain "[I" (some 0) with kind := .array 23 .int, interfaces := #[20, 5], accessFlags := 1041 }

def heap : Heap := #[{ cls := 2, slots := #[.ref 11, .ref 4, .null], vm := .statics 2 },
  { cls := 7, slots := #[.ref 7, .ref 8, .ref 9, .ref 10, .ref 5, .ref 6, .null], vm := .statics 7 },
  { cls := 10, slots := #[.long 0, .int 1, .null, .int 0, .null, .int 0, .int 0], vm := .statics 10 },
  { cls := 18, slots := #[.null, .null, .null], vm := .statics 18 },
  { cls := 2, slots := #[.ref 5, .ref 12, .null, .null, .double 0, .int 0], vm := .none },
  { cls := 7, slots := #[.null, .int 4, .int 0], vm := .none },
  { cls := 7, slots := #[.null, .int 5, .int 0], vm := .none },
  { cls := 7, slots := #[.null, .int 0, .int 0], vm := .none },
  { cls := 7, slots := #[.null, .int 1, .int 0], vm := .none },
  { cls := 7, slots := #[.null, .int 2, .int 0], vm := .none },
  { cls := 7, slots := #[.null, .int 3, .int 0], vm := .none },
  { cls := 2, slots := #[.ref 5, .ref 14, .null, .null, .double 0, .int 0], vm := .none },
  { cls := 10, slots := #[.ref 13, .int 0, .int 0, .int 0], vm := .none },
  { cls := 22, slots := #[.int 102, .int 97, .int 108, .int 115, .int 101], vm := .none },
  { cls := 10, slots := #[.ref 15, .int 0, .int 0, .int 0], vm := .none },
  { cls := 22, slots := #[.int 116, .int 114, .int 117, .int 101], vm := .none }]
def classes : Array Class := #[k0, k1, k2, k3, k4, k5, k6, k7, k8, k9, k10, k11, k12, k13, k14, k15, k16, k17, k18, k19, k20, k21, k22, k23, k24]
def interned : List (Array UInt16 × Addr) := []
def slotsUsed : Nat := 67
def theMethod : MethodId := ⟨1, 1⟩
def args0 : Array Value := #[.int 5]
def aboutOver (below : List Frame) : State where
  vm := { classes := classes, interned := interned.toArray }
  heap := heap
  slotsUsed := slotsUsed
  threads := #[{ frames := .invoking theMethod args0 :: below }]
def below0 : List Frame := [.native { method := ⟨0, 0⟩, args := #[] }]
def about1 : State := aboutOver below0
def p0 : Program := .bare "" "" ""
def e0 : Env := launch0.env 0 0 0
theorem w_frames : about1.frames = Frame.invoking theMethod args0 :: below0 := rfl
set_option maxRecDepth 65536 in
theorem w_args : argsFit about1.vm theMethod args0 = true := by decide +kernel
set_option maxRecDepth 65536 in
theorem w_heap : heapFits about1 = true := by decide +kernel
set_option maxRecDepth 65536 in
theorem w_runnable : about1.curStatus? = some .runnable := by decide +kernel
set_option maxRecDepth 65536 in
theorem w_alone : about1.alone = true := by decide +kernel
set_option maxRecDepth 65536 in
theorem w_named : about1.methodNamed? x = some theMethod := by decide +kernel
set_option maxRecDepth 65536 in
theorem w_hears : about1.hears theMethod below0 = true := by decide +kernel
set_option maxRecDepth 65536 in
theorem w_ripe : about1.ripe theMethod args0 below0 = true := by decide +kernel
theorem w_running : about1.status = .running := rfl
set_option maxRecDepth 65536 in
theorem w_room : about1.hasRoom e0.platform room_1 = true :=
  launch0.hasRoom_least _ room_1 (by decide +kernel) (by decide +kernel) (by decide +kernel) (by decide +kernel) (by decide +kernel) (by decide +kernel)
theorem allAtoms_all (ts : List Jvm.Cond) (a : Array Jvm.Value) (st : Jvm.State) : (allAtoms ts).before a st = ts.all (fun c => c.before a st) := by
  induction ts with
  | nil => rfl
  | cons c t ih =>
    show (Jvm.Cond.and c (allAtoms t)).before a st = _
    rw [Jvm.Cond.before_and, ih, List.all_cons]
def words1 : List Jvm.Cond := Jvm.Cond.code x code maxLocals ret :: tables_1
/-- a 'code' word, met by the world's own term for the bytes: nothing is compared byte by byte -/
theorem code_word {y : MethodName} {bytes : ByteArray} {mx : Nat} {rt : Option FieldType} {a : Array Value} {s : State} {m : MethodId} {meth : Method} {c : Code} (h1 : s.methodNamed? y = some m) (h2 : s.vm.method? m = some meth) (h3 : meth.code = some c) (h4 : c.code = bytes)
    (h5 : (c.maxLocals == mx && c.exceptionTable.isEmpty && decide (c.maxStack ≤ mostOperands) && decide (meth.sig.returnType = rt) && !meth.locks && decide (parseMethodDescriptor y.desc = some meth.sig)) = true) : (Jvm.Cond.code y bytes mx rt).before a s = true := by
  simp only [Bool.and_eq_true, beq_iff_eq, Bool.not_eq_true', decide_eq_true_eq] at h5
  obtain ⟨⟨⟨⟨⟨g1, g2⟩, g3⟩, g4⟩, g5⟩, g6⟩ := h5
  simp [Cond.before, Cond.holds, Cond.value, h1, h2, h3, h4, g1, g2, g3, g4, g5, g6]
def isCode : Jvm.Cond → Bool
  | .code _ _ _ _ => true
  | _ => false
theorem all_split {L : List Jvm.Cond} {P : Jvm.Cond → Bool} (h1 : L.all (fun c => isCode c || P c) = true) (h2 : ∀ c ∈ L.filter isCode, P c = true) : L.all P = true := by
  refine List.all_eq_true.mpr fun c hc => ?_
  have h := List.all_eq_true.mp h1 c hc
  rcases Bool.eq_false_or_eq_true (isCode c) with hi | hi
  · exact h2 c (List.mem_filter.mpr ⟨hc, hi⟩)
  · simpa [hi] using h
set_option maxRecDepth 65536 in
theorem w_c0 : (Jvm.Cond.code x code maxLocals ret).before args0 about1 = true := code_word (m := ⟨1, 1⟩) (meth := k1m1) (c := k1c1) (by decide +kernel) rfl rfl rfl (by decide +kernel)
set_option maxRecDepth 65536 in
theorem w_c1 : (Jvm.Cond.code ({ cls := "com/example/riskweave/riskweave/scenario/JsonValue", name := "bool", desc := "(Z)Lcom/example/riskweave/riskweave/scenario/JsonValue;" } : Jvm.MethodName) prog_74_method_6_code (1 : Nat) (Option.some (Jvm.ClassFile.FieldType.object "com/example/riskweave/riskweave/scenario/JsonValue"))).before args0 about1 = true := code_word (m := ⟨2, 0⟩) (meth := k2m0) (c := k2c0) (by decide +kernel) rfl rfl rfl (by decide +kernel)
set_option maxRecDepth 65536 in
theorem w_c2 : (Jvm.Cond.code ({ cls := "com/example/riskweave/riskweave/scenario/JsonValue", name := "isBoolean", desc := "()Z" } : Jvm.MethodName) prog_74_method_13_code (1 : Nat) (Option.some Jvm.ClassFile.FieldType.boolean)).before args0 about1 = true := code_word (m := ⟨2, 5⟩) (meth := k2m5) (c := k2c5) (by decide +kernel) rfl rfl rfl (by decide +kernel)
set_option maxRecDepth 65536 in
theorem w_c3 : (Jvm.Cond.code ({ cls := "com/example/riskweave/riskweave/scenario/JsonValue", name := "isNull", desc := "()Z" } : Jvm.MethodName) prog_74_method_14_code (1 : Nat) (Option.some Jvm.ClassFile.FieldType.boolean)).before args0 about1 = true := code_word (m := ⟨2, 6⟩) (meth := k2m6) (c := k2c6) (by decide +kernel) rfl rfl rfl (by decide +kernel)
set_option maxRecDepth 65536 in
theorem w_c4 : (Jvm.Cond.code ({ cls := "com/example/riskweave/riskweave/scenario/JsonValue", name := "isObject", desc := "()Z" } : Jvm.MethodName) prog_74_method_8_code (1 : Nat) (Option.some Jvm.ClassFile.FieldType.boolean)).before args0 about1 = true := code_word (m := ⟨2, 1⟩) (meth := k2m1) (c := k2c1) (by decide +kernel) rfl rfl rfl (by decide +kernel)
set_option maxRecDepth 65536 in
theorem w_c5 : (Jvm.Cond.code ({ cls := "com/example/riskweave/riskweave/scenario/JsonValue", name := "isArray", desc := "()Z" } : Jvm.MethodName) prog_74_method_9_code (1 : Nat) (Option.some Jvm.ClassFile.FieldType.boolean)).before args0 about1 = true := code_word (m := ⟨2, 2⟩) (meth := k2m2) (c := k2c2) (by decide +kernel) rfl rfl rfl (by decide +kernel)
set_option maxRecDepth 65536 in
theorem w_c6 : (Jvm.Cond.code ({ cls := "com/example/riskweave/riskweave/scenario/JsonValue", name := "isText", desc := "()Z" } : Jvm.MethodName) prog_74_method_10_code (1 : Nat) (Option.some Jvm.ClassFile.FieldType.boolean)).before args0 about1 = true := code_word (m := ⟨2, 3⟩) (meth := k2m3) (c := k2c3) (by decide +kernel) rfl rfl rfl (by decide +kernel)
set_option maxRecDepth 65536 in
theorem w_c7 : (Jvm.Cond.code ({ cls := "com/example/riskweave/riskweave/scenario/JsonValue", name := "isNumber", desc := "()Z" } : Jvm.MethodName) prog_74_method_11_code (1 : Nat) (Option.some Jvm.ClassFile.FieldType.boolean)).before args0 about1 = true := code_word (m := ⟨2, 4⟩) (meth := k2m4) (c := k2c4) (by decide +kernel) rfl rfl rfl (by decide +kernel)
set_option maxRecDepth 65536 in
theorem w_c8 : (Jvm.Cond.code ({ cls := "com/example/riskweave/riskweave/scenario/JsonValue", name := "isTrue", desc := "()Z" } : Jvm.MethodName) prog_74_method_22_code (1 : Nat) (Option.some Jvm.ClassFile.FieldType.boolean)).before args0 about1 = true := code_word (m := ⟨2, 7⟩) (meth := k2m7) (c := k2c7) (by decide +kernel) rfl rfl rfl (by decide +kernel)
set_option maxRecDepth 65536 in
theorem w_c9 : (Jvm.Cond.code ({ cls := "com/example/riskweave/riskweave/scenario/JsonValue", name := "toString", desc := "()Ljava/lang/String;" } : Jvm.MethodName) prog_74_method_23_code (2 : Nat) (Option.some (Jvm.ClassFile.FieldType.object "java/lang/String"))).before args0 about1 = true := code_word (m := ⟨2, 8⟩) (meth := k2m8) (c := k2c8) (by decide +kernel) rfl rfl rfl (by decide +kernel)
set_option maxRecDepth 65536 in
theorem w_c10 : (Jvm.Cond.code ({ cls := "java/lang/StringBuilder", name := "<init>", desc := "()V" } : Jvm.MethodName) jdk_67_method_1_code (1 : Nat) (Option.none : Option Jvm.ClassFile.FieldType)).before args0 about1 = true := code_word (m := ⟨13, 0⟩) (meth := k13m0) (c := k13c0) (by decide +kernel) rfl rfl rfl (by decide +kernel)
set_option maxRecDepth 65536 in
theorem w_c11 : (Jvm.Cond.code ({ cls := "java/lang/AbstractStringBuilder", name := "<init>", desc := "(I)V" } : Jvm.MethodName) jdk_68_method_2_code (2 : Nat) (Option.none : Option Jvm.ClassFile.FieldType)).before args0 about1 = true := code_word (m := ⟨12, 1⟩) (meth := k12m1) (c := k12c1) (by decide +kernel) rfl rfl rfl (by decide +kernel)
set_option maxRecDepth 65536 in
theorem w_c12 : (Jvm.Cond.code ({ cls := "java/lang/Object", name := "<init>", desc := "()V" } : Jvm.MethodName) object_method_1_code (1 : Nat) (Option.none : Option Jvm.ClassFile.FieldType)).before args0 about1 = true := code_word (m := ⟨0, 0⟩) (meth := k0m0) (c := k0c0) (by decide +kernel) rfl rfl rfl (by decide +kernel)
set_option maxRecDepth 65536 in
theorem w_c13 : (Jvm.Cond.code ({ cls := "com/example/riskweave/riskweave/scenario/JsonValue", name := "write", desc := "(Ljava/lang/StringBuilder;)V" } : Jvm.MethodName) prog_74_method_24_code (5 : Nat) (Option.none : Option Jvm.ClassFile.FieldType)).before args0 about1 = true := code_word (m := ⟨2, 9⟩) (meth := k2m9) (c := k2c9) (by decide +kernel) rfl rfl rfl (by decide +kernel)
set_option maxRecDepth 65536 in
theorem w_c14 : (Jvm.Cond.code ({ cls := "java/lang/StringBuilder", name := "append", desc := "(Ljava/lang/String;)Ljava/lang/StringBuilder;" } : Jvm.MethodName) jdk_67_method_7_code (2 : Nat) (Option.some (Jvm.ClassFile.FieldType.object "java/lang/StringBuilder"))).before args0 about1 = true := code_word (m := ⟨13, 1⟩) (meth := k13m1) (c := k13c1) (by decide +kernel) rfl rfl rfl (by decide +kernel)
set_option maxRecDepth 65536 in
theorem w_c15 : (Jvm.Cond.code ({ cls := "java/lang/AbstractStringBuilder", name := "append", desc := "(Ljava/lang/String;)Ljava/lang/AbstractStringBuilder;" } : Jvm.MethodName) jdk_68_method_22_code (3 : Nat) (Option.some (Jvm.ClassFile.FieldType.object "java/lang/AbstractStringBuilder"))).before args0 about1 = true := code_word (m := ⟨12, 4⟩) (meth := k12m4) (c := k12c4) (by decide +kernel) rfl rfl rfl (by decide +kernel)
set_option maxRecDepth 65536 in
theorem w_c16 : (Jvm.Cond.code ({ cls := "java/lang/String", name := "length", desc := "()I" } : Jvm.MethodName) jdk_42_method_54_code (1 : Nat) (Option.some Jvm.ClassFile.FieldType.int)).before args0 about1 = true := code_word (m := ⟨10, 2⟩) (meth := k10m2) (c := k10c2) (by decide +kernel) rfl rfl rfl (by decide +kernel)
set_option maxRecDepth 65536 in
theorem w_c17 : (Jvm.Cond.code ({ cls := "java/lang/String", name := "coder", desc := "()B" } : Jvm.MethodName) jdk_42_method_152_code (1 : Nat) (Option.some Jvm.ClassFile.FieldType.byte)).before args0 about1 = true := code_word (m := ⟨10, 6⟩) (meth := k10m6) (c := k10c6) (by decide +kernel) rfl rfl rfl (by decide +kernel)
set_option maxRecDepth 65536 in
theorem w_c18 : (Jvm.Cond.code ({ cls := "java/lang/AbstractStringBuilder", name := "ensureCapacityInternal", desc := "(I)V" } : Jvm.MethodName) jdk_68_method_9_code (3 : Nat) (Option.none : Option Jvm.ClassFile.FieldType)).before args0 about1 = true := code_word (m := ⟨12, 3⟩) (meth := k12m3) (c := k12c3) (by decide +kernel) rfl rfl rfl (by decide +kernel)
set_option maxRecDepth 65536 in
theorem w_c19 : (Jvm.Cond.code ({ cls := "java/lang/AbstractStringBuilder", name := "putStringAt", desc := "(ILjava/lang/String;)V" } : Jvm.MethodName) jdk_68_method_73_code (3 : Nat) (Option.none : Option Jvm.ClassFile.FieldType)).before args0 about1 = true := code_word (m := ⟨12, 8⟩) (meth := k12m8) (c := k12c8) (by decide +kernel) rfl rfl rfl (by decide +kernel)
set_option maxRecDepth 65536 in
theorem w_c20 : (Jvm.Cond.code ({ cls := "java/lang/AbstractStringBuilder", name := "inflateIfNeededFor", desc := "(Ljava/lang/String;)V" } : Jvm.MethodName) jdk_68_method_71_code (2 : Nat) (Option.none : Option Jvm.ClassFile.FieldType)).before args0 about1 = true := code_word (m := ⟨12, 7⟩) (meth := k12m7) (c := k12c7) (by decide +kernel) rfl rfl rfl (by decide +kernel)
set_option maxRecDepth 65536 in
theorem w_c21 : (Jvm.Cond.code ({ cls := "java/lang/String", name := "getBytes", desc := "([BIB)V" } : Jvm.MethodName) jdk_42_method_147_code (4 : Nat) (Option.none : Option Jvm.ClassFile.FieldType)).before args0 about1 = true := code_word (m := ⟨10, 4⟩) (meth := k10m4) (c := k10c4) (by decide +kernel) rfl rfl rfl (by decide +kernel)
set_option maxRecDepth 65536 in
theorem w_c22 : (Jvm.Cond.code ({ cls := "java/lang/StringBuilder", name := "toString", desc := "()Ljava/lang/String;" } : Jvm.MethodName) jdk_67_method_42_code (1 : Nat) (Option.some (Jvm.ClassFile.FieldType.object "java/lang/String"))).before args0 about1 = true := code_word (m := ⟨13, 2⟩) (meth := k13m2) (c := k13c2) (by decide +kernel) rfl rfl rfl (by decide +kernel)
set_option maxRecDepth 65536 in
theorem w_c23 : (Jvm.Cond.code ({ cls := "java/lang/String", name := "<init>", desc := "(Ljava/lang/StringBuilder;)V" } : Jvm.MethodName) jdk_42_method_53_code (2 : Nat) (Option.none : Option Jvm.ClassFile.FieldType)).before args0 about1 = true := code_word (m := ⟨10, 1⟩) (meth := k10m1) (c := k10c1) (by decide +kernel) rfl rfl rfl (by decide +kernel)
set_option maxRecDepth 65536 in
theorem w_c24 : (Jvm.Cond.code ({ cls := "java/lang/String", name := "<init>", desc := "(Ljava/lang/AbstractStringBuilder;Ljava/lang/Void;)V" } : Jvm.MethodName) jdk_42_method_150_code (5 : Nat) (Option.none : Option Jvm.ClassFile.FieldType)).before args0 about1 = true := code_word (m := ⟨10, 5⟩) (meth := k10m5) (c := k10c5) (by decide +kernel) rfl rfl rfl (by decide +kernel)
set_option maxRecDepth 65536 in
theorem w_c25 : (Jvm.Cond.code ({ cls := "java/lang/AbstractStringBuilder", name := "getValue", desc := "()[B" } : Jvm.MethodName) jdk_68_method_64_code (1 : Nat) (Option.some (Jvm.ClassFile.FieldType.array Jvm.ClassFile.FieldType.byte))).before args0 about1 = true := code_word (m := ⟨12, 5⟩) (meth := k12m5) (c := k12c5) (by decide +kernel) rfl rfl rfl (by decide +kernel)
set_option maxRecDepth 65536 in
theorem w_c26 : (Jvm.Cond.code ({ cls := "java/lang/StringBuilder", name := "length", desc := "()I" } : Jvm.MethodName) jdk_67_method_93_code (1 : Nat) (Option.some Jvm.ClassFile.FieldType.int)).before args0 about1 = true := code_word (m := ⟨13, 3⟩) (meth := k13m3) (c := k13c3) (by decide +kernel) rfl rfl rfl (by decide +kernel)
set_option maxRecDepth 65536 in
theorem w_c27 : (Jvm.Cond.code ({ cls := "java/lang/AbstractStringBuilder", name := "length", desc := "()I" } : Jvm.MethodName) jdk_68_method_6_code (1 : Nat) (Option.some Jvm.ClassFile.FieldType.int)).before args0 about1 = true := code_word (m := ⟨12, 2⟩) (meth := k12m2) (c := k12c2) (by decide +kernel) rfl rfl rfl (by decide +kernel)
set_option maxRecDepth 65536 in
theorem w_c28 : (Jvm.Cond.code ({ cls := "java/lang/AbstractStringBuilder", name := "isLatin1", desc := "()Z" } : Jvm.MethodName) jdk_68_method_68_code (1 : Nat) (Option.some Jvm.ClassFile.FieldType.boolean)).before args0 about1 = true := code_word (m := ⟨12, 6⟩) (meth := k12m6) (c := k12c6) (by decide +kernel) rfl rfl rfl (by decide +kernel)
set_option maxRecDepth 65536 in
theorem w_c29 : (Jvm.Cond.code ({ cls := "java/util/Arrays", name := "copyOfRange", desc := "([BII)[B" } : Jvm.MethodName) jdk_65_method_132_code (3 : Nat) (Option.some (Jvm.ClassFile.FieldType.array Jvm.ClassFile.FieldType.byte))).before args0 about1 = true := code_word (m := ⟨15, 2⟩) (meth := k15m2) (c := k15c2) (by decide +kernel) rfl rfl rfl (by decide +kernel)
set_option maxRecDepth 65536 in
theorem w_c30 : (Jvm.Cond.code ({ cls := "java/util/Arrays", name := "copyOfRangeByte", desc := "([BII)[B" } : Jvm.MethodName) jdk_65_method_133_code (5 : Nat) (Option.some (Jvm.ClassFile.FieldType.array Jvm.ClassFile.FieldType.byte))).before args0 about1 = true := code_word (m := ⟨15, 3⟩) (meth := k15m3) (c := k15c3) (by decide +kernel) rfl rfl rfl (by decide +kernel)
set_option maxRecDepth 65536 in
theorem w_c31 : (Jvm.Cond.code ({ cls := "java/util/Arrays", name := "checkLength", desc := "(II)V" } : Jvm.MethodName) jdk_65_method_131_code (2 : Nat) (Option.none : Option Jvm.ClassFile.FieldType)).before args0 about1 = true := code_word (m := ⟨15, 1⟩) (meth := k15m1) (c := k15c1) (by decide +kernel) rfl rfl rfl (by decide +kernel)
set_option maxRecDepth 65536 in
theorem w_c32 : (Jvm.Cond.code ({ cls := "java/lang/Math", name := "min", desc := "(II)I" } : Jvm.MethodName) jdk_29_method_69_code (2 : Nat) (Option.some Jvm.ClassFile.FieldType.int)).before args0 about1 = true := code_word (m := ⟨16, 1⟩) (meth := k16m1) (c := k16c1) (by decide +kernel) rfl rfl rfl (by decide +kernel)
set_option maxRecDepth 65536 in
theorem w_c33 : (Jvm.Cond.code ({ cls := "java/lang/String", name := "equals", desc := "(Ljava/lang/Object;)Z" } : Jvm.MethodName) jdk_42_method_66_code (3 : Nat) (Option.some Jvm.ClassFile.FieldType.boolean)).before args0 about1 = true := code_word (m := ⟨10, 3⟩) (meth := k10m3) (c := k10c3) (by decide +kernel) rfl rfl rfl (by decide +kernel)
set_option maxRecDepth 65536 in
theorem w_c34 : (Jvm.Cond.code ({ cls := "java/lang/StringLatin1", name := "equals", desc := "([B[B)Z" } : Jvm.MethodName) jdk_43_method_13_code (3 : Nat) (Option.some Jvm.ClassFile.FieldType.boolean)).before args0 about1 = true := code_word (m := ⟨17, 1⟩) (meth := k17m1) (c := k17c1) (by decide +kernel) rfl rfl rfl (by decide +kernel)
def codes1 : List Jvm.Cond := [Jvm.Cond.code x code maxLocals ret, Jvm.Cond.code ({ cls := "com/example/riskweave/riskweave/scenario/JsonValue", name := "bool", desc := "(Z)Lcom/example/riskweave/riskweave/scenario/JsonValue;" } : Jvm.MethodName) prog_74_method_6_code (1 : Nat) (Option.some (Jvm.ClassFile.FieldType.object "com/example/riskweave/riskweave/scenario/JsonValue")), Jvm.Cond.code ({ cls := "com/example/riskweave/riskweave/scenario/JsonValue", name := "isBoolean", desc := "()Z" } : Jvm.MethodName) prog_74_method_13_code (1 : Nat) (Option.some Jvm.ClassFile.FieldType.boolean), Jvm.Cond.code ({ cls := "com/example/riskweave/riskweave/scenario/JsonValue", name := "isNull", desc := "()Z" } : Jvm.MethodName) prog_74_method_14_code (1 : Nat) (Option.some Jvm.ClassFile.FieldType.boolean), Jvm.Cond.code ({ cls := "com/example/riskweave/riskweave/scenario/JsonValue", name := "isObject", desc := "()Z" } : Jvm.MethodName) prog_74_method_8_code (1 : Nat) (Option.some Jvm.ClassFile.FieldType.boolean), Jvm.Cond.code ({ cls := "com/example/riskweave/riskweave/scenario/JsonValue", name := "isArray", desc := "()Z" } : Jvm.MethodName) prog_74_method_9_code (1 : Nat) (Option.some Jvm.ClassFile.FieldType.boolean), Jvm.Cond.code ({ cls := "com/example/riskweave/riskweave/scenario/JsonValue", name := "isText", desc := "()Z" } : Jvm.MethodName) prog_74_method_10_code (1 : Nat) (Option.some Jvm.ClassFile.FieldType.boolean), Jvm.Cond.code ({ cls := "com/example/riskweave/riskweave/scenario/JsonValue", name := "isNumber", desc := "()Z" } : Jvm.MethodName) prog_74_method_11_code (1 : Nat) (Option.some Jvm.ClassFile.FieldType.boolean), Jvm.Cond.code ({ cls := "com/example/riskweave/riskweave/scenario/JsonValue", name := "isTrue", desc := "()Z" } : Jvm.MethodName) prog_74_method_22_code (1 : Nat) (Option.some Jvm.ClassFile.FieldType.boolean), Jvm.Cond.code ({ cls := "com/example/riskweave/riskweave/scenario/JsonValue", name := "toString", desc := "()Ljava/lang/String;" } : Jvm.MethodName) prog_74_method_23_code (2 : Nat) (Option.some (Jvm.ClassFile.FieldType.object "java/lang/String")), Jvm.Cond.code ({ cls := "java/lang/StringBuilder", name := "<init>", desc := "()V" } : Jvm.MethodName) jdk_67_method_1_code (1 : Nat) (Option.none : Option Jvm.ClassFile.FieldType), Jvm.Cond.code ({ cls := "java/lang/AbstractStringBuilder", name := "<init>", desc := "(I)V" } : Jvm.MethodName) jdk_68_method_2_code (2 : Nat) (Option.none : Option Jvm.ClassFile.FieldType), Jvm.Cond.code ({ cls := "java/lang/Object", name := "<init>", desc := "()V" } : Jvm.MethodName) object_method_1_code (1 : Nat) (Option.none : Option Jvm.ClassFile.FieldType), Jvm.Cond.code ({ cls := "com/example/riskweave/riskweave/scenario/JsonValue", name := "write", desc := "(Ljava/lang/StringBuilder;)V" } : Jvm.MethodName) prog_74_method_24_code (5 : Nat) (Option.none : Option Jvm.ClassFile.FieldType), Jvm.Cond.code ({ cls := "java/lang/StringBuilder", name := "append", desc := "(Ljava/lang/String;)Ljava/lang/StringBuilder;" } : Jvm.MethodName) jdk_67_method_7_code (2 : Nat) (Option.some (Jvm.ClassFile.FieldType.object "java/lang/StringBuilder")), Jvm.Cond.code ({ cls := "java/lang/AbstractStringBuilder", name := "append", desc := "(Ljava/lang/String;)Ljava/lang/AbstractStringBuilder;" } : Jvm.MethodName) jdk_68_method_22_code (3 : Nat) (Option.some (Jvm.ClassFile.FieldType.object "java/lang/AbstractStringBuilder")), Jvm.Cond.code ({ cls := "java/lang/String", name := "length", desc := "()I" } : Jvm.MethodName) jdk_42_method_54_code (1 : Nat) (Option.some Jvm.ClassFile.FieldType.int), Jvm.Cond.code ({ cls := "java/lang/String", name := "coder", desc := "()B" } : Jvm.MethodName) jdk_42_method_152_code (1 : Nat) (Option.some Jvm.ClassFile.FieldType.byte), Jvm.Cond.code ({ cls := "java/lang/AbstractStringBuilder", name := "ensureCapacityInternal", desc := "(I)V" } : Jvm.MethodName) jdk_68_method_9_code (3 : Nat) (Option.none : Option Jvm.ClassFile.FieldType), Jvm.Cond.code ({ cls := "java/lang/AbstractStringBuilder", name := "putStringAt", desc := "(ILjava/lang/String;)V" } : Jvm.MethodName) jdk_68_method_73_code (3 : Nat) (Option.none : Option Jvm.ClassFile.FieldType), Jvm.Cond.code ({ cls := "java/lang/AbstractStringBuilder", name := "inflateIfNeededFor", desc := "(Ljava/lang/String;)V" } : Jvm.MethodName) jdk_68_method_71_code (2 : Nat) (Option.none : Option Jvm.ClassFile.FieldType), Jvm.Cond.code ({ cls := "java/lang/String", name := "getBytes", desc := "([BIB)V" } : Jvm.MethodName) jdk_42_method_147_code (4 : Nat) (Option.none : Option Jvm.ClassFile.FieldType), Jvm.Cond.code ({ cls := "java/lang/StringBuilder", name := "toString", desc := "()Ljava/lang/String;" } : Jvm.MethodName) jdk_67_method_42_code (1 : Nat) (Option.some (Jvm.ClassFile.FieldType.object "java/lang/String")), Jvm.Cond.code ({ cls := "java/lang/String", name := "<init>", desc := "(Ljava/lang/StringBuilder;)V" } : Jvm.MethodName) jdk_42_method_53_code (2 : Nat) (Option.none : Option Jvm.ClassFile.FieldType), Jvm.Cond.code ({ cls := "java/lang/String", name := "<init>", desc := "(Ljava/lang/AbstractStringBuilder;Ljava/lang/Void;)V" } : Jvm.MethodName) jdk_42_method_150_code (5 : Nat) (Option.none : Option Jvm.ClassFile.FieldType), Jvm.Cond.code ({ cls := "java/lang/AbstractStringBuilder", name := "getValue", desc := "()[B" } : Jvm.MethodName) jdk_68_method_64_code (1 : Nat) (Option.some (Jvm.ClassFile.FieldType.array Jvm.ClassFile.FieldType.byte)), Jvm.Cond.code ({ cls := "java/lang/StringBuilder", name := "length", desc := "()I" } : Jvm.MethodName) jdk_67_method_93_code (1 : Nat) (Option.some Jvm.ClassFile.FieldType.int), Jvm.Cond.code ({ cls := "java/lang/AbstractStringBuilder", name := "length", desc := "()I" } : Jvm.MethodName) jdk_68_method_6_code (1 : Nat) (Option.some Jvm.ClassFile.FieldType.int), Jvm.Cond.code ({ cls := "java/lang/AbstractStringBuilder", name := "isLatin1", desc := "()Z" } : Jvm.MethodName) jdk_68_method_68_code (1 : Nat) (Option.some Jvm.ClassFile.FieldType.boolean), Jvm.Cond.code ({ cls := "java/util/Arrays", name := "copyOfRange", desc := "([BII)[B" } : Jvm.MethodName) jdk_65_method_132_code (3 : Nat) (Option.some (Jvm.ClassFile.FieldType.array Jvm.ClassFile.FieldType.byte)), Jvm.Cond.code ({ cls := "java/util/Arrays", name := "copyOfRangeByte", desc := "([BII)[B" } : Jvm.MethodName) jdk_65_method_133_code (5 : Nat) (Option.some (Jvm.ClassFile.FieldType.array Jvm.ClassFile.FieldType.byte)), Jvm.Cond.code ({ cls := "java/util/Arrays", name := "checkLength", desc := "(II)V" } : Jvm.MethodName) jdk_65_method_131_code (2 : Nat) (Option.none : Option Jvm.ClassFile.FieldType), Jvm.Cond.code ({ cls := "java/lang/Math", name := "min", desc := "(II)I" } : Jvm.MethodName) jdk_29_method_69_code (2 : Nat) (Option.some Jvm.ClassFile.FieldType.int), Jvm.Cond.code ({ cls := "java/lang/String", name := "equals", desc := "(Ljava/lang/Object;)Z" } : Jvm.MethodName) jdk_42_method_66_code (3 : Nat) (Option.some Jvm.ClassFile.FieldType.boolean), Jvm.Cond.code ({ cls := "java/lang/StringLatin1", name := "equals", desc := "([B[B)Z" } : Jvm.MethodName) jdk_43_method_13_code (3 : Nat) (Option.some Jvm.ClassFile.FieldType.boolean)]
set_option maxRecDepth 65536 in
theorem codes_eq : words1.filter isCode = codes1 := rfl
theorem w_codes : ∀ c ∈ words1.filter isCode, c.before args0 about1 = true := by
  rw [codes_eq]
  intro c hc
  simp only [codes1, List.mem_cons, List.not_mem_nil, or_false] at hc
  rcases hc with rfl | rfl | rfl | rfl | rfl | rfl | rfl | rfl | rfl | rfl | rfl | rfl | rfl | rfl | rfl | rfl | rfl | rfl | rfl | rfl | rfl | rfl | rfl | rfl | rfl | rfl | rfl | rfl | rfl | rfl | rfl | rfl | rfl | rfl | rfl
  · exact w_c0
  · exact w_c1
  · exact w_c2
  · exact w_c3
  · exact w_c4
  · exact w_c5
  · exact w_c6
  · exact w_c7
  · exact w_c8
  · exact w_c9
  · exact w_c10
  · exact w_c11
  · exact w_c12
  · exact w_c13
  · exact w_c14
  · exact w_c15
  · exact w_c16
  · exact w_c17
  · exact w_c18
  · exact w_c19
  · exact w_c20
  · exact w_c21
  · exact w_c22
  · exact w_c23
  · exact w_c24
  · exact w_c25
  · exact w_c26
  · exact w_c27
  · exact w_c28
  · exact w_c29
  · exact w_c30
  · exact w_c31
  · exact w_c32
  · exact w_c33
  · exact w_c34
set_option maxRecDepth 65536 in
theorem w_t1 : (words1.take 24).all (fun c => isCode c || c.before args0 about1) = true := by decide +kernel
set_option maxRecDepth 65536 in
theorem w_t2 : ((words1.drop 24).take 24).all (fun c => isCode c || c.before args0 about1) = true := by decide +kernel
set_option maxRecDepth 65536 in
theorem w_t3 : (((words1.drop 24).drop 24).take 24).all (fun c => isCode c || c.before args0 about1) = true := by decide +kernel
set_option maxRecDepth 65536 in
theorem w_t4 : ((((words1.drop 24).drop 24).drop 24).take 24).all (fun c => isCode c || c.before args0 about1) = true := by decide +kernel
set_option maxRecDepth 65536 in
theorem w_t5 : (((((words1.drop 24).drop 24).drop 24).drop 24).take 24).all (fun c => isCode c || c.before args0 about1) = true := by decide +kernel
set_option maxRecDepth 65536 in
theorem w_t6 : ((((((words1.drop 24).drop 24).drop 24).drop 24).drop 24).take 24).all (fun c => isCode c || c.before args0 about1) = true := by decide +kernel
set_option maxRecDepth 65536 in
theorem w_t7 : (((((((words1.drop 24).drop 24).drop 24).drop 24).drop 24).drop 24).take 24).all (fun c => isCode c || c.before args0 about1) = true := by decide +kernel
set_option maxRecDepth 65536 in
theorem w_t8 : ((((((((words1.drop 24).drop 24).drop 24).drop 24).drop 24).drop 24).drop 24).take 24).all (fun c => isCode c || c.before args0 about1) = true := by decide +kernel
set_option maxRecDepth 65536 in
theorem w_t9 : ((((((((words1.drop 24).drop 24).drop 24).drop 24).drop 24).drop 24).drop 24).drop 24).all (fun c => isCode c || c.before args0 about1) = true := by decide +kernel
theorem w_tables : (allAtoms (Jvm.Cond.code x code maxLocals ret :: tables_1)).before args0 about1 = true := by
  rw [allAtoms_all]
  show words1.all (fun c => c.before args0 about1) = true
  refine all_split ?_ w_codes
  rw [← List.take_append_drop 24 words1, List.all_append, w_t1, ← List.take_append_drop 24 (words1.drop 24), List.all_append, w_t2, ← List.take_append_drop 24 ((words1.drop 24).drop 24), List.all_append, w_t3, ← List.take_append_drop 24 (((words1.drop 24).drop 24).drop 24), List.all_append, w_t4, ← List.take_append_drop 24 ((((words1.drop 24).drop 24).drop 24).drop 24), List.all_append, w_t5, ← List.take_append_drop 24 (((((words1.drop 24).drop 24).drop 24).drop 24).drop 24), List.all_append, w_t6, ← List.take_append_drop 24 ((((((words1.drop 24).drop 24).drop 24).drop 24).drop 24).drop 24), List.all_append, w_t7, ← List.take_append_drop 24 (((((((words1.drop 24).drop 24).drop 24).drop 24).drop 24).drop 24).drop 24), List.all_append, w_t8, w_t9]
  rfl
set_option maxRecDepth 65536 in
theorem w_rest : rest_1_c.before args0 about1 = true := by decide +kernel
set_option maxRecDepth 65536 in
theorem w_case : (Jvm.Cond.and given_1 narrow_1).before args0 about1 = true := by decide +kernel
set_option maxRecDepth 65536 in
theorem w_consts : constsHeld consts_1 about1 := Jvm.Lit.constsHeldB_iff.mp (by decide +kernel)
theorem w_applies : (headSpec (Jvm.Cond.code x code maxLocals ret :: tables_1) room_1).applies x e0.platform about1 = true :=
  (Spec.applies_iff w_frames).mpr ⟨w_running, w_runnable, w_alone, w_named, w_hears, w_ripe, w_room, w_tables⟩
theorem atStart : AtStart classFile x code maxLocals ret World_1 tables_1 room_1 Calls_1 rest_1 Pre_1 launch0 p0 e0 about1 theMethod args0 below0 :=
  ⟨lists_1, trivial, launch0.admits_env _ _ _, launch0.least_env, fairChoices_fair.cas, fairChoices_fair.clock, w_frames, w_args, w_heap, w_applies, ⟨w_consts, trivial⟩, w_rest, w_case⟩
end start1
theorem witness_1 : WitnessClaimed_1 := ⟨start1.p0, start1.e0, start1.about1, start1.theMethod, start1.args0, start1.below0, start1.atStart⟩
end Jvm.Pilot.@@N@@
