import JvmDerived
import JvmDerived.Pilot.@@N@@Statement
import JvmDerived.Pilot.@@N@@Code
set_option linter.unusedVariables false
set_option linter.unusedSimpArgs false
set_option maxRecDepth 65536
set_option maxHeartbeats 40000000
namespace Jvm.RoadKit
open Sem ClassFile Op Lib Jvm.Stand Jvm.Free Jvm.LawKit
section New
variable {p : Program} {l : Launch} {e : Env} {R : Room} {s : State} {m : MethodId} {args : Array Value} {below : List Frame} {meth : Method} {c : Code} {T : State} {locs : List Loc} {cells slots : Nat}
theorem retI (X : Stand p l e R s m args below meth c T locs cells slots) (hx : p.tables.exec = Jvm.exec) {pc : Nat} {Ls : Array Slot} {z : Int32} {rest : List Value} (hret : meth.sig.returnType = some .int) (hd : decode c.code pc = .ok (.ireturn, 1)) {fs : List Frame}
    (hl : ∀ (f : JFrame) (acts : List Action), f.method = m → f.locked = none → f.entered = [] → (doReturn e (T.setTop f) acts (some (.int z))).1 = T.setFrames fs) : Steps p.tables e below (T.setTop (mkF m pc Ls (.int z :: rest))) (T.setFrames fs) := by
  have hm' : T.vm.method? m = some meth := X.method'
  have hn : narrow .int (.int z) = .int z := rfl
  show Steps p.tables e below (T.setTop { method := m, pc := pc, locals := Ls, stack := _ :: rest, locked := none }) _
  jvm_step X.here [X.here.top, hx, hd, hm', hret, hn]
  first | (intro acts; rw [hl _ acts rfl rfl rfl]) | rw [hl _ _ rfl rfl rfl]
  exact Steps.refl _
end New
/-- a body's contract, written short -/
abbrev OwnMet (l : Launch) (Z : State) (y : MethodName) (bytes : ByteArray) (maxL : Nat) (ret : Option FieldType) (ws : List Cond) (rm : Room) (as' : Array Value) (h0 : Heap) (Q : Option Value → Heap → List Loc → Prop) : Prop :=
  MetFree l y (head1 (Cond.code y bytes maxL ret :: ws) rm) (fun a U => a = as' ∧ Z.Warmed39 U.vm ∧ U.heap = h0) (fun _ _ _ _ _ => True) (fun _ U o U' => ∃ v L, o = .returned v ∧ Q v U'.heap L ∧ FrameEnd U o U' L rm.cells rm.slots)
theorem own_body {l : Launch} {Z : State} {y : MethodName} {bytes : ByteArray} {maxL : Nat} {ret : Option FieldType} {ws : List Cond} {rm : Room} {as' : Array Value} {h0 : Heap} {Q : Option Value → Heap → List Loc → Prop} {L0 : Array Slot} (hp : plainFor y = true) (hef : ∀ m, entryFrame m as' maxL = mkF m 0 L0 [])
    (k : ∀ (p : Program) (e : Env) (s : State) (m : MethodId) (below : List Frame) (meth : Method) (c : Code) (s₁ : State), p.tables.exec = Jvm.exec → c.code = bytes → c.maxLocals = maxL → s.vm.findClass y.cls = some m.cls → meth.name = y.name → meth.sig.returnType = ret → Z.Warmed39 s.vm → Stand p l e rm s m as' below meth c s₁ [] 0 0 → s₁.heap = h0 →
      ∃ (T : State) (L : List Loc) (ce sl : Nat) (v : Option Value), Stand p l e rm s m as' below meth c T L ce sl ∧ (ret = none → v = none) ∧ ce ≤ rm.cells ∧ sl ≤ rm.slots ∧ Q v T.heap L ∧
        ∀ fs, (∀ (f : JFrame) (acts : List Action), f.method = m → f.locked = none → f.entered = [] → (doReturn e (T.setTop f) acts v).1 = T.setFrames fs) → Steps p.tables e below (s₁.setTop (mkF m 0 L0 [])) (T.setFrames fs)) :
    OwnMet l Z y bytes maxL ret ws rm as' h0 Q := by
  refine MetFree.of_bodySF hp hisR ?_
  intro p e s m args below meth c s₁ Bd hml hP hK
  obtain ⟨hargs, hZ, hh⟩ := hP
  subst hargs
  obtain ⟨T, L, ce, sl, v, X, hv, hc, hs, hq, st⟩ := k p e s m below meth c s₁ Bd.exec Bd.bytes hml (findClass_of_methodNamed Bd.named) (name_of_methodNamed Bd.named Bd.method).1 Bd.returns hZ (Stand.of_body Bd) (by rw [← hh, Bd.state]; rfl)
  obtain ⟨fs, hr, hrun, hended, hW, hsame⟩ := X.leave (v := v) (fun h => hv (Bd.returns ▸ h))
  exact ⟨_, _, castTop (hef m) (st fs hr), hrun, hended, v, L, rfl, hq, ⟨_, rfl⟩, hW, hsame.mono hc hs⟩
abbrev OwnMetW (l : Launch) (Z : State) (y : MethodName) (bytes : ByteArray) (maxL : Nat) (ret : Option FieldType) (ws : List Cond) (rm : Room) (as' : Array Value) (h0 : Heap) (Q : Option Value → Heap → List Loc → Prop) : Prop :=
  MetFree l y (head1 (Cond.code y bytes maxL ret :: ws) rm) (fun a U => a = as' ∧ Z.Warmed39 U.vm ∧ U.heap = h0 ∧ IB Z U.vm []) (fun _ _ _ _ _ => True) (fun _ U o U' => ∃ v L, o = .returned v ∧ Q v U'.heap L ∧ ReturnedEndW U o U' L rm.cells rm.slots)
theorem own_since (s : State) : s.Since s.vm s.heap.size := (State.WarmedH.refl s).since _
theorem own_wide {l : Launch} {Z : State} {y : MethodName} {bytes : ByteArray} {maxL : Nat} {ret : Option FieldType} {ws : List Cond} {rm : Room} {as' : Array Value} {h0 : Heap} {Q : Option Value → Heap → List Loc → Prop} (h : OwnMet l Z y bytes maxL ret ws rm as' h0 Q) : OwnMetW l Z y bytes maxL ret ws rm as' h0 Q :=
  MetFree.mono h (fun _ _ hp => ⟨hp.1, hp.2.1, hp.2.2.1⟩) (fun _ _ _ _ _ hk => hk) (fun _ _ _ _ _ ⟨v, L, h1, h2, h3⟩ => ⟨v, L, h1, h2, ReturnedEndW.of_narrow h3.1 h3.2.1 h3.2.2⟩)
theorem own_bodyW {l : Launch} {Z : State} {y : MethodName} {bytes : ByteArray} {maxL : Nat} {ret : Option FieldType} {ws : List Cond} {rm : Room} {as' : Array Value} {h0 : Heap} {Q : Option Value → Heap → List Loc → Prop} {L0 : Array Slot} (hp : plainFor y = true) (hef : ∀ m, entryFrame m as' maxL = mkF m 0 L0 [])
    (k : ∀ (p : Program) (e : Env) (s : State) (m : MethodId) (below : List Frame) (meth : Method) (c : Code) (s₁ : State), p.tables.exec = Jvm.exec → c.code = bytes → c.maxLocals = maxL → s.vm.findClass y.cls = some m.cls → meth.name = y.name → meth.sig.returnType = ret → Z.Warmed39 s.vm → s.heap = h0 → IB Z s.vm [] → Stand p l e rm s m as' below meth c s₁ [] 0 0 → s₁.heap = h0 →
      ∃ (T : State) (L : List Loc) (ce sl : Nat) (v : Option Value) (vm1 : Vm) (n : Nat), Stand p l e rm (s.setVm vm1) m as' below meth c T L ce sl ∧ s.Since vm1 n ∧ n ≤ T.heap.size ∧ (ret = none → v = none) ∧ ce ≤ rm.cells ∧ sl ≤ rm.slots ∧ Q v T.heap L ∧
        ∀ fs, (∀ (f : JFrame) (acts : List Action), f.method = m → f.locked = none → f.entered = [] → (doReturn e (T.setTop f) acts v).1 = T.setFrames fs) → Steps p.tables e below (s₁.setTop (mkF m 0 L0 [])) (T.setFrames fs)) :
    OwnMetW l Z y bytes maxL ret ws rm as' h0 Q := by
  refine MetFree.of_bodySF hp hisR ?_
  intro p e s m args below meth c s₁ Bd hml hP hK
  obtain ⟨hargs, hZ, hh, hI⟩ := hP
  subst hargs
  obtain ⟨T, L, ce, sl, v, vm1, n, X, hS, hn, hv, hc, hs, hq, st⟩ := k p e s m below meth c s₁ Bd.exec Bd.bytes hml (findClass_of_methodNamed Bd.named) (name_of_methodNamed Bd.named Bd.method).1 Bd.returns hZ hh hI (Stand.of_body Bd) (by rw [← hh, Bd.state]; rfl)
  obtain ⟨fs, hr, hrun, hended, hR⟩ := X.leaveW hS hn (v := v) (fun h => hv (Bd.returns ▸ h))
  exact ⟨_, _, castTop (hef m) (st fs hr), hrun, hended, v, L, rfl, hq, hR.1, hR.2.1, hR.2.2.1, hR.2.2.2.mono hc hs⟩
theorem own_mvNest {Z s : State} {a0 args : Array Value} {own host : String} {index : Nat} {y : MethodName} (hZ : Z.Warmed39 s.vm) (w : (Cond.methodLinkNest own index y host).before a0 Z = true) : (Cond.methodLinkNest own index y host).before args s = true := (Cond.methodLinkNest_wide hZ w :)
section Calls
variable {p : Program} {l : Launch} {e : Env} {R : Room} {s : State} {m : MethodId} {args : Array Value} {below : List Frame} {meth : Method} {c : Code} {T : State} {locs : List Loc} {cells slots : Nat} {Z : State} {a0 : Array Value} {h : Heap}
  {own : String} {index : Nat} {y z : MethodName} {bytes : ByteArray} {maxL : Nat} {ret : Option FieldType} {rm : Room} {as' : Array Value} {Q : Option Value → Heap → List Loc → Prop} {pc : Nat} {Ls : Array Slot} {argsL rest : List Value} {W : Nat}
/-- what a call leaves -/
abbrev OwnCame (p : Program) (l : Launch) (e : Env) (R : Room) (s : State) (m : MethodId) (args : Array Value) (below : List Frame) (meth : Method) (c : Code) (T : State) (locs : List Loc) (cells slots : Nat) (rm : Room) (Q : Option Value → Heap → List Loc → Prop) (pc pc' : Nat) (Ls : Array Slot) (st rest : List Value) : Prop :=
  ∃ (v : Option Value) (T' : State) (L : List Loc), Stand p l e R s m args below meth c T' (locs ++ L) (cells + rm.cells) (slots + rm.slots) ∧ Q v T'.heap L ∧
    ∀ target, Steps p.tables e below (T'.setTop (mkF m pc' Ls (v.toList ++ rest))) target → Steps p.tables e below (T.setTop (mkF m pc Ls st)) target
theorem own_callS (X : Stand p l e R s m args below meth c T locs cells slots) (hx : p.tables.exec = Jvm.exec) (hZ : Z.Warmed39 s.vm) (hown : s.vm.findClass own = some m.cls)
    (w1 : (Cond.methodLink own index y).before a0 Z = true) (w2 : (Cond.static y).before a0 Z = true) (w3 : (Cond.initialized y.cls).before a0 Z = true) (w4 : (Cond.code y bytes maxL ret).before a0 Z = true)
    (hM : OwnMet l Z y bytes maxL ret [] rm as' h Q) (eT : T.heap = h) (hsize : Ls.size = c.maxLocals) (hlen : ∀ sig, parseMethodDescriptor y.desc = some sig → argsL.length = sig.parameters.length) (hd : decode c.code pc = .ok (.invokestatic index, 3))
    (has : argsL.toArray = as' := by rfl) (hW : (rest.map fun v => v.category).sum ≤ W := by exact Nat.le_of_eq rfl) (hf : rm.frames + 1 ≤ R.frames := by decide) (hl : W + (maxL + 11) + rm.locals ≤ R.locals := by decide) (hc : cells + rm.cells ≤ R.cells := by decide) (hs : slots + rm.slots ≤ R.slots := by decide) (hy : y.cls ≠ "java/lang/invoke/MethodHandle" ∧ y.cls ≠ "java/lang/invoke/VarHandle" := by decide) :
    OwnCame p l e R s m args below meth c T locs cells slots rm Q pc (pc + 3) Ls (argsL.reverse ++ rest) rest := by
  obtain ⟨v, vm1, ⟨T', L', c', n'⟩, -, XB, ⟨L, hQ, l1, y1, z1⟩, st⟩ := Jvm.LawKit.callS X hx (y := y) hown (mvT hZ w1) (mvT hZ w2) (mvT hZ w3) (mvT hZ w4) hy (backOf (W := W) hM hZ w4 w3 hf hl) (g := mkF m pc Ls (argsL.reverse ++ rest)) rfl hsize (argsL := argsL) (rest := rest) hlen rfl (by show 2 * 0 + _ ≤ _; omega) hd (fun _ _ => ⟨has, eT, hc, hs⟩)
  dsimp only at XB l1 y1 z1 st hQ
  subst l1 y1 z1
  exact ⟨v, T', L, XB, hQ, st⟩
theorem own_special (X : Stand p l e R s m args below meth c T locs cells slots) (hx : p.tables.exec = Jvm.exec) (hZ : Z.Warmed39 s.vm) (hown : s.vm.findClass own = some m.cls) {a : Addr}
    (w1 : (Cond.methodLink own index y).before a0 Z = true) (w2 : (Cond.instanceMethod y).before a0 Z = true) (w3 : (Cond.initialized y.cls).before a0 Z = true) (w4 : (Cond.code y bytes maxL none).before a0 Z = true)
    (hM : OwnMet l Z y bytes maxL none [] rm as' h Q) (eT : T.heap = h) (hsize : Ls.size = c.maxLocals) (hlen : ∀ sig, parseMethodDescriptor y.desc = some sig → argsL.length = sig.parameters.length) (hd : decode c.code pc = .ok (.invokespecial index, 3))
    (has : (.ref a :: argsL).toArray = as' := by rfl) (hW : (rest.map fun v => v.category).sum ≤ W := by exact Nat.le_of_eq rfl) (hf : rm.frames + 1 ≤ R.frames := by decide) (hl : W + (maxL + 11) + rm.locals ≤ R.locals := by decide) (hc : cells + rm.cells ≤ R.cells := by decide) (hs : slots + rm.slots ≤ R.slots := by decide) (hy : y.cls ≠ "java/lang/invoke/MethodHandle" ∧ y.cls ≠ "java/lang/invoke/VarHandle" := by decide) (hy1 : y.name = "<init>" := by rfl) :
    OwnCame p l e R s m args below meth c T locs cells slots rm Q pc (pc + 3) Ls (argsL.reverse ++ .ref a :: rest) rest := by
  obtain ⟨v, vm1, ⟨T', L', c', n'⟩, -, XB, ⟨L, hQ, l1, y1, z1⟩, st⟩ := X.specialBack hx (y := y) hy1 hown (mvT hZ w1) (mvT hZ w2) (mvT hZ w4) hy (backOf (W := W) hM hZ w4 w3 hf hl) (g := mkF m pc Ls (argsL.reverse ++ .ref a :: rest)) rfl hsize (Steps.refl _) (a := a) (argsL := argsL) (rest := rest) hlen rfl (by show 2 * 0 + _ ≤ _; omega) hd (fun _ _ => ⟨has, eT, hc, hs⟩)
  dsimp only at XB l1 y1 z1 st hQ
  subst l1 y1 z1
  exact ⟨v, T', L, XB, hQ, fun t k => st.trans k⟩
theorem own_virtual (X : Stand p l e R s m args below meth c T locs cells slots) (hx : p.tables.exec = Jvm.exec) (hZ : Z.Warmed39 s.vm) (hown : s.vm.findClass own = some m.cls) {a : Addr} {C : String} (E : Exa Z h a C)
    (w1 : (Cond.methodLink own index y).before a0 Z = true) (w2 : (Cond.declares y).before a0 Z = true) (nf : NotFace s y) (w5 : (Cond.selects C y z).before a0 Z = true) (w6 : (Cond.instanceMethod z).before a0 Z = true) (w3 : (Cond.initialized z.cls).before a0 Z = true) (w4 : (Cond.code z bytes maxL ret).before a0 Z = true)
    (hM : OwnMet l Z z bytes maxL ret [] rm as' h Q) (eT : T.heap = h) (hsize : Ls.size = c.maxLocals) (hlen : ∀ sig, parseMethodDescriptor y.desc = some sig → argsL.length = sig.parameters.length) (hd : decode c.code pc = .ok (.invokevirtual index, 3))
    (has : (.ref a :: argsL).toArray = as' := by rfl) (hW : (rest.map fun v => v.category).sum ≤ W := by exact Nat.le_of_eq rfl) (hf : rm.frames + 1 ≤ R.frames := by decide) (hl : W + (maxL + 11) + rm.locals ≤ R.locals := by decide) (hc : cells + rm.cells ≤ R.cells := by decide) (hs : slots + rm.slots ≤ R.slots := by decide) (hy : y.cls ≠ "java/lang/invoke/MethodHandle" ∧ y.cls ≠ "java/lang/invoke/VarHandle" := by decide) :
    OwnCame p l e R s m args below meth c T locs cells slots rm Q pc (pc + 3) Ls (argsL.reverse ++ .ref a :: rest) rest := by
  obtain ⟨cB, kB, i1, -, i3⟩ := isOf hZ eT E
  obtain ⟨v, vm1, ⟨T', L', c', n'⟩, -, XB, ⟨L, hQ, l1, y1, z1⟩, st⟩ := X.virtualBack hx (y := y) (z := z) hown (mvT hZ w1) (mvT hZ w2) nf (mvT hZ w5) (mvT hZ w6) hy (backOf (W := W) hM hZ w4 w3 hf hl) i1 i3 (g := mkF m pc Ls (argsL.reverse ++ .ref a :: rest)) rfl hsize (Steps.refl _) (argsL := argsL) (rest := rest) hlen rfl (by show 2 * 0 + _ ≤ _; omega) hd (fun _ _ => ⟨has, eT, hc, hs⟩)
  dsimp only at XB l1 y1 z1 st hQ
  subst l1 y1 z1
  exact ⟨v, T', L, XB, hQ, fun t k => st.trans k⟩
theorem own_virtualUp (X : Stand p l e R s m args below meth c T locs cells slots) (hx : p.tables.exec = Jvm.exec) (hZ : Z.Warmed39 s.vm) (hown : s.vm.findClass own = some m.cls) {a : Addr} {C owner : String} (E : Exa Z h a C)
    (w1 : (Cond.methodLink own index y).before a0 Z = true) (w7 : (Cond.sameMethod y.cls owner y.name y.desc).before a0 Z = true) (w2 : (Cond.declares ⟨owner, y.name, y.desc⟩).before a0 Z = true) (w5 : (Cond.selects C y z).before a0 Z = true) (w6 : (Cond.instanceMethod z).before a0 Z = true) (w3 : (Cond.initialized z.cls).before a0 Z = true) (w4 : (Cond.code z bytes maxL ret).before a0 Z = true)
    (hM : OwnMet l Z z bytes maxL ret [] rm as' h Q) (eT : T.heap = h) (hsize : Ls.size = c.maxLocals) (hlen : ∀ sig, parseMethodDescriptor y.desc = some sig → argsL.length = sig.parameters.length) (hd : decode c.code pc = .ok (.invokevirtual index, 3))
    (has : (.ref a :: argsL).toArray = as' := by rfl) (hW : (rest.map fun v => v.category).sum ≤ W := by exact Nat.le_of_eq rfl) (hf : rm.frames + 1 ≤ R.frames := by decide) (hl : W + (maxL + 11) + rm.locals ≤ R.locals := by decide) (hc : cells + rm.cells ≤ R.cells := by decide) (hs : slots + rm.slots ≤ R.slots := by decide) (hy : owner ≠ "java/lang/invoke/MethodHandle" ∧ owner ≠ "java/lang/invoke/VarHandle" := by decide) :
    OwnCame p l e R s m args below meth c T locs cells slots rm Q pc (pc + 3) Ls (argsL.reverse ++ .ref a :: rest) rest := by
  obtain ⟨cB, kB, i1, -, i3⟩ := isOf hZ eT E
  obtain ⟨v, vm1, ⟨T', L', c', n'⟩, -, XB, ⟨L, hQ, l1, y1, z1⟩, st⟩ := X.virtualBackUp hx (x := y) (y := z) (owner := owner) hown (mvT hZ w1) (mvT hZ w7) (mvT hZ w2) hy (mvT hZ w5) (mvT hZ w6) (backOf (W := W) hM hZ w4 w3 hf hl) i1 i3 (g := mkF m pc Ls (argsL.reverse ++ .ref a :: rest)) rfl hsize (Steps.refl _) (argsL := argsL) (rest := rest) hlen rfl (by show 2 * 0 + _ ≤ _; omega) hd (fun _ _ => ⟨has, eT, hc, hs⟩)
  dsimp only at XB l1 y1 z1 st hQ
  subst l1 y1 z1
  exact ⟨v, T', L, XB, hQ, fun t k => st.trans k⟩
theorem own_private (X : Stand p l e R s m args below meth c T locs cells slots) (hx : p.tables.exec = Jvm.exec) (hZ : Z.Warmed39 s.vm) (hown : s.vm.findClass own = some m.cls) {a : Addr} {C : String} (E : Exa Z h a C)
    (w1 : (Cond.methodLink own index y).before a0 Z = true) (w2 : (Cond.instanceMethod y).before a0 Z = true) (w5 : (Cond.selects y.cls y y).before args s = true) (w6 : (Cond.privateMethod y).before a0 Z = true) (w3 : (Cond.initialized y.cls).before a0 Z = true) (w4 : (Cond.code y bytes maxL ret).before a0 Z = true)
    (hM : OwnMet l Z y bytes maxL ret [] rm as' h Q) (eT : T.heap = h) (hsize : Ls.size = c.maxLocals) (hlen : ∀ sig, parseMethodDescriptor y.desc = some sig → argsL.length = sig.parameters.length) (hd : decode c.code pc = .ok (.invokevirtual index, 3))
    (has : (.ref a :: argsL).toArray = as' := by rfl) (hW : (rest.map fun v => v.category).sum ≤ W := by exact Nat.le_of_eq rfl) (hf : rm.frames + 1 ≤ R.frames := by decide) (hl : W + (maxL + 11) + rm.locals ≤ R.locals := by decide) (hc : cells + rm.cells ≤ R.cells := by decide) (hs : slots + rm.slots ≤ R.slots := by decide) (hy : y.cls ≠ "java/lang/invoke/MethodHandle" ∧ y.cls ≠ "java/lang/invoke/VarHandle" := by decide) :
    OwnCame p l e R s m args below meth c T locs cells slots rm Q pc (pc + 3) Ls (argsL.reverse ++ .ref a :: rest) rest := by
  obtain ⟨cq, q1, q2⟩ := E.cell
  obtain ⟨v, vm1, ⟨T', L', c', n'⟩, -, XB, ⟨L, hQ, l1, y1, z1⟩, st⟩ := X.privateBack hx (y := y) hown (mvT hZ w1) (mvT hZ w2) w5 (Cond.privateMethod_at (mvP hZ w6 (args := #[]))) (mvT hZ w4) hy (backOf (W := W) hM hZ w4 w3 hf hl) (g := mkF m pc Ls (argsL.reverse ++ .ref a :: rest)) rfl hsize (Steps.refl _) (a := a) (by rw [eT]; exact q1) q2 (argsL := argsL) (rest := rest) hlen rfl (by show 2 * 0 + _ ≤ _; omega) hd (fun _ _ => ⟨has, eT, hc, hs⟩)
  dsimp only at XB l1 y1 z1 st hQ
  subst l1 y1 z1
  exact ⟨v, T', L, XB, hQ, fun t k => st.trans k⟩
theorem own_iface (X : Stand p l e R s m args below meth c T locs cells slots) (hx : p.tables.exec = Jvm.exec) (hZ : Z.Warmed39 s.vm) (hown : s.vm.findClass own = some m.cls) {a : Addr} {C : String} {count : Nat} (E : Exa Z h a C)
    (w1 : (Cond.methodLink own index y).before a0 Z = true) (w2 : (Cond.declares y).before a0 Z = true) (w7 : (Cond.interfaceMethod y.cls y.cls y.name y.desc).before a0 Z = true) (w5 : (Cond.selects C y z).before a0 Z = true) (w6 : (Cond.instanceMethod z).before a0 Z = true) (w8 : (Cond.publicMethod z).before a0 Z = true) (w9 : (Cond.unhidden C y.name y.desc).before a0 Z = true) (wc : (Cond.castable C y.cls).before a0 Z = true) (w3 : (Cond.initialized z.cls).before a0 Z = true) (w4 : (Cond.code z bytes maxL ret).before a0 Z = true)
    (hM : OwnMet l Z z bytes maxL ret [] rm as' h Q) (eT : T.heap = h) (hsize : Ls.size = c.maxLocals) (hlen : ∀ sig, parseMethodDescriptor y.desc = some sig → argsL.length = sig.parameters.length) (hd : decode c.code pc = .ok (.invokeinterface index count, 5))
    (has : (.ref a :: argsL).toArray = as' := by rfl) (hW : (rest.map fun v => v.category).sum ≤ W := by exact Nat.le_of_eq rfl) (hf : rm.frames + 1 ≤ R.frames := by decide) (hl : W + (maxL + 11) + rm.locals ≤ R.locals := by decide) (hc : cells + rm.cells ≤ R.cells := by decide) (hs : slots + rm.slots ≤ R.slots := by decide) (hy : y.cls ≠ "java/lang/invoke/MethodHandle" ∧ y.cls ≠ "java/lang/invoke/VarHandle" := by decide) :
    OwnCame p l e R s m args below meth c T locs cells slots rm Q pc (pc + 5) Ls (argsL.reverse ++ .ref a :: rest) rest := by
  obtain ⟨cB, kB, i1, i2, i3⟩ := isOf hZ eT E
  obtain ⟨v, vm1, ⟨T', L', c', n'⟩, -, XB, ⟨L, hQ, l1, y1, z1⟩, st⟩ := X.interfaceBack hx (xi := y) (y := z) hown (mvT hZ w1) (mvT hZ w2) (mvT hZ w7 (by simp [Cond.onTables, Cond.keepsFace, Cond.keeps, Cond.steady, Cond.faceAtom, hy.1, hy.2])) (mvT hZ w5) (mvT hZ w6) (mvT hZ w8) (mvT hZ w9) (mvT hZ wc) hy (backOf (W := W) hM hZ w4 w3 hf hl) i1 i2 i3 (g := mkF m pc Ls (argsL.reverse ++ .ref a :: rest)) rfl hsize (Steps.refl _) (argsL := argsL) (rest := rest) hlen rfl (by show 2 * 0 + _ ≤ _; omega) hd (fun _ _ => ⟨has, eT, hc, hs⟩)
  dsimp only at XB l1 y1 z1 st hQ
  subst l1 y1 z1
  exact ⟨v, T', L, XB, hQ, fun t k => st.trans k⟩
theorem own_specialNest (X : Stand p l e R s m args below meth c T locs cells slots) (hx : p.tables.exec = Jvm.exec) (hZ : Z.Warmed39 s.vm) (hown : s.vm.findClass own = some m.cls) {a : Addr} {host : String}
    (w1 : (Cond.methodLinkNest own index y host).before args s = true) (w2 : (Cond.instanceMethod y).before a0 Z = true) (w3 : (Cond.initialized y.cls).before a0 Z = true) (w4 : (Cond.code y bytes maxL none).before a0 Z = true)
    (hM : OwnMet l Z y bytes maxL none [] rm as' h Q) (eT : T.heap = h) (hsize : Ls.size = c.maxLocals) (hlen : ∀ sig, parseMethodDescriptor y.desc = some sig → argsL.length = sig.parameters.length) (hd : decode c.code pc = .ok (.invokespecial index, 3))
    (has : (.ref a :: argsL).toArray = as' := by rfl) (hW : (rest.map fun v => v.category).sum ≤ W := by exact Nat.le_of_eq rfl) (hf : rm.frames + 1 ≤ R.frames := by decide) (hl : W + (maxL + 11) + rm.locals ≤ R.locals := by decide) (hc : cells + rm.cells ≤ R.cells := by decide) (hs : slots + rm.slots ≤ R.slots := by decide) (hy : y.cls ≠ "java/lang/invoke/MethodHandle" ∧ y.cls ≠ "java/lang/invoke/VarHandle" := by decide) (hy1 : y.name = "<init>" := by rfl) :
    OwnCame p l e R s m args below meth c T locs cells slots rm Q pc (pc + 3) Ls (argsL.reverse ++ .ref a :: rest) rest := by
  obtain ⟨v, vm1, ⟨T', L', c', n'⟩, -, XB, ⟨L, hQ, l1, y1, z1⟩, st⟩ := X.specialBackNest hx (y := y) hy1 hown w1 (mvT hZ w2) (mvT hZ w4) hy (backOf (W := W) hM hZ w4 w3 hf hl) (g := mkF m pc Ls (argsL.reverse ++ .ref a :: rest)) rfl hsize (Steps.refl _) (a := a) (argsL := argsL) (rest := rest) hlen rfl (by show 2 * 0 + _ ≤ _; omega) hd (fun _ _ => ⟨has, eT, hc, hs⟩)
  dsimp only at XB l1 y1 z1 st hQ
  subst l1 y1 z1
  exact ⟨v, T', L, XB, hQ, fun t k => st.trans k⟩
end Calls
theorem own_narR {v : Value} (h : v.isRef = true) {t : FieldType} (ht : t.isReference = true := by rfl) : narrow t v = v := by
  rcases ref_cases h with rfl | ⟨a, rfl⟩ <;> cases t <;> first | rfl | cases ht
theorem own_fitR {v : Value} (h : v.isRef = true) {t : FieldType} (ht : t.isReference = true := by rfl) : fits t v = true := by
  rcases ref_cases h with rfl | ⟨a, rfl⟩ <;> cases t <;> first | rfl | cases ht
theorem own_catR {v : Value} (h : v.isRef = true) : v.category = 1 := by rcases ref_cases h with rfl | ⟨a, rfl⟩ <;> rfl
theorem own_arv_of_arh {Z : State} {h : Heap} {a : Addr} {k : ClassId} {ty : FieldType} {z : Int32} {vs : List Value} {dv : Value} (F : Arh Z h a k ty z [] vs dv) : Arv Z h a k ty z vs dv := by
  obtain ⟨c, A, q, S, N, H, G⟩ := F
  exact ⟨c, A, q, S, N, H, G⟩
theorem own_getD_all (j : Nat) (d : Value) : ∀ n, (List.replicate n d).getD j d = d := by
  intro n
  simp only [List.getD_eq_getElem?_getD, List.getElem?_replicate]
  split <;> rfl
theorem own_c_nar_char (x : Int32) : ((nar .char x).toInt - x.toInt) % 65536 = 0 ∧ 0 ≤ (nar .char x).toInt ∧ (nar .char x).toInt < 65536 := c_i2c x
theorem own_c_nar_byte (x : Int32) : ((nar .byte x).toInt - x.toInt) % 256 = 0 ∧ -128 ≤ (nar .byte x).toInt ∧ (nar .byte x).toInt < 128 := c_i2b x
theorem own_mask (x m : Int32) (k : Nat) (hk : k ≤ 31) (hm : m.toBitVec.toNat = 2 ^ k - 1) (P : Int) (hP : ((2 ^ k : Nat) : Int) = P) : (x &&& m).toInt = x.toInt % P := by rw [← hP]; exact c_mask x m k hk hm
theorem own_maskL (x m : Int64) (k : Nat) (hk : k ≤ 63) (hm : m.toBitVec.toNat = 2 ^ k - 1) (P : Int) (hP : ((2 ^ k : Nat) : Int) = P) : (x &&& m).toInt = x.toInt % P := by rw [← hP]; exact c_maskL x m k hk hm
theorem own_ushr (x q : Int32) (k : Nat) (hk : q.toBitVec.toNat % 32 = k) (h0 : 0 < k) (P : Int) (hP : ((2 ^ k : Nat) : Int) = P) : ((x.toUInt32 >>> (q &&& 31).toUInt32).toInt32).toInt = (x.toInt % 4294967296) / P := by rw [← hP]; exact c_iushr x q k hk h0
theorem own_shr (x q : Int32) (k : Nat) (hk : q.toBitVec.toNat % 32 = k) (P : Int) (hP : ((2 ^ k : Nat) : Int) = P) : (x >>> (q &&& 31)).toInt = x.toInt / P := by rw [← hP]; exact c_ishr x q k hk
theorem own_irem_eq (x y : Int32) : x - (x / y) * y = x % y := by
  have h : (x - (x / y) * y).toInt = (x % y).toInt := by
    rw [Int32.toInt_sub, Int32.toInt_mul, Int32.toInt_mod, Int32.toInt_div, Int.bmod_mul_bmod, Int.sub_bmod_bmod]
    have hx := x.le_toInt; have hx' := x.toInt_lt
    have e : x.toInt - x.toInt.tdiv y.toInt * y.toInt = x.toInt.tmod y.toInt := by rw [Int.tmod_def, Int.mul_comm]
    rw [e]
    have h4 : (x.toInt.tmod y.toInt) ≤ 2147483647 := by
      by_cases hp : 0 ≤ x.toInt
      · have := Int.natAbs_tmod x.toInt y.toInt; have := Nat.mod_le x.toInt.natAbs y.toInt.natAbs; omega
      · have := Int.tmod_nonneg (a := -x.toInt) y.toInt (by omega); rw [Int.neg_tmod] at this; omega
    have h5 : -2147483648 ≤ (x.toInt.tmod y.toInt) := by
      have := Int.natAbs_tmod x.toInt y.toInt; have := Nat.mod_le x.toInt.natAbs y.toInt.natAbs; omega
    exact Int.bmod_eq_of_le (by omega) (by omega)
  exact Int32.toInt_inj.mp h
theorem own_irem (x y : Int32) (d : Int) (hy : y.toInt = d) : (0 ≤ x.toInt → (x - (x / y) * y).toInt = x.toInt % d) ∧ (x.toInt < 0 → (x - (x / y) * y).toInt = -((-x.toInt) % d)) := by rw [own_irem_eq]; exact c_irem x y d hy
end Jvm.RoadKit
namespace Jvm.Pilot.@@N@@
open Jvm Jvm.ClassFile Sem Op Lib Jvm.Free Jvm.Stand Jvm.LawKit Jvm.RoadKit Bundle Jvm.Pilot.@@N@@.Jvm.D
def Q0 (n0 : Nat) (v : Option Value) (h : Heap) (L : List Loc) : Prop := v = some (.int 1) ∧ Fr n0 L
theorem own_eqI {args : Array Value} {first s : State} {o : Option Outcome} {idx : List Nat} {t : Term} {n : Int32} (h : (Jvm.Cond.eq t (.int n)).value args first o s idx = some true) : t.eval args first o idx s = some (.int n) := by
  simp only [Jvm.Cond.value, Term.eval] at h
  cases ht : t.eval args first o idx s with
  | none => simp [ht] at h
  | some x => cases x <;> simp [ht] at h ⊢; exact h
theorem own_eqR {args : Array Value} {first s : State} {o : Option Outcome} {idx : List Nat} {t u : Term} {a : Addr} (h : (Jvm.Cond.eq t u).value args first o s idx = some true) (hu : u.eval args first o idx s = some (.ref a)) : t.eval args first o idx s = some (.ref a) := by
  simp only [Jvm.Cond.value, hu] at h
  cases ht : t.eval args first o idx s with
  | none => simp [ht] at h
  | some x => cases x <;> simp [ht] at h ⊢; exact h
theorem own_len {args : Array Value} {s : State} {t : Term} {n : Int32} {a : Addr} {c : Cell} {ty : FieldType} (h : (Term.length t).eval args s none [] s = some (.int n)) (ev : t.eval args s none [] s = some (.ref a)) (A : Arr s s.heap a c ty) : c.slots.size < 2 ^ 31 ∧ c.slots.size.toInt32 = n := by
  have e := Arr.fin (Vm.Alike.refl _) A
  by_cases q : c.slots.size < 2 ^ 31
  · have := (len_f ev e q).symm.trans h
    exact ⟨q, by simpa using this⟩
  · simp [Term.eval, ev, e, q] at h
theorem own_shl (x q : Int32) (k : Nat) (hk : q.toBitVec.toNat % 32 = k) (P : Int) (hP : ((2 ^ k : Nat) : Int) = P) : ((x <<< (q &&& 31)).toInt - x.toInt * P) % 4294967296 = 0 := by rw [← hP]; exact c_ishl x q k hk
theorem own_rc (x : Int32) (h0 : 0 ≤ x.toInt) (h1 : x.toInt < 65536) : (nar .char (((((nar .byte ((x >>> ((0 : Int32) &&& 31)).toInt8.toInt32)) &&& (255 : Int32)) <<< ((0 : Int32) &&& 31)) ||| (((nar .byte ((x >>> ((8 : Int32) &&& 31)).toInt8.toInt32)) &&& (255 : Int32)) <<< ((8 : Int32) &&& 31))).toUInt32.toUInt16.toUInt32.toInt32)) = x := by
  have a0 := own_shr x 0 0 (by decide) 1 (by decide)
  have a8 := own_shr x 8 8 (by decide) 256 (by decide)
  have b0 := c_i2b (x >>> ((0 : Int32) &&& 31))
  have b8 := c_i2b (x >>> ((8 : Int32) &&& 31))
  have d0 := own_c_nar_byte ((x >>> ((0 : Int32) &&& 31)).toInt8.toInt32)
  have d8 := own_c_nar_byte ((x >>> ((8 : Int32) &&& 31)).toInt8.toInt32)
  have e0 := own_mask (nar .byte ((x >>> ((0 : Int32) &&& 31)).toInt8.toInt32)) 255 8 (by decide) (by decide) 256 (by decide)
  have e8 := own_mask (nar .byte ((x >>> ((8 : Int32) &&& 31)).toInt8.toInt32)) 255 8 (by decide) (by decide) 256 (by decide)
  generalize (nar .byte ((x >>> ((0 : Int32) &&& 31)).toInt8.toInt32)) &&& (255 : Int32) = l at *
  generalize (nar .byte ((x >>> ((8 : Int32) &&& 31)).toInt8.toInt32)) &&& (255 : Int32) = h at *
  have f0 := own_shl l 0 0 (by decide) 1 (by decide)
  have f8 := own_shl h 8 8 (by decide) 256 (by decide)
  have r0 := rng32 (l <<< ((0 : Int32) &&& 31))
  have r8 := rng32 (h <<< ((8 : Int32) &&& 31))
  have g := c_or' (l <<< ((0 : Int32) &&& 31)) (h <<< ((8 : Int32) &&& 31)) 8 (by decide) 256 (by decide) (by omega) (by omega) (by omega)
  have r := rng32 ((l <<< ((0 : Int32) &&& 31)) ||| (h <<< ((8 : Int32) &&& 31)))
  have i := c_i2c ((l <<< ((0 : Int32) &&& 31)) ||| (h <<< ((8 : Int32) &&& 31)))
  have j := own_c_nar_char (((l <<< ((0 : Int32) &&& 31)) ||| (h <<< ((8 : Int32) &&& 31))).toUInt32.toUInt16.toUInt32.toInt32)
  exact Int32.toInt_inj.mp (by omega)
theorem own_rcN (x : Int32) (h0 : ¬ (x < (0 : Int32))) (h1 : ¬ ((65535 : Int32) < x)) : (nar .char (((((nar .byte ((x >>> ((0 : Int32) &&& 31)).toInt8.toInt32)) &&& (255 : Int32)) <<< ((0 : Int32) &&& 31)) ||| (((nar .byte ((x >>> ((8 : Int32) &&& 31)).toInt8.toInt32)) &&& (255 : Int32)) <<< ((8 : Int32) &&& 31))).toUInt32.toUInt16.toUInt32.toInt32)) = x := own_rc x (by rw [Int32.lt_iff_toInt_lt] at h0; have : ((0 : Int32)).toInt = 0 := (by decide); omega) (by rw [Int32.lt_iff_toInt_lt] at h1; have : ((65535 : Int32)).toInt = 65535 := (by decide); omega)
theorem w_3 {a0 : Array Value} {Z : State} (hw : ∀ d ∈ tables_1, d.before a0 Z = true) : Jvm.Cond.before (Jvm.Cond.initialized "java/lang/String") a0 Z = true := hw _ (List.mem_of_getElem? (i := 3) rfl)
theorem w_2 {a0 : Array Value} {Z : State} (hw : ∀ d ∈ tables_1, d.before a0 Z = true) : Jvm.Cond.before (Jvm.Cond.instantiable "java/lang/String" (4 : Nat)) a0 Z = true := hw _ (List.mem_of_getElem? (i := 2) rfl)
theorem w_20 {a0 : Array Value} {Z : State} (hw : ∀ d ∈ tables_1, d.before a0 Z = true) : Jvm.Cond.before (Jvm.Cond.arrayClass Jvm.ClassFile.FieldType.byte) a0 Z = true := hw _ (List.mem_of_getElem? (i := 20) rfl)
theorem w_30 {a0 : Array Value} {Z : State} (hw : ∀ d ∈ tables_1, d.before a0 Z = true) : Jvm.Cond.before (Jvm.Cond.laysFinal "java/lang/String" "java/lang/String" "value" "[B") a0 Z = true := hw _ (List.mem_of_getElem? (i := 30) rfl)
theorem w_28 {a0 : Array Value} {Z : State} (hw : ∀ d ∈ tables_1, d.before a0 Z = true) : Jvm.Cond.before (Jvm.Cond.laysFinal "java/lang/String" "java/lang/String" "coder" "B") a0 Z = true := hw _ (List.mem_of_getElem? (i := 28) rfl)
theorem w_32 {a0 : Array Value} {Z : State} (hw : ∀ d ∈ tables_1, d.before a0 Z = true) : Jvm.Cond.before (Jvm.Cond.soleField "java/lang/String" "value") a0 Z = true := hw _ (List.mem_of_getElem? (i := 32) rfl)
theorem w_33 {a0 : Array Value} {Z : State} (hw : ∀ d ∈ tables_1, d.before a0 Z = true) : Jvm.Cond.before (Jvm.Cond.soleField "java/lang/String" "coder") a0 Z = true := hw _ (List.mem_of_getElem? (i := 33) rfl)
theorem own_wS {a0 : Array Value} {Z : State} (hw : ∀ d ∈ tables_1, d.before a0 Z = true) : ∀ a ∈ Bundle.stringAtoms, a.before a0 Z = true := by
  intro a ha
  simp only [Bundle.stringAtoms, List.mem_cons, List.not_mem_nil, or_false] at ha
  rcases ha with rfl | rfl | rfl | rfl | rfl | rfl | rfl
  · exact (w_3 hw)
  · exact (w_2 hw)
  · exact (w_20 hw)
  · exact (w_30 hw)
  · exact (w_28 hw)
  · exact (w_32 hw)
  · exact (w_33 hw)
theorem w_0 {a0 : Array Value} {Z : State} (hw : ∀ d ∈ tables_1, d.before a0 Z = true) : Jvm.Cond.before (Jvm.Cond.constant "com/example/senret/senret/LineFieldsRequireNonEmptyPinLaw" (7 : Nat) (65535 : Int32)) a0 Z = true := hw _ (List.mem_of_getElem? (i := 0) rfl)
theorem w_1 {a0 : Array Value} {Z : State} (hw : ∀ d ∈ tables_1, d.before a0 Z = true) : Jvm.Cond.before (Jvm.Cond.classLink "com/example/senret/senret/LineFieldsRequireNonEmptyPinLaw" (8 : Nat) "java/lang/String") a0 Z = true := hw _ (List.mem_of_getElem? (i := 1) rfl)
theorem w_4 {a0 : Array Value} {Z : State} (hw : ∀ d ∈ tables_1, d.before a0 Z = true) : Jvm.Cond.before (Jvm.Cond.arrayClass Jvm.ClassFile.FieldType.char) a0 Z = true := hw _ (List.mem_of_getElem? (i := 4) rfl)
theorem d1_0 : decode jdk_42_method_3_code 0 = .ok (.aload_n 0, 1) := by decide +kernel
theorem d1_1 : decode jdk_42_method_3_code 1 = .ok (.aload_n 1, 1) := by decide +kernel
theorem d1_2 : decode jdk_42_method_3_code 2 = .ok (.iconst 0, 1) := by decide +kernel
theorem d1_3 : decode jdk_42_method_3_code 3 = .ok (.aload_n 1, 1) := by decide +kernel
theorem d1_4 : decode jdk_42_method_3_code 4 = .ok (.arraylength, 1) := by decide +kernel
theorem d1_5 : decode jdk_42_method_3_code 5 = .ok (.aconst_null, 1) := by decide +kernel
theorem d1_6 : decode jdk_42_method_3_code 6 = .ok (.invokespecial 27, 3) := by decide +kernel
theorem d2_0 : decode jdk_42_method_149_code 0 = .ok (.aload_n 0, 1) := by decide +kernel
theorem d2_1 : decode jdk_42_method_149_code 1 = .ok (.invokespecial 1, 3) := by decide +kernel
theorem w_12 {a0 : Array Value} {Z : State} (hw : ∀ d ∈ tables_1, d.before a0 Z = true) : Jvm.Cond.before (Jvm.Cond.methodLink "java/lang/String" (1 : Nat) ({ cls := "java/lang/Object", name := "<init>", desc := "()V" } : Jvm.MethodName)) a0 Z = true := hw _ (List.mem_of_getElem? (i := 12) rfl)
theorem w_13 {a0 : Array Value} {Z : State} (hw : ∀ d ∈ tables_1, d.before a0 Z = true) : Jvm.Cond.before (Jvm.Cond.instanceMethod ({ cls := "java/lang/Object", name := "<init>", desc := "()V" } : Jvm.MethodName)) a0 Z = true := hw _ (List.mem_of_getElem? (i := 13) rfl)
theorem w_14 {a0 : Array Value} {Z : State} (hw : ∀ d ∈ tables_1, d.before a0 Z = true) : Jvm.Cond.before (Jvm.Cond.code ({ cls := "java/lang/Object", name := "<init>", desc := "()V" } : Jvm.MethodName) object_method_1_code (1 : Nat) (Option.none : Option Jvm.ClassFile.FieldType)) a0 Z = true := hw _ (List.mem_of_getElem? (i := 14) rfl)
theorem d2_4 : decode jdk_42_method_149_code 4 = .ok (.iload_n 3, 1) := by decide +kernel
theorem d2_5 : decode jdk_42_method_149_code 5 = .ok (.ifCond .ne 22, 3) := by decide +kernel
theorem d2_27 : decode jdk_42_method_149_code 27 = .ok (.getstatic 38, 3) := by decide +kernel
theorem w_15 {a0 : Array Value} {Z : State} (hw : ∀ d ∈ tables_1, d.before a0 Z = true) : Jvm.Cond.before (Jvm.Cond.fieldLink "java/lang/String" (38 : Nat) "java/lang/String" "COMPACT_STRINGS" "Z") a0 Z = true := hw _ (List.mem_of_getElem? (i := 15) rfl)
theorem d2_30 : decode jdk_42_method_149_code 30 = .ok (.ifCond .eq 28, 3) := by decide +kernel
theorem d2_33 : decode jdk_42_method_149_code 33 = .ok (.aload_n 1, 1) := by decide +kernel
theorem d2_34 : decode jdk_42_method_149_code 34 = .ok (.iload_n 2, 1) := by decide +kernel
theorem d2_35 : decode jdk_42_method_149_code 35 = .ok (.iload_n 3, 1) := by decide +kernel
theorem d2_36 : decode jdk_42_method_149_code 36 = .ok (.invokestatic 177, 3) := by decide +kernel
theorem d4_0 : decode jdk_52_method_16_code 0 = .ok (.iload_n 2, 1) := by decide +kernel
theorem d4_1 : decode jdk_52_method_16_code 1 = .ok (.newarray .byte, 2) := by decide +kernel
theorem d4_3 : decode jdk_52_method_16_code 3 = .ok (.astore_n 3, 1) := by decide +kernel
theorem d4_4 : decode jdk_52_method_16_code 4 = .ok (.aload_n 0, 1) := by decide +kernel
theorem d4_5 : decode jdk_52_method_16_code 5 = .ok (.iload_n 1, 1) := by decide +kernel
theorem d4_6 : decode jdk_52_method_16_code 6 = .ok (.aload_n 3, 1) := by decide +kernel
theorem d4_7 : decode jdk_52_method_16_code 7 = .ok (.iconst 0, 1) := by decide +kernel
theorem d4_8 : decode jdk_52_method_16_code 8 = .ok (.iload_n 2, 1) := by decide +kernel
theorem d4_9 : decode jdk_52_method_16_code 9 = .ok (.invokestatic 115, 3) := by decide +kernel
theorem d5_0 : decode jdk_52_method_21_code 0 = .ok (.iconst 0, 1) := by decide +kernel
theorem d5_1 : decode jdk_52_method_21_code 1 = .ok (.istore 5, 2) := by decide +kernel
theorem d5_3 : decode jdk_52_method_21_code 3 = .ok (.iload 5, 2) := by decide +kernel
theorem d5_5 : decode jdk_52_method_21_code 5 = .ok (.iload 4, 2) := by decide +kernel
theorem d5_7 : decode jdk_52_method_21_code 7 = .ok (.if_icmp .ge 37, 3) := by decide +kernel
theorem d5_10 : decode jdk_52_method_21_code 10 = .ok (.aload_n 0, 1) := by decide +kernel
theorem d5_11 : decode jdk_52_method_21_code 11 = .ok (.iload_n 1, 1) := by decide +kernel
theorem d5_12 : decode jdk_52_method_21_code 12 = .ok (.caload, 1) := by decide +kernel
theorem d5_13 : decode jdk_52_method_21_code 13 = .ok (.istore 6, 2) := by decide +kernel
theorem d5_15 : decode jdk_52_method_21_code 15 = .ok (.iload 6, 2) := by decide +kernel
theorem d5_17 : decode jdk_52_method_21_code 17 = .ok (.sipush 255, 3) := by decide +kernel
theorem d5_20 : decode jdk_52_method_21_code 20 = .ok (.if_icmp .le 6, 3) := by decide +kernel
theorem d5_23 : decode jdk_52_method_21_code 23 = .ok (.iload 5, 2) := by decide +kernel
theorem d5_25 : decode jdk_52_method_21_code 25 = .ok (.ireturn, 1) := by decide +kernel
theorem ef_bad258 (a1 : Addr) (a2 : Addr) (m : MethodId) : entryFrame m #[(.ref a1), (.int 0), (.ref a2), (.int 0), (.int 1)] 7 = mkF m 0 #[.val (.ref a1), .val (.int 0), .val (.ref a2), .val (.int 0), .val (.int 1), .unset, .unset] [] := by first | (simp [entryFrame, mkF, argsToLocals, Value.category]; done) | rfl
abbrev y_0 : MethodName := ⟨"java/lang/StringUTF16", "compress", "([CI[BII)I"⟩
theorem pn_0 : plainName "java/lang/StringUTF16" = true := by first | (simp [plainName, overriddenIn]; done) | decide +kernel
-- java/lang/StringUTF16.compress([CI[BII)I
abbrev Rm1 : Room := { frames := 0, cells := 0, slots := 0, locals := 0 }
def Q1 (Z : State) (a1 : Addr) (a2 : Addr) (p3 : Int32) (k4 : ClassId) (h0 : Heap) (n0 : Nat) (v : Option Value) (h : Heap) (L : List Loc) : Prop := v = some (.int 0) ∧ Fr n0 L ∧ h = h0
-- ef_bad258
theorem rm1 (l : Launch) (Z : State) (a0 : Array Value) (hw : ∀ d ∈ tables_1, d.before a0 Z = true) (ws : List Jvm.Cond) (a1 : Addr) (a2 : Addr) (p3 : Int32) (k4 : ClassId) (h0 : Heap) (n0 : Nat) (Z0 : n0 ≤ h0.size) (V_a1 : Arv Z h0 a1 k4 .char (1 : Int32) [(.int p3)] (.int 0)) (c7 : (255 : Int32) < p3) :
    OwnMet l Z y_0 jdk_52_method_21_code 7 (some .int) ws Rm1 #[(.ref a1), (.int 0), (.ref a2), (.int 0), (.int 1)] h0 (Q1 Z a1 a2 p3 k4 h0 n0) := by
  refine own_body (plainFor_of_name pn_0) (ef_bad258 a1 a2) ?_
  intro p e s m below meth c s₁ hx hby hml hown hnm hret hZ X0 e0
  have N0 := Fr.nil n0
  obtain ⟨cl5, Ar5, q5, S5, M5, Hs5, G5⟩ := id V_a1
  have hin6 : ¬ ((0 : Int32) < 0 ∨ cl5.slots.size ≤ ((0 : Int32)).toNatClampNeg) := inb_of S5 ⟨(by decide : ¬ ((0 : Int32) < (0 : Int32))), (by decide : (0 : Int32) < (1 : Int32))⟩
  refine ⟨s₁, _, _, _, (some (.int 0)), X0, nofun, by decide, by decide, ?_, fun fs hr => ?_⟩
  · rw [e0]
    exact ⟨rfl, N0, rfl⟩
  · refine XS.iconst X0.here hx rfl (hb hby d5_0) ?_
    refine XS.istore X0.here hx rfl (hb hby d5_1) rfl (l' := #[.val (.ref a1), .val (.int 0), .val (.ref a2), .val (.int 0), .val (.int 1), .val (.int 0), .unset]) rfl ?_
    refine XS.iload X0.here hx rfl (hb hby d5_3) rfl ?_
    refine XS.iload X0.here hx rfl (hb hby d5_5) rfl ?_
    refine XS.icmpNo X0.here hx rfl (hb hby d5_7) rfl (tlt ((by decide : (0 : Int32) < (1 : Int32)) : (0 : Int32) < (1 : Int32))).2.1 ?_
    refine XS.aloadN X0.here hx rfl (hb hby d5_10) rfl rfl ?_
    refine XS.iloadN X0.here hx rfl (hb hby d5_11) rfl ?_
    refine X0.caload hx (j := (0 : Int32)) (v := (.int p3)) (by rw [e0]; exact Ar5.1) (State.isArrayOf_alike hZ.alike Ar5.2.1) Ar5.2.2 hin6 (Has.at Hs5 hin6 rfl) (g := (mkF m 12 #[.val (.ref a1), .val (.int 0), .val (.ref a2), .val (.int 0), .val (.int 1), .val (.int 0), .unset] [(.int 0), (.ref a1)])) rfl rfl (hb hby d5_12) _ ?_
    refine XS.istore X0.here hx rfl (hb hby d5_13) rfl (l' := #[.val (.ref a1), .val (.int 0), .val (.ref a2), .val (.int 0), .val (.int 1), .val (.int 0), .val (.int p3)]) rfl ?_
    refine XS.iload X0.here hx rfl (hb hby d5_15) rfl ?_
    refine XS.sipush X0.here hx rfl (hb hby d5_17) ?_
    show Steps p.tables e below (s₁.setTop (mkF m 20 #[.val (.ref a1), .val (.int 0), .val (.ref a2), .val (.int 0), .val (.int 1), .val (.int 0), .val (.int p3)] [(.int 255), (.int p3)])) _
    refine XS.icmpNo X0.here hx rfl (hb hby d5_20) rfl (tlt (c7 : (255 : Int32) < p3)).2.2.2 ?_
    refine XS.iload X0.here hx rfl (hb hby d5_23) rfl ?_
    exact retI X0 hx hret (hb hby d5_25) hr
theorem pd_0 : parseMethodDescriptor "([CI[BII)I" = some ⟨[(.array .char), .int, (.array .byte), .int, .int], some .int⟩ := by decide +kernel
theorem w_18 {a0 : Array Value} {Z : State} (hw : ∀ d ∈ tables_1, d.before a0 Z = true) : Jvm.Cond.before (Jvm.Cond.initialized "java/lang/StringUTF16") a0 Z = true := hw _ (List.mem_of_getElem? (i := 18) rfl)
theorem w_23 {a0 : Array Value} {Z : State} (hw : ∀ d ∈ tables_1, d.before a0 Z = true) : Jvm.Cond.before (Jvm.Cond.code ({ cls := "java/lang/StringUTF16", name := "compress", desc := "([CI[BII)I" } : Jvm.MethodName) jdk_52_method_21_code (7 : Nat) (Option.some Jvm.ClassFile.FieldType.int)) a0 Z = true := hw _ (List.mem_of_getElem? (i := 23) rfl)
theorem w_21 {a0 : Array Value} {Z : State} (hw : ∀ d ∈ tables_1, d.before a0 Z = true) : Jvm.Cond.before (Jvm.Cond.methodLink "java/lang/StringUTF16" (115 : Nat) ({ cls := "java/lang/StringUTF16", name := "compress", desc := "([CI[BII)I" } : Jvm.MethodName)) a0 Z = true := hw _ (List.mem_of_getElem? (i := 21) rfl)
theorem w_22 {a0 : Array Value} {Z : State} (hw : ∀ d ∈ tables_1, d.before a0 Z = true) : Jvm.Cond.before (Jvm.Cond.static ({ cls := "java/lang/StringUTF16", name := "compress", desc := "([CI[BII)I" } : Jvm.MethodName)) a0 Z = true := hw _ (List.mem_of_getElem? (i := 22) rfl)
theorem d4_12 : decode jdk_52_method_16_code 12 = .ok (.istore 4, 2) := by decide +kernel
theorem d4_14 : decode jdk_52_method_16_code 14 = .ok (.iload 4, 2) := by decide +kernel
theorem d4_16 : decode jdk_52_method_16_code 16 = .ok (.iload_n 2, 1) := by decide +kernel
theorem d4_17 : decode jdk_52_method_16_code 17 = .ok (.if_icmp .eq 40, 3) := by decide +kernel
theorem d4_20 : decode jdk_52_method_16_code 20 = .ok (.aload_n 0, 1) := by decide +kernel
theorem d4_21 : decode jdk_52_method_16_code 21 = .ok (.iload_n 1, 1) := by decide +kernel
theorem d4_22 : decode jdk_52_method_16_code 22 = .ok (.iload_n 2, 1) := by decide +kernel
theorem d4_23 : decode jdk_52_method_16_code 23 = .ok (.invokestatic 119, 3) := by decide +kernel
theorem d15_0 : decode jdk_52_method_14_code 0 = .ok (.iload_n 2, 1) := by decide +kernel
theorem d15_1 : decode jdk_52_method_14_code 1 = .ok (.invokestatic 107, 3) := by decide +kernel
theorem d16_0 : decode jdk_52_method_2_code 0 = .ok (.iload_n 0, 1) := by decide +kernel
theorem d16_1 : decode jdk_52_method_2_code 1 = .ok (.invokestatic 11, 3) := by decide +kernel
theorem d17_0 : decode jdk_52_method_3_code 0 = .ok (.iload_n 0, 1) := by decide +kernel
theorem d17_1 : decode jdk_52_method_3_code 1 = .ok (.ifCond .ge 11, 3) := by decide +kernel
theorem d17_12 : decode jdk_52_method_3_code 12 = .ok (.iload_n 0, 1) := by decide +kernel
theorem d17_13 : decode jdk_52_method_3_code 13 = .ok (.ldc 20, 2) := by decide +kernel
theorem w_76 {a0 : Array Value} {Z : State} (hw : ∀ d ∈ tables_1, d.before a0 Z = true) : Jvm.Cond.before (Jvm.Cond.constant "java/lang/StringUTF16" (20 : Nat) (1073741823 : Int32)) a0 Z = true := hw _ (List.mem_of_getElem? (i := 76) rfl)
theorem d17_15 : decode jdk_52_method_3_code 15 = .ok (.if_icmp .lt 40, 3) := by decide +kernel
theorem d17_55 : decode jdk_52_method_3_code 55 = .ok (.iload_n 0, 1) := by decide +kernel
theorem d17_56 : decode jdk_52_method_3_code 56 = .ok (.iconst 1, 1) := by decide +kernel
theorem d17_57 : decode jdk_52_method_3_code 57 = .ok (.ishl, 1) := by decide +kernel
theorem d17_58 : decode jdk_52_method_3_code 58 = .ok (.ireturn, 1) := by decide +kernel
theorem ef_7103fa  (m : MethodId) : entryFrame m #[(.int 1)] 1 = mkF m 0 #[.val (.int 1)] [] := by first | (simp [entryFrame, mkF, argsToLocals, Value.category]; done) | rfl
abbrev y_1 : MethodName := ⟨"java/lang/StringUTF16", "newBytesLength", "(I)I"⟩
-- java/lang/StringUTF16.newBytesLength(I)I
abbrev Rm2 : Room := { frames := 0, cells := 0, slots := 0, locals := 0 }
def Q2 (Z : State)  (h0 : Heap) (n0 : Nat) (v : Option Value) (h : Heap) (L : List Loc) : Prop := v = some (.int 2) ∧ Fr n0 L ∧ h = h0
-- ef_7103fa
theorem rm2 (l : Launch) (Z : State) (a0 : Array Value) (hw : ∀ d ∈ tables_1, d.before a0 Z = true) (ws : List Jvm.Cond)  (h0 : Heap) (n0 : Nat) (Z0 : n0 ≤ h0.size) :
    OwnMet l Z y_1 jdk_52_method_3_code 1 (some .int) ws Rm2 #[(.int 1)] h0 (Q2 Z  h0 n0) := by
  refine own_body (plainFor_of_name pn_0) (ef_7103fa) ?_
  intro p e s m below meth c s₁ hx hby hml hown hnm hret hZ X0 e0
  have N0 := Fr.nil n0
  refine ⟨s₁, _, _, _, (some (.int 2)), X0, nofun, by decide, by decide, ?_, fun fs hr => ?_⟩
  · rw [e0]
    exact ⟨rfl, N0, rfl⟩
  · refine XS.iloadN X0.here hx rfl (hb hby d17_0) rfl ?_
    refine XS.ifYes X0.here hx rfl (pc0 := 1) (pc' := 12) rfl (hb hby d17_1) rfl ((if0 _ _).trans (flt ((by decide : ¬ ((1 : Int32) < (0 : Int32))) : ¬ ((1 : Int32) < (0 : Int32)))).2.1) (by decide) (by decide) ?_
    refine XS.iloadN X0.here hx rfl (hb hby d17_12) rfl ?_
    refine X0.ldcInt hx hown (mvT hZ (w_76 hw)) (g := (mkF m 13 #[.val (.int 1)] [(.int 1)])) rfl (hb hby d17_13) _ ?_
    refine XS.icmpYes X0.here hx rfl (pc0 := 15) (pc' := 55) rfl (hb hby d17_15) rfl (tlt ((by decide : (1 : Int32) < (1073741823 : Int32)) : (1 : Int32) < (1073741823 : Int32))).1 (by decide) (by decide) ?_
    refine XS.iloadN X0.here hx rfl (hb hby d17_55) rfl ?_
    refine XS.iconst X0.here hx rfl (hb hby d17_56) ?_
    refine XS.ishl X0.here hx rfl (hb hby d17_57) rfl ?_
    exact retI X0 hx hret (hb hby d17_58) hr
theorem pd_1 : parseMethodDescriptor "(I)I" = some ⟨[.int], some .int⟩ := by decide +kernel
theorem w_75 {a0 : Array Value} {Z : State} (hw : ∀ d ∈ tables_1, d.before a0 Z = true) : Jvm.Cond.before (Jvm.Cond.code ({ cls := "java/lang/StringUTF16", name := "newBytesLength", desc := "(I)I" } : Jvm.MethodName) jdk_52_method_3_code (1 : Nat) (Option.some Jvm.ClassFile.FieldType.int)) a0 Z = true := hw _ (List.mem_of_getElem? (i := 75) rfl)
theorem w_73 {a0 : Array Value} {Z : State} (hw : ∀ d ∈ tables_1, d.before a0 Z = true) : Jvm.Cond.before (Jvm.Cond.methodLink "java/lang/StringUTF16" (11 : Nat) ({ cls := "java/lang/StringUTF16", name := "newBytesLength", desc := "(I)I" } : Jvm.MethodName)) a0 Z = true := hw _ (List.mem_of_getElem? (i := 73) rfl)
theorem w_74 {a0 : Array Value} {Z : State} (hw : ∀ d ∈ tables_1, d.before a0 Z = true) : Jvm.Cond.before (Jvm.Cond.static ({ cls := "java/lang/StringUTF16", name := "newBytesLength", desc := "(I)I" } : Jvm.MethodName)) a0 Z = true := hw _ (List.mem_of_getElem? (i := 74) rfl)
theorem d16_4 : decode jdk_52_method_2_code 4 = .ok (.newarray .byte, 2) := by decide +kernel
theorem d16_6 : decode jdk_52_method_2_code 6 = .ok (.areturn, 1) := by decide +kernel
abbrev y_2 : MethodName := ⟨"java/lang/StringUTF16", "newBytesFor", "(I)[B"⟩
-- java/lang/StringUTF16.newBytesFor(I)[B
abbrev Rm3 : Room := { frames := 1, cells := 1, slots := 2, locals := 12 }
def Q3 (Z : State)  (h0 : Heap) (n0 : Nat) (v : Option Value) (h : Heap) (L : List Loc) : Prop := ∃ b2 : Addr, ∃ k2 : ClassId, v = some (.ref b2) ∧ Fr n0 L ∧ Keep h0 h [] ∧ h0.size ≤ b2 ∧ Exa Z h b2 "[B" ∧ Arv Z h b2 k2 .byte (2 : Int32) [(.int 0), (.int 0)] (.int 0)
-- ef_7103fa
theorem rm3 (l : Launch) (Z : State) (a0 : Array Value) (hw : ∀ d ∈ tables_1, d.before a0 Z = true) (ws : List Jvm.Cond)  (h0 : Heap) (n0 : Nat) (Z0 : n0 ≤ h0.size) :
    OwnMet l Z y_2 jdk_52_method_2_code 1 (some (.array .byte)) ws Rm3 #[(.int 1)] h0 (Q3 Z  h0 n0) := by
  refine own_body (plainFor_of_name pn_0) (ef_7103fa) ?_
  intro p e s m below meth c s₁ hx hby hml hown hnm hret hZ X0 e0
  have N0 := Fr.nil n0
  obtain ⟨_, T1, L1, X1, hQ1, st1⟩ := own_callS X0 hx hZ hown (y := y_1) (w_73 hw) (w_74 hw) (w_18 hw) (w_75 hw) (rm2 l Z a0 hw []  h0 n0 Z0) e0 (Ls := #[.val (.int 1)]) (by rw [hml]; rfl) (argsL := [(.int 1)]) (rest := []) (lenOf pd_1 rfl) (hb hby d16_1) (W := 0)
  obtain ⟨rfl, Nq1, e1⟩ := hQ1
  have N1 := Fr.app N0 Nq1
  obtain ⟨T2, h2, k2, X2, e2, E2, A2, B2, st2⟩ := newPE (aty := .byte) X1 hx hZ (w_20 hw) e1 (g := (mkF m 4 #[.val (.int 1)] [(.int 2)])) rfl (hb hby d16_4) rfl (by decide) (cap := 2) (by decide) (by decide) (by decide) (by decide) (ad := "[B") (by decide)
  obtain ⟨b2, g2⟩ : ∃ z, z = h0.size := ⟨_, rfl⟩
  rw [← g2] at A2 B2 st2
  have s0 := E2.1
  have Vn2 : Arv Z h2 b2 k2 .byte (2 : Int32) [(.int 0), (.int 0)] (.int 0) := (Arv.new A2 (by decide)).pad (pad_rep [] (.int 0) 2)
  have sz_b2 : h0.size ≤ b2 := (Nat.le_of_eq g2.symm)
  have Kp0 : Keep h0 h2 [] := (Keep.refl h0 []).ext E2
  refine ⟨T2, _, _, _, (some (.ref b2)), X2, nofun, by decide, by decide, ?_, fun fs hr => ?_⟩
  · rw [e2]
    exact ⟨b2, k2, rfl, N1, Kp0, sz_b2, B2, Vn2⟩
  · refine XS.iloadN X0.here hx rfl (hb hby d16_0) rfl ?_
    refine st1 _ ?_
    refine st2 _ ?_
    exact retOut X2 hx hret rfl (Or.inr (Or.inr (Or.inr (Or.inr ⟨rfl, rfl, rfl⟩)))) (hb hby d16_6) hr
theorem pd_2 : parseMethodDescriptor "(I)[B" = some ⟨[.int], some (.array .byte)⟩ := by decide +kernel
theorem w_72 {a0 : Array Value} {Z : State} (hw : ∀ d ∈ tables_1, d.before a0 Z = true) : Jvm.Cond.before (Jvm.Cond.code ({ cls := "java/lang/StringUTF16", name := "newBytesFor", desc := "(I)[B" } : Jvm.MethodName) jdk_52_method_2_code (1 : Nat) (Option.some (Jvm.ClassFile.FieldType.array Jvm.ClassFile.FieldType.byte))) a0 Z = true := hw _ (List.mem_of_getElem? (i := 72) rfl)
theorem w_70 {a0 : Array Value} {Z : State} (hw : ∀ d ∈ tables_1, d.before a0 Z = true) : Jvm.Cond.before (Jvm.Cond.methodLink "java/lang/StringUTF16" (107 : Nat) ({ cls := "java/lang/StringUTF16", name := "newBytesFor", desc := "(I)[B" } : Jvm.MethodName)) a0 Z = true := hw _ (List.mem_of_getElem? (i := 70) rfl)
theorem w_71 {a0 : Array Value} {Z : State} (hw : ∀ d ∈ tables_1, d.before a0 Z = true) : Jvm.Cond.before (Jvm.Cond.static ({ cls := "java/lang/StringUTF16", name := "newBytesFor", desc := "(I)[B" } : Jvm.MethodName)) a0 Z = true := hw _ (List.mem_of_getElem? (i := 71) rfl)
theorem d15_4 : decode jdk_52_method_14_code 4 = .ok (.astore_n 3, 1) := by decide +kernel
theorem d15_5 : decode jdk_52_method_14_code 5 = .ok (.iconst 0, 1) := by decide +kernel
theorem d15_6 : decode jdk_52_method_14_code 6 = .ok (.istore 4, 2) := by decide +kernel
theorem d15_8 : decode jdk_52_method_14_code 8 = .ok (.iload 4, 2) := by decide +kernel
theorem d15_10 : decode jdk_52_method_14_code 10 = .ok (.iload_n 2, 1) := by decide +kernel
theorem d15_11 : decode jdk_52_method_14_code 11 = .ok (.if_icmp .ge 21, 3) := by decide +kernel
theorem d15_14 : decode jdk_52_method_14_code 14 = .ok (.aload_n 3, 1) := by decide +kernel
theorem d15_15 : decode jdk_52_method_14_code 15 = .ok (.iload 4, 2) := by decide +kernel
theorem d15_17 : decode jdk_52_method_14_code 17 = .ok (.aload_n 0, 1) := by decide +kernel
theorem d15_18 : decode jdk_52_method_14_code 18 = .ok (.iload_n 1, 1) := by decide +kernel
theorem d15_19 : decode jdk_52_method_14_code 19 = .ok (.caload, 1) := by decide +kernel
theorem d15_20 : decode jdk_52_method_14_code 20 = .ok (.invokestatic 111, 3) := by decide +kernel
theorem d18_0 : decode jdk_52_method_4_code 0 = .ok (.getstatic 44, 3) := by decide +kernel
theorem w_80 {a0 : Array Value} {Z : State} (hw : ∀ d ∈ tables_1, d.before a0 Z = true) : Jvm.Cond.before (Jvm.Cond.fieldLink "java/lang/StringUTF16" (44 : Nat) "java/lang/StringUTF16" "$assertionsDisabled" "Z") a0 Z = true := hw _ (List.mem_of_getElem? (i := 80) rfl)
theorem d18_3 : decode jdk_52_method_4_code 3 = .ok (.ifCond .ne 25, 3) := by decide +kernel
theorem d18_28 : decode jdk_52_method_4_code 28 = .ok (.iload_n 1, 1) := by decide +kernel
theorem d18_29 : decode jdk_52_method_4_code 29 = .ok (.iconst 1, 1) := by decide +kernel
theorem d18_30 : decode jdk_52_method_4_code 30 = .ok (.ishl, 1) := by decide +kernel
theorem d18_31 : decode jdk_52_method_4_code 31 = .ok (.istore_n 1, 1) := by decide +kernel
theorem d18_32 : decode jdk_52_method_4_code 32 = .ok (.aload_n 0, 1) := by decide +kernel
theorem d18_33 : decode jdk_52_method_4_code 33 = .ok (.iload_n 1, 1) := by decide +kernel
theorem d18_34 : decode jdk_52_method_4_code 34 = .ok (.iinc 1 1, 3) := by decide +kernel
theorem d18_37 : decode jdk_52_method_4_code 37 = .ok (.iload_n 2, 1) := by decide +kernel
theorem d18_38 : decode jdk_52_method_4_code 38 = .ok (.getstatic 59, 3) := by decide +kernel
theorem w_81 {a0 : Array Value} {Z : State} (hw : ∀ d ∈ tables_1, d.before a0 Z = true) : Jvm.Cond.before (Jvm.Cond.fieldLink "java/lang/StringUTF16" (59 : Nat) "java/lang/StringUTF16" "HI_BYTE_SHIFT" "I") a0 Z = true := hw _ (List.mem_of_getElem? (i := 81) rfl)
theorem d18_41 : decode jdk_52_method_4_code 41 = .ok (.ishr, 1) := by decide +kernel
theorem d18_42 : decode jdk_52_method_4_code 42 = .ok (.i2b, 1) := by decide +kernel
theorem d18_43 : decode jdk_52_method_4_code 43 = .ok (.bastore, 1) := by decide +kernel
theorem d18_44 : decode jdk_52_method_4_code 44 = .ok (.aload_n 0, 1) := by decide +kernel
theorem d18_45 : decode jdk_52_method_4_code 45 = .ok (.iload_n 1, 1) := by decide +kernel
theorem d18_46 : decode jdk_52_method_4_code 46 = .ok (.iload_n 2, 1) := by decide +kernel
theorem d18_47 : decode jdk_52_method_4_code 47 = .ok (.getstatic 63, 3) := by decide +kernel
theorem w_82 {a0 : Array Value} {Z : State} (hw : ∀ d ∈ tables_1, d.before a0 Z = true) : Jvm.Cond.before (Jvm.Cond.fieldLink "java/lang/StringUTF16" (63 : Nat) "java/lang/StringUTF16" "LO_BYTE_SHIFT" "I") a0 Z = true := hw _ (List.mem_of_getElem? (i := 82) rfl)
theorem d18_50 : decode jdk_52_method_4_code 50 = .ok (.ishr, 1) := by decide +kernel
theorem d18_51 : decode jdk_52_method_4_code 51 = .ok (.i2b, 1) := by decide +kernel
theorem d18_52 : decode jdk_52_method_4_code 52 = .ok (.bastore, 1) := by decide +kernel
theorem d18_53 : decode jdk_52_method_4_code 53 = .ok (.return_, 1) := by decide +kernel
theorem ef_6a6989 (a1 : Addr) (p2 : Int32) (m : MethodId) : entryFrame m #[(.ref a1), (.int 0), (.int p2)] 3 = mkF m 0 #[.val (.ref a1), .val (.int 0), .val (.int p2)] [] := by first | (simp [entryFrame, mkF, argsToLocals, Value.category]; done) | rfl
abbrev y_3 : MethodName := ⟨"java/lang/StringUTF16", "putChar", "([BII)V"⟩
-- java/lang/StringUTF16.putChar([BII)V
abbrev Rm4 : Room := { frames := 0, cells := 0, slots := 0, locals := 0 }
def Q4 (Z : State) (a1 : Addr) (p2 : Int32) (k5 : ClassId) (h0 : Heap) (n0 : Nat) (v : Option Value) (h : Heap) (L : List Loc) : Prop := v = none ∧ Fr n0 L ∧ Keep h0 h [a1] ∧ Exa Z h a1 "[B" ∧ Arv Z h a1 k5 .byte (2 : Int32) [(.int (nar .byte ((p2 >>> ((0 : Int32) &&& 31)).toInt8.toInt32))), (.int (nar .byte ((p2 >>> ((8 : Int32) &&& 31)).toInt8.toInt32)))] (.int 0)
-- ef_6a6989
theorem rm4 (l : Launch) (Z : State) (a0 : Array Value) (hw : ∀ d ∈ tables_1, d.before a0 Z = true) (ws : List Jvm.Cond) (a1 : Addr) (p2 : Int32) (k5 : ClassId) (h0 : Heap) (n0 : Nat) (Z0 : n0 ≤ h0.size) (S__assertionsDisabled : Sta Z Z.heap "java/lang/StringUTF16" "$assertionsDisabled" "Z" (.int 1)) (Od0 : Old Z n0 h0) (S_HI_BYTE_SHIFT : Sta Z Z.heap "java/lang/StringUTF16" "HI_BYTE_SHIFT" "I" (.int 0)) (V_a1 : Arv Z h0 a1 k5 .byte (2 : Int32) [(.int 0), (.int 0)] (.int 0)) (g_a1 : n0 ≤ a1) (S_LO_BYTE_SHIFT : Sta Z Z.heap "java/lang/StringUTF16" "LO_BYTE_SHIFT" "I" (.int 8)) (E_a1 : Exa Z h0 a1 "[B") :
    OwnMet l Z y_3 jdk_52_method_4_code 3 none ws Rm4 #[(.ref a1), (.int 0), (.int p2)] h0 (Q4 Z a1 p2 k5 h0 n0) := by
  refine own_body (plainFor_of_name pn_0) (ef_6a6989 a1 p2) ?_
  intro p e s m below meth c s₁ hx hby hml hown hnm hret hZ X0 e0
  have N0 := Fr.nil n0
  obtain ⟨T3, X3, e3, st3⟩ := getS2 X0 hx hZ hown (host := "") (Or.inl (w_80 hw)) Via.refl e0 (S__assertionsDisabled.ext Od0.2) (g := (mkF m 0 #[.val (.ref a1), .val (.int 0), .val (.int p2)] [])) rfl (hb hby d18_0)
  obtain ⟨T4, X4, e4, st4⟩ := getS2 X3 hx hZ hown (host := "") (Or.inl (w_81 hw)) Via.refl e3 (S_HI_BYTE_SHIFT.ext Od0.2) (g := (mkF m 38 #[.val (.ref a1), .val (.int 1), .val (.int p2)] [(.int p2), (.int 0), (.ref a1)])) rfl (hb hby d18_38)
  obtain ⟨cl6, Ar6, q6, S6, M6, Hs6, G6⟩ := id V_a1
  have hin7 : ¬ ((0 : Int32) < 0 ∨ cl6.slots.size ≤ ((0 : Int32)).toNatClampNeg) := inb_of S6 ⟨(by decide : ¬ ((0 : Int32) < (0 : Int32))), (by decide : (0 : Int32) < (2 : Int32))⟩
  obtain ⟨T8, h8, X8, e8, W8, st8⟩ := stB X4 hx hZ e4 Ar6 (j := (0 : Int32)) hin7 (g := (mkF m 43 #[.val (.ref a1), .val (.int 1), .val (.int p2)] [(.int ((p2 >>> ((0 : Int32) &&& 31)).toInt8.toInt32)), (.int 0), (.ref a1)])) rfl rfl (hb hby d18_43)
  have s0 := (Keep.of_wr W8).1
  have N8 := Fr.snoc X8 N0 g_a1
  have Vs8 : Arv Z h8 a1 k5 .byte (2 : Int32) [(.int (nar .byte ((p2 >>> ((0 : Int32) &&& 31)).toInt8.toInt32))), (.int 0)] (.int 0) := Arv.set Ar6 q6 S6 M6 Hs6 G6 (fits_nar_byte _) W8 0 rfl (Nat.le_of_ble_eq_true rfl)
  have Od1 : Old Z n0 h8 := Od0.wr W8 g_a1
  obtain ⟨T9, X9, e9, st9⟩ := getS2 X8 hx hZ hown (host := "") (Or.inl (w_82 hw)) Via.refl e8 (S_LO_BYTE_SHIFT.ext Od1.2) (g := (mkF m 47 #[.val (.ref a1), .val (.int 1), .val (.int p2)] [(.int p2), (.int 1), (.ref a1)])) rfl (hb hby d18_47)
  obtain ⟨cl10, Ar10, q10, S10, M10, Hs10, G10⟩ := id Vs8
  have hin11 : ¬ ((1 : Int32) < 0 ∨ cl10.slots.size ≤ ((1 : Int32)).toNatClampNeg) := inb_of S10 ⟨(by decide : ¬ ((1 : Int32) < (0 : Int32))), (by decide : (1 : Int32) < (2 : Int32))⟩
  obtain ⟨T12, h12, X12, e12, W12, st12⟩ := stB X9 hx hZ e9 Ar10 (j := (1 : Int32)) hin11 (g := (mkF m 52 #[.val (.ref a1), .val (.int 1), .val (.int p2)] [(.int ((p2 >>> ((8 : Int32) &&& 31)).toInt8.toInt32)), (.int 1), (.ref a1)])) rfl rfl (hb hby d18_52)
  have s1 := (Keep.of_wr W12).1
  have N12 := Fr.snoc X12 N8 g_a1
  have Vs12 : Arv Z h12 a1 k5 .byte (2 : Int32) [(.int (nar .byte ((p2 >>> ((0 : Int32) &&& 31)).toInt8.toInt32))), (.int (nar .byte ((p2 >>> ((8 : Int32) &&& 31)).toInt8.toInt32)))] (.int 0) := Arv.set Ar10 q10 S10 M10 Hs10 G10 (fits_nar_byte _) W12 1 rfl (Nat.le_of_ble_eq_true rfl)
  have Ex13 := ((E_a1.wr W8).wr W12)
  have Kp0 : Keep h0 h8 [a1] := (Keep.refl h0 [a1]).wr W8 (Or.inl (List.mem_of_getElem? (i := 0) rfl))
  have Kp1 : Keep h0 h12 [a1] := Kp0.wr W12 (Or.inl (List.mem_of_getElem? (i := 0) rfl))
  refine ⟨T12, _, _, _, none, X12, (fun _ => rfl), by decide, by decide, ?_, fun fs hr => ?_⟩
  · rw [e12]
    exact ⟨rfl, N12, Kp1, Ex13, Vs12⟩
  · refine st3 _ ?_
    refine XS.ifYes X3.here hx rfl (pc0 := 3) (pc' := 28) rfl (hb hby d18_3) rfl ((if0 _ _).trans (feq ((by decide : ¬ ((1 : Int32) = (0 : Int32))) : ¬ ((1 : Int32) = (0 : Int32)))).2) (by decide) (by decide) ?_
    refine XS.iloadN X3.here hx rfl (hb hby d18_28) rfl ?_
    refine XS.iconst X3.here hx rfl (hb hby d18_29) ?_
    refine XS.ishl X3.here hx rfl (hb hby d18_30) rfl ?_
    refine XS.istoreN X3.here hx rfl (hb hby d18_31) rfl (l' := #[.val (.ref a1), .val (.int 0), .val (.int p2)]) rfl ?_
    refine XS.aloadN X3.here hx rfl (hb hby d18_32) rfl rfl ?_
    refine XS.iloadN X3.here hx rfl (hb hby d18_33) rfl ?_
    refine XS.iinc X3.here hx rfl (hb hby d18_34) rfl (l' := #[.val (.ref a1), .val (.int 1), .val (.int p2)]) rfl ?_
    refine XS.iloadN X3.here hx rfl (hb hby d18_37) rfl ?_
    refine st4 _ ?_
    show Steps p.tables e below (T4.setTop (mkF m 41 #[.val (.ref a1), .val (.int 1), .val (.int p2)] [(.int 0), (.int p2), (.int 0), (.ref a1)])) _
    refine XS.ishr X4.here hx rfl (hb hby d18_41) rfl ?_
    refine XS.i2b X4.here hx rfl (hb hby d18_42) rfl ?_
    refine st8 _ ?_
    refine XS.aloadN X8.here hx rfl (hb hby d18_44) rfl rfl ?_
    refine XS.iloadN X8.here hx rfl (hb hby d18_45) rfl ?_
    refine XS.iloadN X8.here hx rfl (hb hby d18_46) rfl ?_
    refine st9 _ ?_
    refine XS.ishr X9.here hx rfl (hb hby d18_50) rfl ?_
    refine XS.i2b X9.here hx rfl (hb hby d18_51) rfl ?_
    refine st12 _ ?_
    exact X12.returnOut hx hret (hb hby d18_53) hr
theorem pd_3 : parseMethodDescriptor "([BII)V" = some ⟨[(.array .byte), .int, .int], none⟩ := by decide +kernel
theorem w_79 {a0 : Array Value} {Z : State} (hw : ∀ d ∈ tables_1, d.before a0 Z = true) : Jvm.Cond.before (Jvm.Cond.code ({ cls := "java/lang/StringUTF16", name := "putChar", desc := "([BII)V" } : Jvm.MethodName) jdk_52_method_4_code (3 : Nat) (Option.none : Option Jvm.ClassFile.FieldType)) a0 Z = true := hw _ (List.mem_of_getElem? (i := 79) rfl)
theorem w_77 {a0 : Array Value} {Z : State} (hw : ∀ d ∈ tables_1, d.before a0 Z = true) : Jvm.Cond.before (Jvm.Cond.methodLink "java/lang/StringUTF16" (111 : Nat) ({ cls := "java/lang/StringUTF16", name := "putChar", desc := "([BII)V" } : Jvm.MethodName)) a0 Z = true := hw _ (List.mem_of_getElem? (i := 77) rfl)
theorem w_78 {a0 : Array Value} {Z : State} (hw : ∀ d ∈ tables_1, d.before a0 Z = true) : Jvm.Cond.before (Jvm.Cond.static ({ cls := "java/lang/StringUTF16", name := "putChar", desc := "([BII)V" } : Jvm.MethodName)) a0 Z = true := hw _ (List.mem_of_getElem? (i := 78) rfl)
theorem d15_23 : decode jdk_52_method_14_code 23 = .ok (.iinc 1 1, 3) := by decide +kernel
theorem d15_26 : decode jdk_52_method_14_code 26 = .ok (.iinc 4 1, 3) := by decide +kernel
theorem d15_29 : decode jdk_52_method_14_code 29 = .ok (.goto (-21), 3) := by decide +kernel
theorem d15_32 : decode jdk_52_method_14_code 32 = .ok (.aload_n 3, 1) := by decide +kernel
theorem d15_33 : decode jdk_52_method_14_code 33 = .ok (.areturn, 1) := by decide +kernel
theorem ef_dac4e7 (a1 : Addr) (m : MethodId) : entryFrame m #[(.ref a1), (.int 0), (.int 1)] 5 = mkF m 0 #[.val (.ref a1), .val (.int 0), .val (.int 1), .unset, .unset] [] := by first | (simp [entryFrame, mkF, argsToLocals, Value.category]; done) | rfl
abbrev y_4 : MethodName := ⟨"java/lang/StringUTF16", "toBytes", "([CII)[B"⟩
-- java/lang/StringUTF16.toBytes([CII)[B
abbrev Rm5 : Room := { frames := 2, cells := 1, slots := 2, locals := 24 }
def Q5 (Z : State) (a1 : Addr) (p3 : Int32) (k4 : ClassId) (h0 : Heap) (n0 : Nat) (v : Option Value) (h : Heap) (L : List Loc) : Prop := ∃ b2_b2 : Addr, ∃ k2_k2 : ClassId, v = some (.ref b2_b2) ∧ Fr n0 L ∧ Keep h0 h [] ∧ h0.size ≤ b2_b2 ∧ Exa Z h b2_b2 "[B" ∧ Arv Z h b2_b2 k2_k2 .byte (2 : Int32) [(.int (nar .byte ((p3 >>> ((0 : Int32) &&& 31)).toInt8.toInt32))), (.int (nar .byte ((p3 >>> ((8 : Int32) &&& 31)).toInt8.toInt32)))] (.int 0)
-- ef_dac4e7
theorem rm5 (l : Launch) (Z : State) (a0 : Array Value) (hw : ∀ d ∈ tables_1, d.before a0 Z = true) (ws : List Jvm.Cond) (a1 : Addr) (p3 : Int32) (k4 : ClassId) (h0 : Heap) (n0 : Nat) (Z0 : n0 ≤ h0.size) (V_a1 : Arv Z h0 a1 k4 .char (1 : Int32) [(.int p3)] (.int 0)) (S__assertionsDisabled : Sta Z Z.heap "java/lang/StringUTF16" "$assertionsDisabled" "Z" (.int 1)) (Od0 : Old Z n0 h0) (S_HI_BYTE_SHIFT : Sta Z Z.heap "java/lang/StringUTF16" "HI_BYTE_SHIFT" "I" (.int 0)) (S_LO_BYTE_SHIFT : Sta Z Z.heap "java/lang/StringUTF16" "LO_BYTE_SHIFT" "I" (.int 8)) :
    OwnMet l Z y_4 jdk_52_method_14_code 5 (some (.array .byte)) ws Rm5 #[(.ref a1), (.int 0), (.int 1)] h0 (Q5 Z a1 p3 k4 h0 n0) := by
  refine own_body (plainFor_of_name pn_0) (ef_dac4e7 a1) ?_
  intro p e s m below meth c s₁ hx hby hml hown hnm hret hZ X0 e0
  have N0 := Fr.nil n0
  obtain ⟨_, T2, L2, X2, hQ2, st2⟩ := own_callS X0 hx hZ hown (y := y_2) (w_70 hw) (w_71 hw) (w_18 hw) (w_72 hw) (rm3 l Z a0 hw []  h0 n0 Z0) e0 (Ls := #[.val (.ref a1), .val (.int 0), .val (.int 1), .unset, .unset]) (by rw [hml]; rfl) (argsL := [(.int 1)]) (rest := []) (lenOf pd_2 rfl) (hb hby d15_1) (W := 0)
  obtain ⟨b2_b2, k2_k2, rfl, Nq2, K2, o2_0, o2_1, o2_2⟩ := hQ2
  have N2 := Fr.app N0 Nq2
  have s0 := K2.1
  have Va5 := (V_a1.keep K2 nin0)
  obtain ⟨cl6, Ar6, q6, S6, M6, Hs6, G6⟩ := id Va5
  have hin7 : ¬ ((0 : Int32) < 0 ∨ cl6.slots.size ≤ ((0 : Int32)).toNatClampNeg) := inb_of S6 ⟨(by decide : ¬ ((0 : Int32) < (0 : Int32))), (by decide : (0 : Int32) < (1 : Int32))⟩
  have Od1 : Old Z n0 T2.heap := Od0.keep K2 all0
  have g_b2_b2 : n0 ≤ b2_b2 := Nat.le_trans Z0 o2_0
  have z1 := Nat.le_trans Z0 s0
  obtain ⟨_, T8, L8, X8, hQ8, st8⟩ := own_callS X2 hx hZ hown (y := y_3) (w_77 hw) (w_78 hw) (w_18 hw) (w_79 hw) (rm4 l Z a0 hw [] b2_b2 p3 k2_k2 T2.heap n0 z1 S__assertionsDisabled Od1 S_HI_BYTE_SHIFT o2_2 g_b2_b2 S_LO_BYTE_SHIFT o2_1) rfl (Ls := #[.val (.ref a1), .val (.int 0), .val (.int 1), .val (.ref b2_b2), .val (.int 0)]) (by rw [hml]; rfl) (argsL := [(.ref b2_b2), (.int 0), (.int p3)]) (rest := []) (lenOf pd_3 rfl) (hb hby d15_20) (W := 0)
  obtain ⟨rfl, Nq8, K8, o8_0, o8_1⟩ := hQ8
  have N8 := Fr.app N2 Nq8
  have s1 := K8.1
  have sz_b2_b2 : h0.size ≤ b2_b2 := o2_0
  have Kp0 : Keep h0 T2.heap [] := (Keep.refl h0 []).trans K2 all0
  have Kp1 : Keep h0 T8.heap [] := Kp0.trans K8 (allS (Or.inr sz_b2_b2) all0)
  refine ⟨T8, _, _, _, (some (.ref b2_b2)), X8, nofun, by decide, by decide, ?_, fun fs hr => ?_⟩
  · exact ⟨b2_b2, k2_k2, rfl, N8, Kp1, sz_b2_b2, o8_0, o8_1⟩
  · refine XS.iloadN X0.here hx rfl (hb hby d15_0) rfl ?_
    refine st2 _ ?_
    refine XS.astoreN X2.here hx rfl (hb hby d15_4) rfl rfl (l' := #[.val (.ref a1), .val (.int 0), .val (.int 1), .val (.ref b2_b2), .unset]) rfl ?_
    refine XS.iconst X2.here hx rfl (hb hby d15_5) ?_
    refine XS.istore X2.here hx rfl (hb hby d15_6) rfl (l' := #[.val (.ref a1), .val (.int 0), .val (.int 1), .val (.ref b2_b2), .val (.int 0)]) rfl ?_
    refine XS.iload X2.here hx rfl (hb hby d15_8) rfl ?_
    refine XS.iloadN X2.here hx rfl (hb hby d15_10) rfl ?_
    refine XS.icmpNo X2.here hx rfl (hb hby d15_11) rfl (tlt ((by decide : (0 : Int32) < (1 : Int32)) : (0 : Int32) < (1 : Int32))).2.1 ?_
    refine XS.aloadN X2.here hx rfl (hb hby d15_14) rfl rfl ?_
    refine XS.iload X2.here hx rfl (hb hby d15_15) rfl ?_
    refine XS.aloadN X2.here hx rfl (hb hby d15_17) rfl rfl ?_
    show Steps p.tables e below (T2.setTop (mkF m 18 #[.val (.ref a1), .val (.int 0), .val (.int 1), .val (.ref b2_b2), .val (.int 0)] [(.ref a1), (.int 0), (.ref b2_b2)])) _
    refine XS.iloadN X2.here hx rfl (hb hby d15_18) rfl ?_
    refine X2.caload hx (j := (0 : Int32)) (v := (.int p3)) (Ar6.1) (State.isArrayOf_alike hZ.alike Ar6.2.1) Ar6.2.2 hin7 (Has.at Hs6 hin7 rfl) (g := (mkF m 19 #[.val (.ref a1), .val (.int 0), .val (.int 1), .val (.ref b2_b2), .val (.int 0)] [(.int 0), (.ref a1), (.int 0), (.ref b2_b2)])) rfl rfl (hb hby d15_19) _ ?_
    refine st8 _ ?_
    refine XS.iinc X8.here hx rfl (hb hby d15_23) rfl (l' := #[.val (.ref a1), .val (.int 1), .val (.int 1), .val (.ref b2_b2), .val (.int 0)]) rfl ?_
    refine XS.iinc X8.here hx rfl (hb hby d15_26) rfl (l' := #[.val (.ref a1), .val (.int 1), .val (.int 1), .val (.ref b2_b2), .val (.int 1)]) rfl ?_
    refine XS.goto X8.here hx rfl (pc0 := 29) (pc' := 8) rfl (hb hby d15_29) (by decide) (by decide) ?_
    refine XS.iload X8.here hx rfl (hb hby d15_8) rfl ?_
    refine XS.iloadN X8.here hx rfl (hb hby d15_10) rfl ?_
    refine XS.icmpYes X8.here hx rfl (pc0 := 11) (pc' := 32) rfl (hb hby d15_11) rfl (flt ((by decide : ¬ ((1 : Int32) < (1 : Int32))) : ¬ ((1 : Int32) < (1 : Int32)))).2.1 (by decide) (by decide) ?_
    refine XS.aloadN X8.here hx rfl (hb hby d15_32) rfl rfl ?_
    exact retOut X8 hx hret rfl (Or.inr (Or.inr (Or.inr (Or.inr ⟨rfl, rfl, rfl⟩)))) (hb hby d15_33) hr
theorem pd_4 : parseMethodDescriptor "([CII)[B" = some ⟨[(.array .char), .int, .int], some (.array .byte)⟩ := by decide +kernel
theorem w_69 {a0 : Array Value} {Z : State} (hw : ∀ d ∈ tables_1, d.before a0 Z = true) : Jvm.Cond.before (Jvm.Cond.code ({ cls := "java/lang/StringUTF16", name := "toBytes", desc := "([CII)[B" } : Jvm.MethodName) jdk_52_method_14_code (5 : Nat) (Option.some (Jvm.ClassFile.FieldType.array Jvm.ClassFile.FieldType.byte))) a0 Z = true := hw _ (List.mem_of_getElem? (i := 69) rfl)
theorem w_67 {a0 : Array Value} {Z : State} (hw : ∀ d ∈ tables_1, d.before a0 Z = true) : Jvm.Cond.before (Jvm.Cond.methodLink "java/lang/StringUTF16" (119 : Nat) ({ cls := "java/lang/StringUTF16", name := "toBytes", desc := "([CII)[B" } : Jvm.MethodName)) a0 Z = true := hw _ (List.mem_of_getElem? (i := 67) rfl)
theorem w_68 {a0 : Array Value} {Z : State} (hw : ∀ d ∈ tables_1, d.before a0 Z = true) : Jvm.Cond.before (Jvm.Cond.static ({ cls := "java/lang/StringUTF16", name := "toBytes", desc := "([CII)[B" } : Jvm.MethodName)) a0 Z = true := hw _ (List.mem_of_getElem? (i := 68) rfl)
theorem d4_26 : decode jdk_52_method_16_code 26 = .ok (.astore 5, 2) := by decide +kernel
theorem d4_28 : decode jdk_52_method_16_code 28 = .ok (.aload 5, 2) := by decide +kernel
theorem d4_30 : decode jdk_52_method_16_code 30 = .ok (.iload 4, 2) := by decide +kernel
theorem d4_32 : decode jdk_52_method_16_code 32 = .ok (.invokestatic 71, 3) := by decide +kernel
theorem d19_0 : decode jdk_52_method_5_code 0 = .ok (.getstatic 44, 3) := by decide +kernel
theorem d19_3 : decode jdk_52_method_5_code 3 = .ok (.ifCond .ne 25, 3) := by decide +kernel
theorem d19_28 : decode jdk_52_method_5_code 28 = .ok (.iload_n 1, 1) := by decide +kernel
theorem d19_29 : decode jdk_52_method_5_code 29 = .ok (.iconst 1, 1) := by decide +kernel
theorem d19_30 : decode jdk_52_method_5_code 30 = .ok (.ishl, 1) := by decide +kernel
theorem d19_31 : decode jdk_52_method_5_code 31 = .ok (.istore_n 1, 1) := by decide +kernel
theorem d19_32 : decode jdk_52_method_5_code 32 = .ok (.aload_n 0, 1) := by decide +kernel
theorem d19_33 : decode jdk_52_method_5_code 33 = .ok (.iload_n 1, 1) := by decide +kernel
theorem d19_34 : decode jdk_52_method_5_code 34 = .ok (.iinc 1 1, 3) := by decide +kernel
theorem d19_37 : decode jdk_52_method_5_code 37 = .ok (.baload, 1) := by decide +kernel
theorem d19_38 : decode jdk_52_method_5_code 38 = .ok (.sipush 255, 3) := by decide +kernel
theorem d19_41 : decode jdk_52_method_5_code 41 = .ok (.iand, 1) := by decide +kernel
theorem d19_42 : decode jdk_52_method_5_code 42 = .ok (.getstatic 59, 3) := by decide +kernel
theorem d19_45 : decode jdk_52_method_5_code 45 = .ok (.ishl, 1) := by decide +kernel
theorem d19_46 : decode jdk_52_method_5_code 46 = .ok (.aload_n 0, 1) := by decide +kernel
theorem d19_47 : decode jdk_52_method_5_code 47 = .ok (.iload_n 1, 1) := by decide +kernel
theorem d19_48 : decode jdk_52_method_5_code 48 = .ok (.baload, 1) := by decide +kernel
theorem d19_49 : decode jdk_52_method_5_code 49 = .ok (.sipush 255, 3) := by decide +kernel
theorem d19_52 : decode jdk_52_method_5_code 52 = .ok (.iand, 1) := by decide +kernel
theorem d19_53 : decode jdk_52_method_5_code 53 = .ok (.getstatic 63, 3) := by decide +kernel
theorem d19_56 : decode jdk_52_method_5_code 56 = .ok (.ishl, 1) := by decide +kernel
theorem d19_57 : decode jdk_52_method_5_code 57 = .ok (.ior, 1) := by decide +kernel
theorem d19_58 : decode jdk_52_method_5_code 58 = .ok (.i2c, 1) := by decide +kernel
theorem d19_59 : decode jdk_52_method_5_code 59 = .ok (.ireturn, 1) := by decide +kernel
theorem ef_ed7d6e (a1 : Addr) (m : MethodId) : entryFrame m #[(.ref a1), (.int 0)] 2 = mkF m 0 #[.val (.ref a1), .val (.int 0)] [] := by first | (simp [entryFrame, mkF, argsToLocals, Value.category]; done) | rfl
abbrev y_5 : MethodName := ⟨"java/lang/StringUTF16", "getChar", "([BI)C"⟩
-- java/lang/StringUTF16.getChar([BI)C
abbrev Rm6 : Room := { frames := 0, cells := 0, slots := 0, locals := 0 }
def Q6 (Z : State) (a1 : Addr) (p3 : Int32) (p4 : Int32) (k5 : ClassId) (h0 : Heap) (n0 : Nat) (v : Option Value) (h : Heap) (L : List Loc) : Prop := v = some (.int (nar .char ((((p3 &&& (255 : Int32)) <<< ((0 : Int32) &&& 31)) ||| ((p4 &&& (255 : Int32)) <<< ((8 : Int32) &&& 31))).toUInt32.toUInt16.toUInt32.toInt32))) ∧ Fr n0 L ∧ h = h0
-- ef_ed7d6e
theorem rm6 (l : Launch) (Z : State) (a0 : Array Value) (hw : ∀ d ∈ tables_1, d.before a0 Z = true) (ws : List Jvm.Cond) (a1 : Addr) (p3 : Int32) (p4 : Int32) (k5 : ClassId) (h0 : Heap) (n0 : Nat) (Z0 : n0 ≤ h0.size) (S__assertionsDisabled : Sta Z Z.heap "java/lang/StringUTF16" "$assertionsDisabled" "Z" (.int 1)) (Od0 : Old Z n0 h0) (V_a1 : Arv Z h0 a1 k5 .byte (2 : Int32) [(.int p3), (.int p4)] (.int 0)) (S_HI_BYTE_SHIFT : Sta Z Z.heap "java/lang/StringUTF16" "HI_BYTE_SHIFT" "I" (.int 0)) (S_LO_BYTE_SHIFT : Sta Z Z.heap "java/lang/StringUTF16" "LO_BYTE_SHIFT" "I" (.int 8)) :
    OwnMet l Z y_5 jdk_52_method_5_code 2 (some .char) ws Rm6 #[(.ref a1), (.int 0)] h0 (Q6 Z a1 p3 p4 k5 h0 n0) := by
  refine own_body (plainFor_of_name pn_0) (ef_ed7d6e a1) ?_
  intro p e s m below meth c s₁ hx hby hml hown hnm hret hZ X0 e0
  have N0 := Fr.nil n0
  obtain ⟨T2, X2, e2, st2⟩ := getS2 X0 hx hZ hown (host := "") (Or.inl (w_80 hw)) Via.refl e0 (S__assertionsDisabled.ext Od0.2) (g := (mkF m 0 #[.val (.ref a1), .val (.int 0)] [])) rfl (hb hby d19_0)
  obtain ⟨cl6, Ar6, q6, S6, M6, Hs6, G6⟩ := id V_a1
  have hin7 : ¬ ((0 : Int32) < 0 ∨ cl6.slots.size ≤ ((0 : Int32)).toNatClampNeg) := inb_of S6 ⟨(by decide : ¬ ((0 : Int32) < (0 : Int32))), (by decide : (0 : Int32) < (2 : Int32))⟩
  obtain ⟨T8, X8, e8, st8⟩ := getS2 X2 hx hZ hown (host := "") (Or.inl (w_81 hw)) Via.refl e2 (S_HI_BYTE_SHIFT.ext Od0.2) (g := (mkF m 42 #[.val (.ref a1), .val (.int 1)] [(.int (p3 &&& (255 : Int32)))])) rfl (hb hby d19_42)
  have hin9 : ¬ ((1 : Int32) < 0 ∨ cl6.slots.size ≤ ((1 : Int32)).toNatClampNeg) := inb_of S6 ⟨(by decide : ¬ ((1 : Int32) < (0 : Int32))), (by decide : (1 : Int32) < (2 : Int32))⟩
  obtain ⟨T10, X10, e10, st10⟩ := getS2 X8 hx hZ hown (host := "") (Or.inl (w_82 hw)) Via.refl e8 (S_LO_BYTE_SHIFT.ext Od0.2) (g := (mkF m 53 #[.val (.ref a1), .val (.int 1)] [(.int (p4 &&& (255 : Int32))), (.int ((p3 &&& (255 : Int32)) <<< ((0 : Int32) &&& 31)))])) rfl (hb hby d19_53)
  refine ⟨T10, _, _, _, (some (.int (nar .char ((((p3 &&& (255 : Int32)) <<< ((0 : Int32) &&& 31)) ||| ((p4 &&& (255 : Int32)) <<< ((8 : Int32) &&& 31))).toUInt32.toUInt16.toUInt32.toInt32)))), X10, nofun, by decide, by decide, ?_, fun fs hr => ?_⟩
  · rw [e10]
    exact ⟨rfl, N0, rfl⟩
  · refine st2 _ ?_
    refine XS.ifYes X2.here hx rfl (pc0 := 3) (pc' := 28) rfl (hb hby d19_3) rfl ((if0 _ _).trans (feq ((by decide : ¬ ((1 : Int32) = (0 : Int32))) : ¬ ((1 : Int32) = (0 : Int32)))).2) (by decide) (by decide) ?_
    refine XS.iloadN X2.here hx rfl (hb hby d19_28) rfl ?_
    refine XS.iconst X2.here hx rfl (hb hby d19_29) ?_
    refine XS.ishl X2.here hx rfl (hb hby d19_30) rfl ?_
    refine XS.istoreN X2.here hx rfl (hb hby d19_31) rfl (l' := #[.val (.ref a1), .val (.int 0)]) rfl ?_
    refine XS.aloadN X2.here hx rfl (hb hby d19_32) rfl rfl ?_
    refine XS.iloadN X2.here hx rfl (hb hby d19_33) rfl ?_
    refine XS.iinc X2.here hx rfl (hb hby d19_34) rfl (l' := #[.val (.ref a1), .val (.int 1)]) rfl ?_
    refine X2.baloadBytes hx (j := (0 : Int32)) (v := (.int p3)) (by rw [e2]; exact Ar6.1) (State.isArrayOf_alike hZ.alike Ar6.2.1) Ar6.2.2 hin7 (Has.at Hs6 hin7 rfl) (g := (mkF m 37 #[.val (.ref a1), .val (.int 1)] [(.int 0), (.ref a1)])) rfl rfl (hb hby d19_37) _ ?_
    refine XS.sipush X2.here hx rfl (hb hby d19_38) ?_
    show Steps p.tables e below (T2.setTop (mkF m 41 #[.val (.ref a1), .val (.int 1)] [(.int 255), (.int p3)])) _
    refine XS.iand X2.here hx rfl (hb hby d19_41) rfl ?_
    refine st8 _ ?_
    refine XS.ishl X8.here hx rfl (hb hby d19_45) rfl ?_
    refine XS.aloadN X8.here hx rfl (hb hby d19_46) rfl rfl ?_
    refine XS.iloadN X8.here hx rfl (hb hby d19_47) rfl ?_
    refine X8.baloadBytes hx (j := (1 : Int32)) (v := (.int p4)) (by rw [e8]; exact Ar6.1) (State.isArrayOf_alike hZ.alike Ar6.2.1) Ar6.2.2 hin9 (Has.at Hs6 hin9 rfl) (g := (mkF m 48 #[.val (.ref a1), .val (.int 1)] [(.int 1), (.ref a1), (.int ((p3 &&& (255 : Int32)) <<< ((0 : Int32) &&& 31)))])) rfl rfl (hb hby d19_48) _ ?_
    refine XS.sipush X8.here hx rfl (hb hby d19_49) ?_
    refine XS.iand X8.here hx rfl (hb hby d19_52) rfl ?_
    refine st10 _ ?_
    refine XS.ishl X10.here hx rfl (hb hby d19_56) rfl ?_
    refine XS.ior X10.here hx rfl (hb hby d19_57) rfl ?_
    refine XS.i2c X10.here hx rfl (hb hby d19_58) rfl ?_
    show Steps p.tables e below (T10.setTop (mkF m 59 #[.val (.ref a1), .val (.int 1)] [(.int ((((p3 &&& (255 : Int32)) <<< ((0 : Int32) &&& 31)) ||| ((p4 &&& (255 : Int32)) <<< ((8 : Int32) &&& 31))).toUInt32.toUInt16.toUInt32.toInt32))])) _
    exact retN X10 hx (t := .char) hret (by simp) (hb hby d19_59) hr
theorem pd_5 : parseMethodDescriptor "([BI)C" = some ⟨[(.array .byte), .int], some .char⟩ := by decide +kernel
theorem w_85 {a0 : Array Value} {Z : State} (hw : ∀ d ∈ tables_1, d.before a0 Z = true) : Jvm.Cond.before (Jvm.Cond.code ({ cls := "java/lang/StringUTF16", name := "getChar", desc := "([BI)C" } : Jvm.MethodName) jdk_52_method_5_code (2 : Nat) (Option.some Jvm.ClassFile.FieldType.char)) a0 Z = true := hw _ (List.mem_of_getElem? (i := 85) rfl)
theorem w_83 {a0 : Array Value} {Z : State} (hw : ∀ d ∈ tables_1, d.before a0 Z = true) : Jvm.Cond.before (Jvm.Cond.methodLink "java/lang/StringUTF16" (71 : Nat) ({ cls := "java/lang/StringUTF16", name := "getChar", desc := "([BI)C" } : Jvm.MethodName)) a0 Z = true := hw _ (List.mem_of_getElem? (i := 83) rfl)
theorem w_84 {a0 : Array Value} {Z : State} (hw : ∀ d ∈ tables_1, d.before a0 Z = true) : Jvm.Cond.before (Jvm.Cond.static ({ cls := "java/lang/StringUTF16", name := "getChar", desc := "([BI)C" } : Jvm.MethodName)) a0 Z = true := hw _ (List.mem_of_getElem? (i := 84) rfl)
theorem d4_35 : decode jdk_52_method_16_code 35 = .ok (.sipush 255, 3) := by decide +kernel
theorem d4_38 : decode jdk_52_method_16_code 38 = .ok (.if_icmp .gt 16, 3) := by decide +kernel
theorem d4_54 : decode jdk_52_method_16_code 54 = .ok (.aload 5, 2) := by decide +kernel
theorem d4_56 : decode jdk_52_method_16_code 56 = .ok (.areturn, 1) := by decide +kernel
theorem d5_26 : decode jdk_52_method_21_code 26 = .ok (.aload_n 2, 1) := by decide +kernel
theorem d5_27 : decode jdk_52_method_21_code 27 = .ok (.iload_n 3, 1) := by decide +kernel
theorem d5_28 : decode jdk_52_method_21_code 28 = .ok (.iload 6, 2) := by decide +kernel
theorem d5_30 : decode jdk_52_method_21_code 30 = .ok (.i2b, 1) := by decide +kernel
theorem d5_31 : decode jdk_52_method_21_code 31 = .ok (.bastore, 1) := by decide +kernel
theorem d5_32 : decode jdk_52_method_21_code 32 = .ok (.iinc 1 1, 3) := by decide +kernel
theorem d5_35 : decode jdk_52_method_21_code 35 = .ok (.iinc 3 1, 3) := by decide +kernel
theorem d5_38 : decode jdk_52_method_21_code 38 = .ok (.iinc 5 1, 3) := by decide +kernel
theorem d5_41 : decode jdk_52_method_21_code 41 = .ok (.goto (-38), 3) := by decide +kernel
theorem d5_44 : decode jdk_52_method_21_code 44 = .ok (.iload 4, 2) := by decide +kernel
theorem d5_46 : decode jdk_52_method_21_code 46 = .ok (.ireturn, 1) := by decide +kernel
-- java/lang/StringUTF16.compress([CI[BII)I
abbrev Rm7 : Room := { frames := 0, cells := 0, slots := 0, locals := 0 }
def Q7 (Z : State) (a1 : Addr) (a2 : Addr) (p3 : Int32) (k4 : ClassId) (k8 : ClassId) (h0 : Heap) (n0 : Nat) (v : Option Value) (h : Heap) (L : List Loc) : Prop := v = some (.int 1) ∧ Fr n0 L ∧ Keep h0 h [a2] ∧ Exa Z h a2 "[B" ∧ Arv Z h a2 k8 .byte (1 : Int32) [(.int (nar .byte (p3.toInt8.toInt32)))] (.int 0)
-- ef_bad258
theorem rm7 (l : Launch) (Z : State) (a0 : Array Value) (hw : ∀ d ∈ tables_1, d.before a0 Z = true) (ws : List Jvm.Cond) (a1 : Addr) (a2 : Addr) (p3 : Int32) (k4 : ClassId) (k8 : ClassId) (h0 : Heap) (n0 : Nat) (Z0 : n0 ≤ h0.size) (V_a1 : Arv Z h0 a1 k4 .char (1 : Int32) [(.int p3)] (.int 0)) (c7 : ¬ ((255 : Int32) < p3)) (V_a2 : Arv Z h0 a2 k8 .byte (1 : Int32) [(.int 0)] (.int 0)) (g_a2 : n0 ≤ a2) (E_a2 : Exa Z h0 a2 "[B") :
    OwnMet l Z y_0 jdk_52_method_21_code 7 (some .int) ws Rm7 #[(.ref a1), (.int 0), (.ref a2), (.int 0), (.int 1)] h0 (Q7 Z a1 a2 p3 k4 k8 h0 n0) := by
  refine own_body (plainFor_of_name pn_0) (ef_bad258 a1 a2) ?_
  intro p e s m below meth c s₁ hx hby hml hown hnm hret hZ X0 e0
  have N0 := Fr.nil n0
  obtain ⟨cl5, Ar5, q5, S5, M5, Hs5, G5⟩ := id V_a1
  have hin6 : ¬ ((0 : Int32) < 0 ∨ cl5.slots.size ≤ ((0 : Int32)).toNatClampNeg) := inb_of S5 ⟨(by decide : ¬ ((0 : Int32) < (0 : Int32))), (by decide : (0 : Int32) < (1 : Int32))⟩
  obtain ⟨cl9, Ar9, q9, S9, M9, Hs9, G9⟩ := id V_a2
  have hin10 : ¬ ((0 : Int32) < 0 ∨ cl9.slots.size ≤ ((0 : Int32)).toNatClampNeg) := inb_of S9 ⟨(by decide : ¬ ((0 : Int32) < (0 : Int32))), (by decide : (0 : Int32) < (1 : Int32))⟩
  obtain ⟨T11, h11, X11, e11, W11, st11⟩ := stB X0 hx hZ e0 Ar9 (j := (0 : Int32)) hin10 (g := (mkF m 31 #[.val (.ref a1), .val (.int 0), .val (.ref a2), .val (.int 0), .val (.int 1), .val (.int 0), .val (.int p3)] [(.int (p3.toInt8.toInt32)), (.int 0), (.ref a2)])) rfl rfl (hb hby d5_31)
  have s0 := (Keep.of_wr W11).1
  have N11 := Fr.snoc X11 N0 g_a2
  have Vs11 : Arv Z h11 a2 k8 .byte (1 : Int32) [(.int (nar .byte (p3.toInt8.toInt32)))] (.int 0) := Arv.set Ar9 q9 S9 M9 Hs9 G9 (fits_nar_byte _) W11 0 rfl (Nat.le_of_ble_eq_true rfl)
  have Ex12 := (E_a2.wr W11)
  have Kp0 : Keep h0 h11 [a2] := (Keep.refl h0 [a2]).wr W11 (Or.inl (List.mem_of_getElem? (i := 0) rfl))
  refine ⟨T11, _, _, _, (some (.int 1)), X11, nofun, by decide, by decide, ?_, fun fs hr => ?_⟩
  · rw [e11]
    exact ⟨rfl, N11, Kp0, Ex12, Vs11⟩
  · refine XS.iconst X0.here hx rfl (hb hby d5_0) ?_
    refine XS.istore X0.here hx rfl (hb hby d5_1) rfl (l' := #[.val (.ref a1), .val (.int 0), .val (.ref a2), .val (.int 0), .val (.int 1), .val (.int 0), .unset]) rfl ?_
    refine XS.iload X0.here hx rfl (hb hby d5_3) rfl ?_
    refine XS.iload X0.here hx rfl (hb hby d5_5) rfl ?_
    refine XS.icmpNo X0.here hx rfl (hb hby d5_7) rfl (tlt ((by decide : (0 : Int32) < (1 : Int32)) : (0 : Int32) < (1 : Int32))).2.1 ?_
    refine XS.aloadN X0.here hx rfl (hb hby d5_10) rfl rfl ?_
    refine XS.iloadN X0.here hx rfl (hb hby d5_11) rfl ?_
    refine X0.caload hx (j := (0 : Int32)) (v := (.int p3)) (by rw [e0]; exact Ar5.1) (State.isArrayOf_alike hZ.alike Ar5.2.1) Ar5.2.2 hin6 (Has.at Hs5 hin6 rfl) (g := (mkF m 12 #[.val (.ref a1), .val (.int 0), .val (.ref a2), .val (.int 0), .val (.int 1), .val (.int 0), .unset] [(.int 0), (.ref a1)])) rfl rfl (hb hby d5_12) _ ?_
    refine XS.istore X0.here hx rfl (hb hby d5_13) rfl (l' := #[.val (.ref a1), .val (.int 0), .val (.ref a2), .val (.int 0), .val (.int 1), .val (.int 0), .val (.int p3)]) rfl ?_
    refine XS.iload X0.here hx rfl (hb hby d5_15) rfl ?_
    refine XS.sipush X0.here hx rfl (hb hby d5_17) ?_
    show Steps p.tables e below (s₁.setTop (mkF m 20 #[.val (.ref a1), .val (.int 0), .val (.ref a2), .val (.int 0), .val (.int 1), .val (.int 0), .val (.int p3)] [(.int 255), (.int p3)])) _
    refine XS.icmpYes X0.here hx rfl (pc0 := 20) (pc' := 26) rfl (hb hby d5_20) rfl (flt (c7 : ¬ ((255 : Int32) < p3))).2.2.2 (by decide) (by decide) ?_
    refine XS.aloadN X0.here hx rfl (hb hby d5_26) rfl rfl ?_
    refine XS.iloadN X0.here hx rfl (hb hby d5_27) rfl ?_
    refine XS.iload X0.here hx rfl (hb hby d5_28) rfl ?_
    refine XS.i2b X0.here hx rfl (hb hby d5_30) rfl ?_
    refine st11 _ ?_
    refine XS.iinc X11.here hx rfl (hb hby d5_32) rfl (l' := #[.val (.ref a1), .val (.int 1), .val (.ref a2), .val (.int 0), .val (.int 1), .val (.int 0), .val (.int p3)]) rfl ?_
    refine XS.iinc X11.here hx rfl (hb hby d5_35) rfl (l' := #[.val (.ref a1), .val (.int 1), .val (.ref a2), .val (.int 1), .val (.int 1), .val (.int 0), .val (.int p3)]) rfl ?_
    refine XS.iinc X11.here hx rfl (hb hby d5_38) rfl (l' := #[.val (.ref a1), .val (.int 1), .val (.ref a2), .val (.int 1), .val (.int 1), .val (.int 1), .val (.int p3)]) rfl ?_
    refine XS.goto X11.here hx rfl (pc0 := 41) (pc' := 3) rfl (hb hby d5_41) (by decide) (by decide) ?_
    refine XS.iload X11.here hx rfl (hb hby d5_3) rfl ?_
    refine XS.iload X11.here hx rfl (hb hby d5_5) rfl ?_
    show Steps p.tables e below (T11.setTop (mkF m 7 #[.val (.ref a1), .val (.int 1), .val (.ref a2), .val (.int 1), .val (.int 1), .val (.int 1), .val (.int p3)] [(.int 1), (.int 1)])) _
    refine XS.icmpYes X11.here hx rfl (pc0 := 7) (pc' := 44) rfl (hb hby d5_7) rfl (flt ((by decide : ¬ ((1 : Int32) < (1 : Int32))) : ¬ ((1 : Int32) < (1 : Int32)))).2.1 (by decide) (by decide) ?_
    refine XS.iload X11.here hx rfl (hb hby d5_44) rfl ?_
    exact retI X11 hx hret (hb hby d5_46) hr
theorem d4_57 : decode jdk_52_method_16_code 57 = .ok (.aload_n 3, 1) := by decide +kernel
theorem d4_58 : decode jdk_52_method_16_code 58 = .ok (.areturn, 1) := by decide +kernel
theorem ef_1b50a4 (a1 : Addr) (m : MethodId) : entryFrame m #[(.ref a1), (.int 0), (.int 1)] 6 = mkF m 0 #[.val (.ref a1), .val (.int 0), .val (.int 1), .unset, .unset, .unset] [] := by first | (simp [entryFrame, mkF, argsToLocals, Value.category]; done) | rfl
abbrev y_6 : MethodName := ⟨"java/lang/StringUTF16", "compress", "([CII)[B"⟩
-- java/lang/StringUTF16.compress([CII)[B
abbrev Rm8 : Room := { frames := 3, cells := 2, slots := 3, locals := 40 }
def Q8 (Z : State) (a1 : Addr) (p3 : Int32) (k4 : ClassId) (h0 : Heap) (n0 : Nat) (v : Option Value) (h : Heap) (L : List Loc) : Prop := ∃ m0 : Addr, ∃ kk1 : ClassId, ∃ uu2 : List Value, v = some (.ref m0) ∧ Fr n0 L ∧ Keep h0 h [] ∧ h0.size ≤ m0 ∧ Exa Z h m0 "[B" ∧ Arv Z h m0 kk1 .byte (if (255 : Int32) < p3 then (2 : Int32) else (1 : Int32)) uu2 (.int 0)
-- ef_1b50a4
theorem rm8_0 (l : Launch) (Z : State) (a0 : Array Value) (hw : ∀ d ∈ tables_1, d.before a0 Z = true) (ws : List Jvm.Cond) (a1 : Addr) (p3 : Int32) (k4 : ClassId) (h0 : Heap) (n0 : Nat) (Z0 : n0 ≤ h0.size) (V_a1 : Arv Z h0 a1 k4 .char (1 : Int32) [(.int p3)] (.int 0)) (S__assertionsDisabled : Sta Z Z.heap "java/lang/StringUTF16" "$assertionsDisabled" "Z" (.int 1)) (Od0 : Old Z n0 h0) (S_HI_BYTE_SHIFT : Sta Z Z.heap "java/lang/StringUTF16" "HI_BYTE_SHIFT" "I" (.int 0)) (S_LO_BYTE_SHIFT : Sta Z Z.heap "java/lang/StringUTF16" "LO_BYTE_SHIFT" "I" (.int 8)) (c11 : ¬ (p3 < (0 : Int32))) (c12 : ¬ ((65535 : Int32) < p3)) (cc1 : (255 : Int32) < p3) :
    OwnMet l Z y_6 jdk_52_method_16_code 6 (some (.array .byte)) ws Rm8 #[(.ref a1), (.int 0), (.int 1)] h0 (Q8 Z a1 p3 k4 h0 n0) := by
  refine own_body (plainFor_of_name pn_0) (ef_1b50a4 a1) ?_
  intro p e s m below meth c s₁ hx hby hml hown hnm hret hZ X0 e0
  have N0 := Fr.nil n0
  obtain ⟨T6, h6, k6, X6, e6, E6, A6, B6, st6⟩ := newPE (aty := .byte) X0 hx hZ (w_20 hw) e0 (g := (mkF m 1 #[.val (.ref a1), .val (.int 0), .val (.int 1), .unset, .unset, .unset] [(.int 1)])) rfl (hb hby d4_1) rfl (by decide) (cap := 1) (by decide) (by decide) (by decide) (by decide) (ad := "[B") (by decide)
  obtain ⟨b6, g6⟩ : ∃ z, z = h0.size := ⟨_, rfl⟩
  rw [← g6] at A6 B6 st6
  have s0 := E6.1
  have Vn6 : Arv Z h6 b6 k6 .byte (1 : Int32) [(.int 0)] (.int 0) := (Arv.new A6 (by decide)).pad (pad_rep [] (.int 0) 1)
  have Va7 := (V_a1.ext E6)
  have z1 := Nat.le_trans Z0 s0
  obtain ⟨_, T8, L8, X8, hQ8, st8⟩ := own_callS X6 hx hZ hown (y := y_0) (w_21 hw) (w_22 hw) (w_18 hw) (w_23 hw) (rm1 l Z a0 hw [] a1 b6 p3 k4 h6 n0 z1 Va7 cc1) e6 (Ls := #[.val (.ref a1), .val (.int 0), .val (.int 1), .val (.ref b6), .unset, .unset]) (by rw [hml]; rfl) (argsL := [(.ref a1), (.int 0), (.ref b6), (.int 0), (.int 1)]) (rest := []) (lenOf pd_0 rfl) (hb hby d4_9) (W := 0)
  obtain ⟨rfl, Nq8, e8⟩ := hQ8
  have N8 := Fr.app N0 Nq8
  have Od1 : Old Z n0 h6 := Od0.ext E6
  obtain ⟨_, T9, L9, X9, hQ9, st9⟩ := own_callS X8 hx hZ hown (y := y_4) (w_67 hw) (w_68 hw) (w_18 hw) (w_69 hw) (rm5 l Z a0 hw [] a1 p3 k4 h6 n0 z1 Va7 S__assertionsDisabled Od1 S_HI_BYTE_SHIFT S_LO_BYTE_SHIFT) e8 (Ls := #[.val (.ref a1), .val (.int 0), .val (.int 1), .val (.ref b6), .val (.int 0), .unset]) (by rw [hml]; rfl) (argsL := [(.ref a1), (.int 0), (.int 1)]) (rest := []) (lenOf pd_4 rfl) (hb hby d4_23) (W := 0)
  obtain ⟨b9_b2_b2, k9_k2_k2, rfl, Nq9, K9, o9_0, o9_1, o9_2⟩ := hQ9
  have N9 := Fr.app N8 Nq9
  have s1 := K9.1
  have Od2 : Old Z n0 T9.heap := Od1.keep K9 all0
  have z2 := Nat.le_trans Z0 (Nat.le_trans s0 s1)
  obtain ⟨_, T10, L10, X10, hQ10, st10⟩ := own_callS X9 hx hZ hown (y := y_5) (w_83 hw) (w_84 hw) (w_18 hw) (w_85 hw) (rm6 l Z a0 hw [] b9_b2_b2 (nar .byte ((p3 >>> ((0 : Int32) &&& 31)).toInt8.toInt32)) (nar .byte ((p3 >>> ((8 : Int32) &&& 31)).toInt8.toInt32)) k9_k2_k2 T9.heap n0 z2 S__assertionsDisabled Od2 o9_2 S_HI_BYTE_SHIFT S_LO_BYTE_SHIFT) rfl (Ls := #[.val (.ref a1), .val (.int 0), .val (.int 1), .val (.ref b6), .val (.int 0), .val (.ref b9_b2_b2)]) (by rw [hml]; rfl) (argsL := [(.ref b9_b2_b2), (.int 0)]) (rest := []) (lenOf pd_5 rfl) (hb hby d4_32) (W := 0)
  obtain ⟨rfl, Nq10, e10⟩ := hQ10
  have N10 := Fr.app N9 Nq10
  have cd13 : (255 : Int32) < (nar .char (((((nar .byte ((p3 >>> ((0 : Int32) &&& 31)).toInt8.toInt32)) &&& (255 : Int32)) <<< ((0 : Int32) &&& 31)) ||| (((nar .byte ((p3 >>> ((8 : Int32) &&& 31)).toInt8.toInt32)) &&& (255 : Int32)) <<< ((8 : Int32) &&& 31))).toUInt32.toUInt16.toUInt32.toInt32)) := (by rw [own_rcN p3 c11 c12]; exact cc1)
  have sz_b9_b2_b2 : h0.size ≤ b9_b2_b2 := Nat.le_trans s0 o9_0
  have Kp0 : Keep h0 h6 [] := (Keep.refl h0 []).ext E6
  have Kp1 : Keep h0 T9.heap [] := Kp0.trans K9 all0
  refine ⟨T10, _, _, _, (some (.ref b9_b2_b2)), X10, nofun, by decide, by decide, ?_, fun fs hr => ?_⟩
  · rw [e10]
    unfold Q8
    rw [show (if (255 : Int32) < p3 then (2 : Int32) else (1 : Int32)) = (2 : Int32) from by rw [if_pos cc1]]
    exact ⟨b9_b2_b2, k9_k2_k2, [(.int (nar .byte ((p3 >>> ((0 : Int32) &&& 31)).toInt8.toInt32))), (.int (nar .byte ((p3 >>> ((8 : Int32) &&& 31)).toInt8.toInt32)))], rfl, N10, Kp1, sz_b9_b2_b2, o9_1, o9_2⟩
  · refine XS.iloadN X0.here hx rfl (hb hby d4_0) rfl ?_
    refine st6 _ ?_
    refine XS.astoreN X6.here hx rfl (hb hby d4_3) rfl rfl (l' := #[.val (.ref a1), .val (.int 0), .val (.int 1), .val (.ref b6), .unset, .unset]) rfl ?_
    refine XS.aloadN X6.here hx rfl (hb hby d4_4) rfl rfl ?_
    refine XS.iloadN X6.here hx rfl (hb hby d4_5) rfl ?_
    refine XS.aloadN X6.here hx rfl (hb hby d4_6) rfl rfl ?_
    refine XS.iconst X6.here hx rfl (hb hby d4_7) ?_
    refine XS.iloadN X6.here hx rfl (hb hby d4_8) rfl ?_
    refine st8 _ ?_
    refine XS.istore X8.here hx rfl (hb hby d4_12) rfl (l' := #[.val (.ref a1), .val (.int 0), .val (.int 1), .val (.ref b6), .val (.int 0), .unset]) rfl ?_
    refine XS.iload X8.here hx rfl (hb hby d4_14) rfl ?_
    show Steps p.tables e below (T8.setTop (mkF m 16 #[.val (.ref a1), .val (.int 0), .val (.int 1), .val (.ref b6), .val (.int 0), .unset] [(.int 0)])) _
    refine XS.iloadN X8.here hx rfl (hb hby d4_16) rfl ?_
    refine XS.icmpNo X8.here hx rfl (hb hby d4_17) rfl (feq ((by decide : ¬ ((0 : Int32) = (1 : Int32))) : ¬ ((0 : Int32) = (1 : Int32)))).1 ?_
    refine XS.aloadN X8.here hx rfl (hb hby d4_20) rfl rfl ?_
    refine XS.iloadN X8.here hx rfl (hb hby d4_21) rfl ?_
    refine XS.iloadN X8.here hx rfl (hb hby d4_22) rfl ?_
    refine st9 _ ?_
    refine XS.astore X9.here hx rfl (hb hby d4_26) rfl rfl (l' := #[.val (.ref a1), .val (.int 0), .val (.int 1), .val (.ref b6), .val (.int 0), .val (.ref b9_b2_b2)]) rfl ?_
    refine XS.aload X9.here hx rfl (hb hby d4_28) rfl rfl ?_
    refine XS.iload X9.here hx rfl (hb hby d4_30) rfl ?_
    refine st10 _ ?_
    refine XS.sipush X10.here hx rfl (hb hby d4_35) ?_
    refine XS.icmpYes X10.here hx rfl (pc0 := 38) (pc' := 54) rfl (hb hby d4_38) rfl (tlt (cd13 : (255 : Int32) < (nar .char (((((nar .byte ((p3 >>> ((0 : Int32) &&& 31)).toInt8.toInt32)) &&& (255 : Int32)) <<< ((0 : Int32) &&& 31)) ||| (((nar .byte ((p3 >>> ((8 : Int32) &&& 31)).toInt8.toInt32)) &&& (255 : Int32)) <<< ((8 : Int32) &&& 31))).toUInt32.toUInt16.toUInt32.toInt32)))).2.2.1 (by decide) (by decide) ?_
    show Steps p.tables e below (T10.setTop (mkF m 54 #[.val (.ref a1), .val (.int 0), .val (.int 1), .val (.ref b6), .val (.int 0), .val (.ref b9_b2_b2)] [])) _
    refine XS.aload X10.here hx rfl (hb hby d4_54) rfl rfl ?_
    exact retOut X10 hx hret rfl (Or.inr (Or.inr (Or.inr (Or.inr ⟨rfl, rfl, rfl⟩)))) (hb hby d4_56) hr
theorem rm8_1 (l : Launch) (Z : State) (a0 : Array Value) (hw : ∀ d ∈ tables_1, d.before a0 Z = true) (ws : List Jvm.Cond) (a1 : Addr) (p3 : Int32) (k4 : ClassId) (h0 : Heap) (n0 : Nat) (Z0 : n0 ≤ h0.size) (V_a1 : Arv Z h0 a1 k4 .char (1 : Int32) [(.int p3)] (.int 0)) (S__assertionsDisabled : Sta Z Z.heap "java/lang/StringUTF16" "$assertionsDisabled" "Z" (.int 1)) (Od0 : Old Z n0 h0) (S_HI_BYTE_SHIFT : Sta Z Z.heap "java/lang/StringUTF16" "HI_BYTE_SHIFT" "I" (.int 0)) (S_LO_BYTE_SHIFT : Sta Z Z.heap "java/lang/StringUTF16" "LO_BYTE_SHIFT" "I" (.int 8)) (c11 : ¬ (p3 < (0 : Int32))) (c12 : ¬ ((65535 : Int32) < p3)) (cc1 : ¬ ((255 : Int32) < p3)) :
    OwnMet l Z y_6 jdk_52_method_16_code 6 (some (.array .byte)) ws Rm8 #[(.ref a1), (.int 0), (.int 1)] h0 (Q8 Z a1 p3 k4 h0 n0) := by
  refine own_body (plainFor_of_name pn_0) (ef_1b50a4 a1) ?_
  intro p e s m below meth c s₁ hx hby hml hown hnm hret hZ X0 e0
  have N0 := Fr.nil n0
  obtain ⟨T14, h14, k14, X14, e14, E14, A14, B14, st14⟩ := newPE (aty := .byte) X0 hx hZ (w_20 hw) e0 (g := (mkF m 1 #[.val (.ref a1), .val (.int 0), .val (.int 1), .unset, .unset, .unset] [(.int 1)])) rfl (hb hby d4_1) rfl (by decide) (cap := 1) (by decide) (by decide) (by decide) (by decide) (ad := "[B") (by decide)
  obtain ⟨b14, g14⟩ : ∃ z, z = h0.size := ⟨_, rfl⟩
  rw [← g14] at A14 B14 st14
  have s0 := E14.1
  have Vn14 : Arv Z h14 b14 k14 .byte (1 : Int32) [(.int 0)] (.int 0) := (Arv.new A14 (by decide)).pad (pad_rep [] (.int 0) 1)
  have Va15 := (V_a1.ext E14)
  have g_b14 : n0 ≤ b14 := Nat.le_trans Z0 (Nat.le_of_eq g14.symm)
  have z1 := Nat.le_trans Z0 s0
  obtain ⟨_, T16, L16, X16, hQ16, st16⟩ := own_callS X14 hx hZ hown (y := y_0) (w_21 hw) (w_22 hw) (w_18 hw) (w_23 hw) (rm7 l Z a0 hw [] a1 b14 p3 k4 k14 h14 n0 z1 Va15 cc1 Vn14 g_b14 B14) e14 (Ls := #[.val (.ref a1), .val (.int 0), .val (.int 1), .val (.ref b14), .unset, .unset]) (by rw [hml]; rfl) (argsL := [(.ref a1), (.int 0), (.ref b14), (.int 0), (.int 1)]) (rest := []) (lenOf pd_0 rfl) (hb hby d4_9) (W := 0)
  obtain ⟨rfl, Nq16, K16, o16_0, o16_1⟩ := hQ16
  have N16 := Fr.app N0 Nq16
  have s1 := K16.1
  have sz_b14 : h0.size ≤ b14 := (Nat.le_of_eq g14.symm)
  have Kp0 : Keep h0 h14 [] := (Keep.refl h0 []).ext E14
  have Kp1 : Keep h0 T16.heap [] := Kp0.trans K16 (allS (Or.inr sz_b14) all0)
  refine ⟨T16, _, _, _, (some (.ref b14)), X16, nofun, by decide, by decide, ?_, fun fs hr => ?_⟩
  · unfold Q8
    rw [show (if (255 : Int32) < p3 then (2 : Int32) else (1 : Int32)) = (1 : Int32) from by rw [if_neg cc1]]
    exact ⟨b14, k14, [(.int (nar .byte (p3.toInt8.toInt32)))], rfl, N16, Kp1, sz_b14, o16_0, o16_1⟩
  · refine XS.iloadN X0.here hx rfl (hb hby d4_0) rfl ?_
    refine st14 _ ?_
    refine XS.astoreN X14.here hx rfl (hb hby d4_3) rfl rfl (l' := #[.val (.ref a1), .val (.int 0), .val (.int 1), .val (.ref b14), .unset, .unset]) rfl ?_
    refine XS.aloadN X14.here hx rfl (hb hby d4_4) rfl rfl ?_
    refine XS.iloadN X14.here hx rfl (hb hby d4_5) rfl ?_
    refine XS.aloadN X14.here hx rfl (hb hby d4_6) rfl rfl ?_
    refine XS.iconst X14.here hx rfl (hb hby d4_7) ?_
    refine XS.iloadN X14.here hx rfl (hb hby d4_8) rfl ?_
    refine st16 _ ?_
    refine XS.istore X16.here hx rfl (hb hby d4_12) rfl (l' := #[.val (.ref a1), .val (.int 0), .val (.int 1), .val (.ref b14), .val (.int 1), .unset]) rfl ?_
    refine XS.iload X16.here hx rfl (hb hby d4_14) rfl ?_
    show Steps p.tables e below (T16.setTop (mkF m 16 #[.val (.ref a1), .val (.int 0), .val (.int 1), .val (.ref b14), .val (.int 1), .unset] [(.int 1)])) _
    refine XS.iloadN X16.here hx rfl (hb hby d4_16) rfl ?_
    refine XS.icmpYes X16.here hx rfl (pc0 := 17) (pc' := 57) rfl (hb hby d4_17) rfl (teq ((by decide : (1 : Int32) = (1 : Int32)) : (1 : Int32) = (1 : Int32))).1 (by decide) (by decide) ?_
    refine XS.aloadN X16.here hx rfl (hb hby d4_57) rfl rfl ?_
    exact retOut X16 hx hret rfl (Or.inr (Or.inr (Or.inr (Or.inr ⟨rfl, rfl, rfl⟩)))) (hb hby d4_58) hr
theorem rm8 (l : Launch) (Z : State) (a0 : Array Value) (hw : ∀ d ∈ tables_1, d.before a0 Z = true) (ws : List Jvm.Cond) (a1 : Addr) (p3 : Int32) (k4 : ClassId) (h0 : Heap) (n0 : Nat) (Z0 : n0 ≤ h0.size) (V_a1 : Arv Z h0 a1 k4 .char (1 : Int32) [(.int p3)] (.int 0)) (S__assertionsDisabled : Sta Z Z.heap "java/lang/StringUTF16" "$assertionsDisabled" "Z" (.int 1)) (Od0 : Old Z n0 h0) (S_HI_BYTE_SHIFT : Sta Z Z.heap "java/lang/StringUTF16" "HI_BYTE_SHIFT" "I" (.int 0)) (S_LO_BYTE_SHIFT : Sta Z Z.heap "java/lang/StringUTF16" "LO_BYTE_SHIFT" "I" (.int 8)) (c11 : ¬ (p3 < (0 : Int32))) (c12 : ¬ ((65535 : Int32) < p3)) :
    OwnMet l Z y_6 jdk_52_method_16_code 6 (some (.array .byte)) ws Rm8 #[(.ref a1), (.int 0), (.int 1)] h0 (Q8 Z a1 p3 k4 h0 n0) := by
  by_cases cc1 : (255 : Int32) < p3
  · exact rm8_0 l Z a0 hw ws a1 p3 k4 h0 n0 Z0 V_a1 S__assertionsDisabled Od0 S_HI_BYTE_SHIFT S_LO_BYTE_SHIFT c11 c12 cc1
  · exact rm8_1 l Z a0 hw ws a1 p3 k4 h0 n0 Z0 V_a1 S__assertionsDisabled Od0 S_HI_BYTE_SHIFT S_LO_BYTE_SHIFT c11 c12 cc1
theorem w_19 {a0 : Array Value} {Z : State} (hw : ∀ d ∈ tables_1, d.before a0 Z = true) : Jvm.Cond.before (Jvm.Cond.code ({ cls := "java/lang/StringUTF16", name := "compress", desc := "([CII)[B" } : Jvm.MethodName) jdk_52_method_16_code (6 : Nat) (Option.some (Jvm.ClassFile.FieldType.array Jvm.ClassFile.FieldType.byte))) a0 Z = true := hw _ (List.mem_of_getElem? (i := 19) rfl)
theorem w_16 {a0 : Array Value} {Z : State} (hw : ∀ d ∈ tables_1, d.before a0 Z = true) : Jvm.Cond.before (Jvm.Cond.methodLink "java/lang/String" (177 : Nat) ({ cls := "java/lang/StringUTF16", name := "compress", desc := "([CII)[B" } : Jvm.MethodName)) a0 Z = true := hw _ (List.mem_of_getElem? (i := 16) rfl)
theorem w_17 {a0 : Array Value} {Z : State} (hw : ∀ d ∈ tables_1, d.before a0 Z = true) : Jvm.Cond.before (Jvm.Cond.static ({ cls := "java/lang/StringUTF16", name := "compress", desc := "([CII)[B" } : Jvm.MethodName)) a0 Z = true := hw _ (List.mem_of_getElem? (i := 17) rfl)
theorem d2_39 : decode jdk_42_method_149_code 39 = .ok (.astore 5, 2) := by decide +kernel
theorem d2_41 : decode jdk_42_method_149_code 41 = .ok (.aload_n 0, 1) := by decide +kernel
theorem d2_42 : decode jdk_42_method_149_code 42 = .ok (.aload 5, 2) := by decide +kernel
theorem d2_44 : decode jdk_42_method_149_code 44 = .ok (.iload_n 3, 1) := by decide +kernel
theorem d2_45 : decode jdk_42_method_149_code 45 = .ok (.invokestatic 47, 3) := by decide +kernel
theorem d6_0 : decode jdk_52_method_15_code 0 = .ok (.iload_n 1, 1) := by decide +kernel
theorem d6_1 : decode jdk_52_method_15_code 1 = .ok (.aload_n 0, 1) := by decide +kernel
theorem d6_2 : decode jdk_52_method_15_code 2 = .ok (.arraylength, 1) := by decide +kernel
theorem d6_3 : decode jdk_52_method_15_code 3 = .ok (.isub, 1) := by decide +kernel
theorem d6_4 : decode jdk_52_method_15_code 4 = .ok (.bipush 31, 2) := by decide +kernel
theorem d6_6 : decode jdk_52_method_15_code 6 = .ok (.iushr, 1) := by decide +kernel
theorem d6_7 : decode jdk_52_method_15_code 7 = .ok (.i2b, 1) := by decide +kernel
theorem d6_8 : decode jdk_52_method_15_code 8 = .ok (.ireturn, 1) := by decide +kernel
theorem ef_218e7d (a1 : Addr) (m : MethodId) : entryFrame m #[(.ref a1), (.int 1)] 2 = mkF m 0 #[.val (.ref a1), .val (.int 1)] [] := by first | (simp [entryFrame, mkF, argsToLocals, Value.category]; done) | rfl
abbrev y_7 : MethodName := ⟨"java/lang/StringUTF16", "coderFromArrayLen", "([BI)B"⟩
-- java/lang/StringUTF16.coderFromArrayLen([BI)B
abbrev Rm9 : Room := { frames := 0, cells := 0, slots := 0, locals := 0 }
def Q9 (Z : State) (a1 : Addr) (u2 : List Value) (k3 : ClassId) (p4 : Int32) (h0 : Heap) (n0 : Nat) (v : Option Value) (h : Heap) (L : List Loc) : Prop := v = some (.int (nar .byte (((((1 : Int32) - p4).toUInt32 >>> ((31 : Int32) &&& 31).toUInt32).toInt32).toInt8.toInt32))) ∧ Fr n0 L ∧ h = h0
-- ef_218e7d
theorem rm9 (l : Launch) (Z : State) (a0 : Array Value) (hw : ∀ d ∈ tables_1, d.before a0 Z = true) (ws : List Jvm.Cond) (a1 : Addr) (u2 : List Value) (k3 : ClassId) (p4 : Int32) (h0 : Heap) (n0 : Nat) (Z0 : n0 ≤ h0.size) (V_a1 : Arv Z h0 a1 k3 .byte p4 u2 (.int 0)) :
    OwnMet l Z y_7 jdk_52_method_15_code 2 (some .byte) ws Rm9 #[(.ref a1), (.int 1)] h0 (Q9 Z a1 u2 k3 p4 h0 n0) := by
  refine own_body (plainFor_of_name pn_0) (ef_218e7d a1) ?_
  intro p e s m below meth c s₁ hx hby hml hown hnm hret hZ X0 e0
  have N0 := Fr.nil n0
  obtain ⟨cl5, Ar5, q5, S5, M5, Hs5, G5⟩ := id V_a1
  refine ⟨s₁, _, _, _, (some (.int (nar .byte (((((1 : Int32) - p4).toUInt32 >>> ((31 : Int32) &&& 31).toUInt32).toInt32).toInt8.toInt32)))), X0, nofun, by decide, by decide, ?_, fun fs hr => ?_⟩
  · rw [e0]
    exact ⟨rfl, N0, rfl⟩
  · refine XS.iloadN X0.here hx rfl (hb hby d6_0) rfl ?_
    refine XS.aloadN X0.here hx rfl (hb hby d6_1) rfl rfl ?_
    refine X0.arraylength hx (by rw [e0]; exact Ar5.1) (State.isArrayOf_alike hZ.alike Ar5.2.1) (g := (mkF m 2 #[.val (.ref a1), .val (.int 1)] [(.ref a1), (.int 1)])) rfl rfl (hb hby d6_2) _ ?_
    show Steps p.tables e below (s₁.setTop (mkF m 3 #[.val (.ref a1), .val (.int 1)] [(.int cl5.slots.size.toInt32), (.int 1)])) _
    rw [len_of S5 M5]
    refine XS.isub X0.here hx rfl (hb hby d6_3) rfl ?_
    refine XS.bipush X0.here hx rfl (hb hby d6_4) ?_
    refine XS.iushr X0.here hx rfl (hb hby d6_6) rfl ?_
    refine XS.i2b X0.here hx rfl (hb hby d6_7) rfl ?_
    exact retN X0 hx (t := .byte) hret (by simp) (hb hby d6_8) hr
theorem pd_6 : parseMethodDescriptor "([BI)B" = some ⟨[(.array .byte), .int], some .byte⟩ := by decide +kernel
theorem w_26 {a0 : Array Value} {Z : State} (hw : ∀ d ∈ tables_1, d.before a0 Z = true) : Jvm.Cond.before (Jvm.Cond.code ({ cls := "java/lang/StringUTF16", name := "coderFromArrayLen", desc := "([BI)B" } : Jvm.MethodName) jdk_52_method_15_code (2 : Nat) (Option.some Jvm.ClassFile.FieldType.byte)) a0 Z = true := hw _ (List.mem_of_getElem? (i := 26) rfl)
theorem w_24 {a0 : Array Value} {Z : State} (hw : ∀ d ∈ tables_1, d.before a0 Z = true) : Jvm.Cond.before (Jvm.Cond.methodLink "java/lang/String" (47 : Nat) ({ cls := "java/lang/StringUTF16", name := "coderFromArrayLen", desc := "([BI)B" } : Jvm.MethodName)) a0 Z = true := hw _ (List.mem_of_getElem? (i := 24) rfl)
theorem w_25 {a0 : Array Value} {Z : State} (hw : ∀ d ∈ tables_1, d.before a0 Z = true) : Jvm.Cond.before (Jvm.Cond.static ({ cls := "java/lang/StringUTF16", name := "coderFromArrayLen", desc := "([BI)B" } : Jvm.MethodName)) a0 Z = true := hw _ (List.mem_of_getElem? (i := 25) rfl)
theorem d2_48 : decode jdk_42_method_149_code 48 = .ok (.putfield 15, 3) := by decide +kernel
theorem w_27 {a0 : Array Value} {Z : State} (hw : ∀ d ∈ tables_1, d.before a0 Z = true) : Jvm.Cond.before (Jvm.Cond.fieldLink "java/lang/String" (15 : Nat) "java/lang/String" "coder" "B") a0 Z = true := hw _ (List.mem_of_getElem? (i := 27) rfl)
theorem d2_51 : decode jdk_42_method_149_code 51 = .ok (.aload_n 0, 1) := by decide +kernel
theorem d2_52 : decode jdk_42_method_149_code 52 = .ok (.aload 5, 2) := by decide +kernel
theorem d2_54 : decode jdk_42_method_149_code 54 = .ok (.putfield 9, 3) := by decide +kernel
theorem w_29 {a0 : Array Value} {Z : State} (hw : ∀ d ∈ tables_1, d.before a0 Z = true) : Jvm.Cond.before (Jvm.Cond.fieldLink "java/lang/String" (9 : Nat) "java/lang/String" "value" "[B") a0 Z = true := hw _ (List.mem_of_getElem? (i := 29) rfl)
theorem d2_57 : decode jdk_42_method_149_code 57 = .ok (.return_, 1) := by decide +kernel
theorem ef_83ffd8 (a1 : Addr) (a2 : Addr) (m : MethodId) : entryFrame m #[(.ref a1), (.ref a2), (.int 0), (.int 1), .null] 6 = mkF m 0 #[.val (.ref a1), .val (.ref a2), .val (.int 0), .val (.int 1), .val .null, .unset] [] := by first | (simp [entryFrame, mkF, argsToLocals, Value.category]; done) | rfl
abbrev y_8 : MethodName := ⟨"java/lang/String", "<init>", "([CIILjava/lang/Void;)V"⟩
theorem pn_1 : plainName "java/lang/String" = true := by first | (simp [plainName, overriddenIn]; done) | decide +kernel
-- java/lang/String.<init>([CIILjava/lang/Void;)V
abbrev Rm10 : Room := { frames := 4, cells := 2, slots := 3, locals := 57 }
def Q10 (Z : State) (a1 : Addr) (a2 : Addr) (p4 : Int32) (p7 : Int32) (k8 : ClassId) (h0 : Heap) (n0 : Nat) (v : Option Value) (h : Heap) (L : List Loc) : Prop := ∃ b11_m0 : Addr, ∃ k11_kk1 : ClassId, ∃ u11_uu2 : List Value, v = none ∧ Fr n0 L ∧ Keep h0 h [a1] ∧ Exa Z h a1 "java/lang/String" ∧ Fld Z h a1 "java/lang/String" "coder" "B" (.int (nar .byte (nar .byte (((((1 : Int32) - (if (255 : Int32) < p7 then (2 : Int32) else (1 : Int32))).toUInt32 >>> ((31 : Int32) &&& 31).toUInt32).toInt32).toInt8.toInt32)))) ∧ Fld Z h a1 "java/lang/String" "value" "[B" (.ref b11_m0) ∧ h0.size ≤ b11_m0 ∧ Exa Z h b11_m0 "[B" ∧ Arv Z h b11_m0 k11_kk1 .byte (if (255 : Int32) < p7 then (2 : Int32) else (1 : Int32)) u11_uu2 (.int 0)
-- ef_83ffd8
theorem rm10 (l : Launch) (Z : State) (a0 : Array Value) (hw : ∀ d ∈ tables_1, d.before a0 Z = true) (ws : List Jvm.Cond) (a1 : Addr) (a2 : Addr) (p4 : Int32) (p7 : Int32) (k8 : ClassId) (h0 : Heap) (n0 : Nat) (Z0 : n0 ≤ h0.size) (S_COMPACT_STRINGS : Sta Z Z.heap "java/lang/String" "COMPACT_STRINGS" "Z" (.int p4)) (Od0 : Old Z n0 h0) (c6 : ¬ (p4 = (0 : Int32))) (V_a2 : Arv Z h0 a2 k8 .char (1 : Int32) [(.int p7)] (.int 0)) (S__assertionsDisabled : Sta Z Z.heap "java/lang/StringUTF16" "$assertionsDisabled" "Z" (.int 1)) (S_HI_BYTE_SHIFT : Sta Z Z.heap "java/lang/StringUTF16" "HI_BYTE_SHIFT" "I" (.int 0)) (S_LO_BYTE_SHIFT : Sta Z Z.heap "java/lang/StringUTF16" "LO_BYTE_SHIFT" "I" (.int 8)) (c9 : ¬ (p7 < (0 : Int32))) (c10 : ¬ ((65535 : Int32) < p7)) (F_coder_a1 : Fld Z h0 a1 "java/lang/String" "coder" "B" (.int 0)) (E_a1 : Exa Z h0 a1 "java/lang/String") (g_a1 : n0 ≤ a1) (F_value_a1 : Fld Z h0 a1 "java/lang/String" "value" "[B" .null) :
    OwnMet l Z y_8 jdk_42_method_149_code 6 none ws Rm10 #[(.ref a1), (.ref a2), (.int 0), (.int 1), .null] h0 (Q10 Z a1 a2 p4 p7 k8 h0 n0) := by
  refine own_body (plainFor_of_name pn_1) (ef_83ffd8 a1 a2) ?_
  intro p e s m below meth c s₁ hx hby hml hown hnm hret hZ X0 e0
  have N0 := Fr.nil n0
  obtain ⟨T3, X3, e3, st3⟩ := initO X0 hx hZ hown (w_12 hw) (w_13 hw) (w_14 hw) e0 (g := (mkF m 1 #[.val (.ref a1), .val (.ref a2), .val (.int 0), .val (.int 1), .val .null, .unset] [(.ref a1)])) rfl (by rw [hml]; rfl) rfl (hb hby d2_1) (by decide) (W := 0) (by show 2 * 0 + _ ≤ _; exact Nat.le_of_eq rfl) (by decide)
  obtain ⟨T5, X5, e5, st5⟩ := getS2 X3 hx hZ hown (host := "") (Or.inl (w_15 hw)) Via.refl e3 (S_COMPACT_STRINGS.ext Od0.2) (g := (mkF m 27 #[.val (.ref a1), .val (.ref a2), .val (.int 0), .val (.int 1), .val .null, .unset] [])) rfl (hb hby d2_27)
  obtain ⟨_, T11, L11, X11, hQ11, st11⟩ := own_callS X5 hx hZ hown (y := y_6) (w_16 hw) (w_17 hw) (w_18 hw) (w_19 hw) (rm8 l Z a0 hw [] a2 p7 k8 h0 n0 Z0 V_a2 S__assertionsDisabled Od0 S_HI_BYTE_SHIFT S_LO_BYTE_SHIFT c9 c10) e5 (Ls := #[.val (.ref a1), .val (.ref a2), .val (.int 0), .val (.int 1), .val .null, .unset]) (by rw [hml]; rfl) (argsL := [(.ref a2), (.int 0), (.int 1)]) (rest := []) (lenOf pd_4 rfl) (hb hby d2_36) (W := 0)
  obtain ⟨b11_m0, k11_kk1, u11_uu2, rfl, Nq11, K11, o11_0, o11_1, o11_2⟩ := hQ11
  have N11 := Fr.app N0 Nq11
  have s0 := K11.1
  obtain ⟨x12, ex12⟩ : ∃ z, z = (if (255 : Int32) < p7 then (2 : Int32) else (1 : Int32)) := ⟨_, rfl⟩
  have o11_2' : Arv Z T11.heap b11_m0 k11_kk1 .byte x12 u11_uu2 (.int 0) := by rw [ex12]; exact o11_2
  have z1 := Nat.le_trans Z0 s0
  obtain ⟨_, T13, L13, X13, hQ13, st13⟩ := own_callS X11 hx hZ hown (y := y_7) (w_24 hw) (w_25 hw) (w_18 hw) (w_26 hw) (rm9 l Z a0 hw [] b11_m0 u11_uu2 k11_kk1 x12 T11.heap n0 z1 o11_2') rfl (Ls := #[.val (.ref a1), .val (.ref a2), .val (.int 0), .val (.int 1), .val .null, .val (.ref b11_m0)]) (by rw [hml]; rfl) (argsL := [(.ref b11_m0), (.int 1)]) (rest := [(.ref a1)]) (lenOf pd_6 rfl) (hb hby d2_45) (W := 1)
  obtain ⟨rfl, Nq13, e13⟩ := hQ13
  have N13 := Fr.app N11 Nq13
  have Fl14 := (F_coder_a1.keep K11 nin0)
  have Ex15 := (E_a1.keep K11)
  obtain ⟨T16, h16, X16, e16, W16, st16⟩ := putFN X13 hx hZ hown (w_27 hw) Via.refl e13 Fl14 Ex15 (Or.inr ⟨(w_28 hw), rfl, hnm⟩) (w_2 hw) (ty := .byte) (v' := (.int (nar .byte (nar .byte (((((1 : Int32) - x12).toUInt32 >>> ((31 : Int32) &&& 31).toUInt32).toInt32).toInt8.toInt32))))) (by decide) rfl (fits_nar_byte _) (g := (mkF m 48 #[.val (.ref a1), .val (.ref a2), .val (.int 0), .val (.int 1), .val .null, .val (.ref b11_m0)] [(.int (nar .byte (((((1 : Int32) - x12).toUInt32 >>> ((31 : Int32) &&& 31).toUInt32).toInt32).toInt8.toInt32))), (.ref a1)])) rfl rfl (hb hby d2_48)
  have s1 := (Keep.of_wr W16).1
  have N16 := Fr.snoc X16 N13 g_a1
  have Fw16 : Fld Z h16 a1 "java/lang/String" "coder" "B" (.int (nar .byte (nar .byte (((((1 : Int32) - x12).toUInt32 >>> ((31 : Int32) &&& 31).toUInt32).toInt32).toInt8.toInt32)))) := Fl14.same W16
  have Ex17 := (Ex15.wr W16)
  have Fl18 := ((F_value_a1.keep K11 nin0).other W16 (Or.inr (slot_ne (Or.inr (w_30 hw)) (Or.inr (w_28 hw)) (by decide) (t := (.array .byte)) (t' := .byte) (by decide) (by decide))))
  obtain ⟨T19, h19, X19, e19, W19, st19⟩ := putF X16 hx hZ hown (host := "") (Or.inl (w_29 hw)) Via.refl e16 Fl18 Ex17 (Or.inr ⟨(w_30 hw), rfl, hnm⟩) (w_2 hw) (ty := (.array .byte)) (by decide) rfl rfl (g := (mkF m 54 #[.val (.ref a1), .val (.ref a2), .val (.int 0), .val (.int 1), .val .null, .val (.ref b11_m0)] [(.ref b11_m0), (.ref a1)])) rfl rfl (hb hby d2_54)
  have s2 := (Keep.of_wr W19).1
  have N19 := Fr.snoc X19 N16 g_a1
  have Fw19 : Fld Z h19 a1 "java/lang/String" "value" "[B" (.ref b11_m0) := Fl18.same W19
  have Ex20 := (Ex17.wr W19)
  have Fl21 := (Fw16.other W19 (Or.inr (slot_ne (Or.inr (w_28 hw)) (Or.inr (w_30 hw)) (by decide) (t := .byte) (t' := (.array .byte)) (by decide) (by decide))))
  have sz_b11_m0 : h0.size ≤ b11_m0 := o11_0
  have Ex22 := ((o11_1.wr W16).wr W19)
  have ne_a1_b11_m0 := Nat.ne_of_lt (Nat.lt_of_lt_of_le F_value_a1.lt o11_0)
  have Va23 := ((o11_2'.other W16 (Ne.symm ne_a1_b11_m0)).other W19 (Ne.symm ne_a1_b11_m0))
  have Kp0 : Keep h0 T11.heap [a1] := (Keep.refl h0 [a1]).trans K11 all0
  have Kp1 : Keep h0 h16 [a1] := Kp0.wr W16 (Or.inl (List.mem_of_getElem? (i := 0) rfl))
  have Kp2 : Keep h0 h19 [a1] := Kp1.wr W19 (Or.inl (List.mem_of_getElem? (i := 0) rfl))
  refine ⟨T19, _, _, _, none, X19, (fun _ => rfl), by decide, by decide, ?_, fun fs hr => ?_⟩
  · rw [e19]
    subst ex12
    exact ⟨b11_m0, k11_kk1, u11_uu2, rfl, N19, Kp2, Ex20, Fl21, Fw19, sz_b11_m0, Ex22, Va23⟩
  · refine XS.aloadN X0.here hx rfl (hb hby d2_0) rfl rfl ?_
    refine st3 _ ?_
    refine XS.iloadN X3.here hx rfl (hb hby d2_4) rfl ?_
    refine XS.ifYes X3.here hx rfl (pc0 := 5) (pc' := 27) rfl (hb hby d2_5) rfl ((if0 _ _).trans (feq ((by decide : ¬ ((1 : Int32) = (0 : Int32))) : ¬ ((1 : Int32) = (0 : Int32)))).2) (by decide) (by decide) ?_
    refine st5 _ ?_
    refine XS.ifNo X5.here hx rfl (hb hby d2_30) rfl ((if0 _ _).trans (feq (c6 : ¬ (p4 = (0 : Int32)))).1) ?_
    refine XS.aloadN X5.here hx rfl (hb hby d2_33) rfl rfl ?_
    refine XS.iloadN X5.here hx rfl (hb hby d2_34) rfl ?_
    refine XS.iloadN X5.here hx rfl (hb hby d2_35) rfl ?_
    refine st11 _ ?_
    refine XS.astore X11.here hx rfl (hb hby d2_39) rfl rfl (l' := #[.val (.ref a1), .val (.ref a2), .val (.int 0), .val (.int 1), .val .null, .val (.ref b11_m0)]) rfl ?_
    show Steps p.tables e below (T11.setTop (mkF m 41 #[.val (.ref a1), .val (.ref a2), .val (.int 0), .val (.int 1), .val .null, .val (.ref b11_m0)] [])) _
    refine XS.aloadN X11.here hx rfl (hb hby d2_41) rfl rfl ?_
    refine XS.aload X11.here hx rfl (hb hby d2_42) rfl rfl ?_
    refine XS.iloadN X11.here hx rfl (hb hby d2_44) rfl ?_
    refine st13 _ ?_
    refine st16 _ ?_
    refine XS.aloadN X16.here hx rfl (hb hby d2_51) rfl rfl ?_
    refine XS.aload X16.here hx rfl (hb hby d2_52) rfl rfl ?_
    refine st19 _ ?_
    exact X19.returnOut hx hret (hb hby d2_57) hr
theorem pd_7 : parseMethodDescriptor "([CIILjava/lang/Void;)V" = some ⟨[(.array .char), .int, .int, (.object "java/lang/Void")], none⟩ := by decide +kernel
theorem w_11 {a0 : Array Value} {Z : State} (hw : ∀ d ∈ tables_1, d.before a0 Z = true) : Jvm.Cond.before (Jvm.Cond.code ({ cls := "java/lang/String", name := "<init>", desc := "([CIILjava/lang/Void;)V" } : Jvm.MethodName) jdk_42_method_149_code (6 : Nat) (Option.none : Option Jvm.ClassFile.FieldType)) a0 Z = true := hw _ (List.mem_of_getElem? (i := 11) rfl)
theorem w_8 {a0 : Array Value} {Z : State} (hw : ∀ d ∈ tables_1, d.before a0 Z = true) : Jvm.Cond.before (Jvm.Cond.methodLink "java/lang/String" (27 : Nat) ({ cls := "java/lang/String", name := "<init>", desc := "([CIILjava/lang/Void;)V" } : Jvm.MethodName)) a0 Z = true := hw _ (List.mem_of_getElem? (i := 8) rfl)
theorem w_9 {a0 : Array Value} {Z : State} (hw : ∀ d ∈ tables_1, d.before a0 Z = true) : Jvm.Cond.before (Jvm.Cond.instanceMethod ({ cls := "java/lang/String", name := "<init>", desc := "([CIILjava/lang/Void;)V" } : Jvm.MethodName)) a0 Z = true := hw _ (List.mem_of_getElem? (i := 9) rfl)
theorem d1_9 : decode jdk_42_method_3_code 9 = .ok (.return_, 1) := by decide +kernel
theorem ef_463e93 (a1 : Addr) (a2 : Addr) (m : MethodId) : entryFrame m #[(.ref a1), (.ref a2)] 2 = mkF m 0 #[.val (.ref a1), .val (.ref a2)] [] := by first | (simp [entryFrame, mkF, argsToLocals, Value.category]; done) | rfl
abbrev y_9 : MethodName := ⟨"java/lang/String", "<init>", "([C)V"⟩
-- java/lang/String.<init>([C)V
abbrev Rm11 : Room := { frames := 5, cells := 2, slots := 3, locals := 74 }
def Q11 (Z : State) (a1 : Addr) (a2 : Addr) (p3 : Int32) (k4 : ClassId) (p6 : Int32) (h0 : Heap) (n0 : Nat) (v : Option Value) (h : Heap) (L : List Loc) : Prop := ∃ b10_b11_m0 : Addr, ∃ k10_k11_kk1 : ClassId, ∃ u10_u11_uu2 : List Value, v = none ∧ Fr n0 L ∧ Keep h0 h [a1] ∧ Exa Z h a1 "java/lang/String" ∧ Fld Z h a1 "java/lang/String" "coder" "B" (.int (nar .byte (nar .byte (((((1 : Int32) - (if (255 : Int32) < p3 then (2 : Int32) else (1 : Int32))).toUInt32 >>> ((31 : Int32) &&& 31).toUInt32).toInt32).toInt8.toInt32)))) ∧ Fld Z h a1 "java/lang/String" "value" "[B" (.ref b10_b11_m0) ∧ h0.size ≤ b10_b11_m0 ∧ Exa Z h b10_b11_m0 "[B" ∧ Arv Z h b10_b11_m0 k10_k11_kk1 .byte (if (255 : Int32) < p3 then (2 : Int32) else (1 : Int32)) u10_u11_uu2 (.int 0)
-- ef_463e93
theorem rm11 (l : Launch) (Z : State) (a0 : Array Value) (hw : ∀ d ∈ tables_1, d.before a0 Z = true) (ws : List Jvm.Cond) (a1 : Addr) (a2 : Addr) (p3 : Int32) (k4 : ClassId) (p6 : Int32) (h0 : Heap) (n0 : Nat) (Z0 : n0 ≤ h0.size) (V_a2 : Arv Z h0 a2 k4 .char (1 : Int32) [(.int p3)] (.int 0)) (S_COMPACT_STRINGS : Sta Z Z.heap "java/lang/String" "COMPACT_STRINGS" "Z" (.int p6)) (Od0 : Old Z n0 h0) (c7 : ¬ (p6 = (0 : Int32))) (S__assertionsDisabled : Sta Z Z.heap "java/lang/StringUTF16" "$assertionsDisabled" "Z" (.int 1)) (S_HI_BYTE_SHIFT : Sta Z Z.heap "java/lang/StringUTF16" "HI_BYTE_SHIFT" "I" (.int 0)) (S_LO_BYTE_SHIFT : Sta Z Z.heap "java/lang/StringUTF16" "LO_BYTE_SHIFT" "I" (.int 8)) (c8 : ¬ (p3 < (0 : Int32))) (c9 : ¬ ((65535 : Int32) < p3)) (F_coder_a1 : Fld Z h0 a1 "java/lang/String" "coder" "B" (.int 0)) (E_a1 : Exa Z h0 a1 "java/lang/String") (g_a1 : n0 ≤ a1) (F_value_a1 : Fld Z h0 a1 "java/lang/String" "value" "[B" .null) :
    OwnMet l Z y_9 jdk_42_method_3_code 2 none ws Rm11 #[(.ref a1), (.ref a2)] h0 (Q11 Z a1 a2 p3 k4 p6 h0 n0) := by
  refine own_body (plainFor_of_name pn_1) (ef_463e93 a1 a2) ?_
  intro p e s m below meth c s₁ hx hby hml hown hnm hret hZ X0 e0
  have N0 := Fr.nil n0
  obtain ⟨cl5, Ar5, q5, S5, M5, Hs5, G5⟩ := id V_a2
  obtain ⟨_, T10, L10, X10, hQ10, st10⟩ := own_special X0 hx hZ hown (y := y_8) (a := a1) (w_8 hw) (w_9 hw) (w_3 hw) (w_11 hw) (rm10 l Z a0 hw [] a1 a2 p6 p3 k4 h0 n0 Z0 S_COMPACT_STRINGS Od0 c7 V_a2 S__assertionsDisabled S_HI_BYTE_SHIFT S_LO_BYTE_SHIFT c8 c9 F_coder_a1 E_a1 g_a1 F_value_a1) e0 (Ls := #[.val (.ref a1), .val (.ref a2)]) (by rw [hml]; rfl) (argsL := [(.ref a2), (.int 0), (.int 1), .null]) (rest := []) (lenOf pd_7 rfl) (hb hby d1_6) (W := 0)
  obtain ⟨b10_b11_m0, k10_k11_kk1, u10_u11_uu2, rfl, Nq10, K10, o10_0, o10_1, o10_2, o10_3, o10_4, o10_5⟩ := hQ10
  have N10 := Fr.app N0 Nq10
  have s0 := K10.1
  obtain ⟨x11, ex11⟩ : ∃ z, z = (if (255 : Int32) < p3 then (2 : Int32) else (1 : Int32)) := ⟨_, rfl⟩
  have o10_5' : Arv Z T10.heap b10_b11_m0 k10_k11_kk1 .byte x11 u10_u11_uu2 (.int 0) := by rw [ex11]; exact o10_5
  have sz_b10_b11_m0 : h0.size ≤ b10_b11_m0 := o10_3
  have Kp0 : Keep h0 T10.heap [a1] := (Keep.refl h0 [a1]).trans K10 (allS (Or.inl (List.mem_of_getElem? (i := 0) rfl)) all0)
  refine ⟨T10, _, _, _, none, X10, (fun _ => rfl), by decide, by decide, ?_, fun fs hr => ?_⟩
  · subst ex11
    exact ⟨b10_b11_m0, k10_k11_kk1, u10_u11_uu2, rfl, N10, Kp0, o10_0, o10_1, o10_2, sz_b10_b11_m0, o10_4, o10_5'⟩
  · refine XS.aloadN X0.here hx rfl (hb hby d1_0) rfl rfl ?_
    refine XS.aloadN X0.here hx rfl (hb hby d1_1) rfl rfl ?_
    refine XS.iconst X0.here hx rfl (hb hby d1_2) ?_
    refine XS.aloadN X0.here hx rfl (hb hby d1_3) rfl rfl ?_
    refine X0.arraylength hx (by rw [e0]; exact Ar5.1) (State.isArrayOf_alike hZ.alike Ar5.2.1) (g := (mkF m 4 #[.val (.ref a1), .val (.ref a2)] [(.ref a2), (.int 0), (.ref a2), (.ref a1)])) rfl rfl (hb hby d1_4) _ ?_
    show Steps p.tables e below (s₁.setTop (mkF m 5 #[.val (.ref a1), .val (.ref a2)] [(.int cl5.slots.size.toInt32), (.int 0), (.ref a2), (.ref a1)])) _
    rw [len_of S5 M5]
    refine XS.aconstNull X0.here hx rfl (hb hby d1_5) ?_
    refine st10 _ ?_
    exact X10.returnOut hx hret (hb hby d1_9) hr
theorem pd_8 : parseMethodDescriptor "([C)V" = some ⟨[(.array .char)], none⟩ := by decide +kernel
theorem w_7 {a0 : Array Value} {Z : State} (hw : ∀ d ∈ tables_1, d.before a0 Z = true) : Jvm.Cond.before (Jvm.Cond.code ({ cls := "java/lang/String", name := "<init>", desc := "([C)V" } : Jvm.MethodName) jdk_42_method_3_code (2 : Nat) (Option.none : Option Jvm.ClassFile.FieldType)) a0 Z = true := hw _ (List.mem_of_getElem? (i := 7) rfl)
theorem w_5 {a0 : Array Value} {Z : State} (hw : ∀ d ∈ tables_1, d.before a0 Z = true) : Jvm.Cond.before (Jvm.Cond.methodLink "com/example/senret/senret/LineFieldsRequireNonEmptyPinLaw" (10 : Nat) ({ cls := "java/lang/String", name := "<init>", desc := "([C)V" } : Jvm.MethodName)) a0 Z = true := hw _ (List.mem_of_getElem? (i := 5) rfl)
theorem w_6 {a0 : Array Value} {Z : State} (hw : ∀ d ∈ tables_1, d.before a0 Z = true) : Jvm.Cond.before (Jvm.Cond.instanceMethod ({ cls := "java/lang/String", name := "<init>", desc := "([C)V" } : Jvm.MethodName)) a0 Z = true := hw _ (List.mem_of_getElem? (i := 6) rfl)
theorem d11_0 : decode jdk_42_method_139_code 0 = .ok (.getstatic 38, 3) := by decide +kernel
theorem d11_3 : decode jdk_42_method_139_code 3 = .ok (.ifCond .eq 23, 3) := by decide +kernel
theorem d11_6 : decode jdk_42_method_139_code 6 = .ok (.iload_n 0, 1) := by decide +kernel
theorem d11_7 : decode jdk_42_method_139_code 7 = .ok (.invokestatic 1015, 3) := by decide +kernel
theorem d12_0 : decode jdk_43_method_3_code 0 = .ok (.iload_n 0, 1) := by decide +kernel
theorem d12_1 : decode jdk_43_method_3_code 1 = .ok (.sipush 255, 3) := by decide +kernel
theorem d12_4 : decode jdk_43_method_3_code 4 = .ok (.if_icmp .gt 7, 3) := by decide +kernel
theorem d12_11 : decode jdk_43_method_3_code 11 = .ok (.iconst 0, 1) := by decide +kernel
theorem d12_12 : decode jdk_43_method_3_code 12 = .ok (.ireturn, 1) := by decide +kernel
theorem ef_3c75b7 (p1 : Int32) (m : MethodId) : entryFrame m #[(.int p1)] 1 = mkF m 0 #[.val (.int p1)] [] := by first | (simp [entryFrame, mkF, argsToLocals, Value.category]; done) | rfl
abbrev y_10 : MethodName := ⟨"java/lang/StringLatin1", "canEncode", "(C)Z"⟩
theorem pn_2 : plainName "java/lang/StringLatin1" = true := by first | (simp [plainName, overriddenIn]; done) | decide +kernel
-- java/lang/StringLatin1.canEncode(C)Z
abbrev Rm12 : Room := { frames := 0, cells := 0, slots := 0, locals := 0 }
def Q12 (Z : State) (p1 : Int32) (h0 : Heap) (n0 : Nat) (v : Option Value) (h : Heap) (L : List Loc) : Prop := v = some (.int 0) ∧ Fr n0 L ∧ h = h0
-- ef_3c75b7
theorem rm12 (l : Launch) (Z : State) (a0 : Array Value) (hw : ∀ d ∈ tables_1, d.before a0 Z = true) (ws : List Jvm.Cond) (p1 : Int32) (h0 : Heap) (n0 : Nat) (Z0 : n0 ≤ h0.size) (c2 : (255 : Int32) < p1) :
    OwnMet l Z y_10 jdk_43_method_3_code 1 (some .boolean) ws Rm12 #[(.int p1)] h0 (Q12 Z p1 h0 n0) := by
  refine own_body (plainFor_of_name pn_2) (ef_3c75b7 p1) ?_
  intro p e s m below meth c s₁ hx hby hml hown hnm hret hZ X0 e0
  have N0 := Fr.nil n0
  refine ⟨s₁, _, _, _, (some (.int 0)), X0, nofun, by decide, by decide, ?_, fun fs hr => ?_⟩
  · rw [e0]
    exact ⟨rfl, N0, rfl⟩
  · refine XS.iloadN X0.here hx rfl (hb hby d12_0) rfl ?_
    refine XS.sipush X0.here hx rfl (hb hby d12_1) ?_
    refine XS.icmpYes X0.here hx rfl (pc0 := 4) (pc' := 11) rfl (hb hby d12_4) rfl (tlt (c2 : (255 : Int32) < p1)).2.2.1 (by decide) (by decide) ?_
    refine XS.iconst X0.here hx rfl (hb hby d12_11) ?_
    exact retN X0 hx (t := .boolean) hret (by simp) (hb hby d12_12) hr
theorem pd_9 : parseMethodDescriptor "(C)Z" = some ⟨[.char], some .boolean⟩ := by decide +kernel
theorem w_58 {a0 : Array Value} {Z : State} (hw : ∀ d ∈ tables_1, d.before a0 Z = true) : Jvm.Cond.before (Jvm.Cond.initialized "java/lang/StringLatin1") a0 Z = true := hw _ (List.mem_of_getElem? (i := 58) rfl)
theorem w_59 {a0 : Array Value} {Z : State} (hw : ∀ d ∈ tables_1, d.before a0 Z = true) : Jvm.Cond.before (Jvm.Cond.code ({ cls := "java/lang/StringLatin1", name := "canEncode", desc := "(C)Z" } : Jvm.MethodName) jdk_43_method_3_code (1 : Nat) (Option.some Jvm.ClassFile.FieldType.boolean)) a0 Z = true := hw _ (List.mem_of_getElem? (i := 59) rfl)
theorem w_56 {a0 : Array Value} {Z : State} (hw : ∀ d ∈ tables_1, d.before a0 Z = true) : Jvm.Cond.before (Jvm.Cond.methodLink "java/lang/String" (1015 : Nat) ({ cls := "java/lang/StringLatin1", name := "canEncode", desc := "(C)Z" } : Jvm.MethodName)) a0 Z = true := hw _ (List.mem_of_getElem? (i := 56) rfl)
theorem w_57 {a0 : Array Value} {Z : State} (hw : ∀ d ∈ tables_1, d.before a0 Z = true) : Jvm.Cond.before (Jvm.Cond.static ({ cls := "java/lang/StringLatin1", name := "canEncode", desc := "(C)Z" } : Jvm.MethodName)) a0 Z = true := hw _ (List.mem_of_getElem? (i := 57) rfl)
theorem d11_10 : decode jdk_42_method_139_code 10 = .ok (.ifCond .eq 16, 3) := by decide +kernel
theorem d11_26 : decode jdk_42_method_139_code 26 = .ok (.new 10, 3) := by decide +kernel
theorem w_60 {a0 : Array Value} {Z : State} (hw : ∀ d ∈ tables_1, d.before a0 Z = true) : Jvm.Cond.before (Jvm.Cond.classLink "java/lang/String" (10 : Nat) "java/lang/String") a0 Z = true := hw _ (List.mem_of_getElem? (i := 60) rfl)
theorem d11_29 : decode jdk_42_method_139_code 29 = .ok (.dup, 1) := by decide +kernel
theorem d11_30 : decode jdk_42_method_139_code 30 = .ok (.iload_n 0, 1) := by decide +kernel
theorem d11_31 : decode jdk_42_method_139_code 31 = .ok (.invokestatic 1021, 3) := by decide +kernel
theorem d20_0 : decode jdk_52_method_24_code 0 = .ok (.iconst 2, 1) := by decide +kernel
theorem d20_1 : decode jdk_52_method_24_code 1 = .ok (.newarray .byte, 2) := by decide +kernel
theorem d20_3 : decode jdk_52_method_24_code 3 = .ok (.astore_n 1, 1) := by decide +kernel
theorem d20_4 : decode jdk_52_method_24_code 4 = .ok (.aload_n 1, 1) := by decide +kernel
theorem d20_5 : decode jdk_52_method_24_code 5 = .ok (.iconst 0, 1) := by decide +kernel
theorem d20_6 : decode jdk_52_method_24_code 6 = .ok (.iload_n 0, 1) := by decide +kernel
theorem d20_7 : decode jdk_52_method_24_code 7 = .ok (.invokestatic 111, 3) := by decide +kernel
theorem d20_10 : decode jdk_52_method_24_code 10 = .ok (.aload_n 1, 1) := by decide +kernel
theorem d20_11 : decode jdk_52_method_24_code 11 = .ok (.areturn, 1) := by decide +kernel
theorem ef_e8eb23 (p1 : Int32) (m : MethodId) : entryFrame m #[(.int p1)] 2 = mkF m 0 #[.val (.int p1), .unset] [] := by first | (simp [entryFrame, mkF, argsToLocals, Value.category]; done) | rfl
abbrev y_11 : MethodName := ⟨"java/lang/StringUTF16", "toBytes", "(C)[B"⟩
-- java/lang/StringUTF16.toBytes(C)[B
abbrev Rm13 : Room := { frames := 1, cells := 1, slots := 2, locals := 14 }
def Q13 (Z : State) (p1 : Int32) (h0 : Heap) (n0 : Nat) (v : Option Value) (h : Heap) (L : List Loc) : Prop := ∃ b2 : Addr, ∃ k2 : ClassId, v = some (.ref b2) ∧ Fr n0 L ∧ Keep h0 h [] ∧ h0.size ≤ b2 ∧ Exa Z h b2 "[B" ∧ Arv Z h b2 k2 .byte (2 : Int32) [(.int (nar .byte ((p1 >>> ((0 : Int32) &&& 31)).toInt8.toInt32))), (.int (nar .byte ((p1 >>> ((8 : Int32) &&& 31)).toInt8.toInt32)))] (.int 0)
-- ef_e8eb23
theorem rm13 (l : Launch) (Z : State) (a0 : Array Value) (hw : ∀ d ∈ tables_1, d.before a0 Z = true) (ws : List Jvm.Cond) (p1 : Int32) (h0 : Heap) (n0 : Nat) (Z0 : n0 ≤ h0.size) (S__assertionsDisabled : Sta Z Z.heap "java/lang/StringUTF16" "$assertionsDisabled" "Z" (.int 1)) (Od0 : Old Z n0 h0) (S_HI_BYTE_SHIFT : Sta Z Z.heap "java/lang/StringUTF16" "HI_BYTE_SHIFT" "I" (.int 0)) (S_LO_BYTE_SHIFT : Sta Z Z.heap "java/lang/StringUTF16" "LO_BYTE_SHIFT" "I" (.int 8)) :
    OwnMet l Z y_11 jdk_52_method_24_code 2 (some (.array .byte)) ws Rm13 #[(.int p1)] h0 (Q13 Z p1 h0 n0) := by
  refine own_body (plainFor_of_name pn_0) (ef_e8eb23 p1) ?_
  intro p e s m below meth c s₁ hx hby hml hown hnm hret hZ X0 e0
  have N0 := Fr.nil n0
  obtain ⟨T2, h2, k2, X2, e2, E2, A2, B2, st2⟩ := newPE (aty := .byte) X0 hx hZ (w_20 hw) e0 (g := (mkF m 1 #[.val (.int p1), .unset] [(.int 2)])) rfl (hb hby d20_1) rfl (by decide) (cap := 2) (by decide) (by decide) (by decide) (by decide) (ad := "[B") (by decide)
  obtain ⟨b2, g2⟩ : ∃ z, z = h0.size := ⟨_, rfl⟩
  rw [← g2] at A2 B2 st2
  have s0 := E2.1
  have Vn2 : Arv Z h2 b2 k2 .byte (2 : Int32) [(.int 0), (.int 0)] (.int 0) := (Arv.new A2 (by decide)).pad (pad_rep [] (.int 0) 2)
  have Od1 : Old Z n0 h2 := Od0.ext E2
  have g_b2 : n0 ≤ b2 := Nat.le_trans Z0 (Nat.le_of_eq g2.symm)
  have z1 := Nat.le_trans Z0 s0
  obtain ⟨_, T3, L3, X3, hQ3, st3⟩ := own_callS X2 hx hZ hown (y := y_3) (w_77 hw) (w_78 hw) (w_18 hw) (w_79 hw) (rm4 l Z a0 hw [] b2 p1 k2 h2 n0 z1 S__assertionsDisabled Od1 S_HI_BYTE_SHIFT Vn2 g_b2 S_LO_BYTE_SHIFT B2) e2 (Ls := #[.val (.int p1), .val (.ref b2)]) (by rw [hml]; rfl) (argsL := [(.ref b2), (.int 0), (.int p1)]) (rest := []) (lenOf pd_3 rfl) (hb hby d20_7) (W := 0)
  obtain ⟨rfl, Nq3, K3, o3_0, o3_1⟩ := hQ3
  have N3 := Fr.app N0 Nq3
  have s1 := K3.1
  have sz_b2 : h0.size ≤ b2 := (Nat.le_of_eq g2.symm)
  have Kp0 : Keep h0 h2 [] := (Keep.refl h0 []).ext E2
  have Kp1 : Keep h0 T3.heap [] := Kp0.trans K3 (allS (Or.inr sz_b2) all0)
  refine ⟨T3, _, _, _, (some (.ref b2)), X3, nofun, by decide, by decide, ?_, fun fs hr => ?_⟩
  · exact ⟨b2, k2, rfl, N3, Kp1, sz_b2, o3_0, o3_1⟩
  · refine XS.iconst X0.here hx rfl (hb hby d20_0) ?_
    refine st2 _ ?_
    refine XS.astoreN X2.here hx rfl (hb hby d20_3) rfl rfl (l' := #[.val (.int p1), .val (.ref b2)]) rfl ?_
    refine XS.aloadN X2.here hx rfl (hb hby d20_4) rfl rfl ?_
    refine XS.iconst X2.here hx rfl (hb hby d20_5) ?_
    refine XS.iloadN X2.here hx rfl (hb hby d20_6) rfl ?_
    refine st3 _ ?_
    refine XS.aloadN X3.here hx rfl (hb hby d20_10) rfl rfl ?_
    exact retOut X3 hx hret rfl (Or.inr (Or.inr (Or.inr (Or.inr ⟨rfl, rfl, rfl⟩)))) (hb hby d20_11) hr
theorem pd_10 : parseMethodDescriptor "(C)[B" = some ⟨[.char], some (.array .byte)⟩ := by decide +kernel
theorem w_88 {a0 : Array Value} {Z : State} (hw : ∀ d ∈ tables_1, d.before a0 Z = true) : Jvm.Cond.before (Jvm.Cond.code ({ cls := "java/lang/StringUTF16", name := "toBytes", desc := "(C)[B" } : Jvm.MethodName) jdk_52_method_24_code (2 : Nat) (Option.some (Jvm.ClassFile.FieldType.array Jvm.ClassFile.FieldType.byte))) a0 Z = true := hw _ (List.mem_of_getElem? (i := 88) rfl)
theorem w_86 {a0 : Array Value} {Z : State} (hw : ∀ d ∈ tables_1, d.before a0 Z = true) : Jvm.Cond.before (Jvm.Cond.methodLink "java/lang/String" (1021 : Nat) ({ cls := "java/lang/StringUTF16", name := "toBytes", desc := "(C)[B" } : Jvm.MethodName)) a0 Z = true := hw _ (List.mem_of_getElem? (i := 86) rfl)
theorem w_87 {a0 : Array Value} {Z : State} (hw : ∀ d ∈ tables_1, d.before a0 Z = true) : Jvm.Cond.before (Jvm.Cond.static ({ cls := "java/lang/StringUTF16", name := "toBytes", desc := "(C)[B" } : Jvm.MethodName)) a0 Z = true := hw _ (List.mem_of_getElem? (i := 87) rfl)
theorem d11_34 : decode jdk_42_method_139_code 34 = .ok (.iconst 1, 1) := by decide +kernel
theorem d11_35 : decode jdk_42_method_139_code 35 = .ok (.invokespecial 209, 3) := by decide +kernel
theorem d14_0 : decode jdk_42_method_151_code 0 = .ok (.aload_n 0, 1) := by decide +kernel
theorem d14_1 : decode jdk_42_method_151_code 1 = .ok (.invokespecial 1, 3) := by decide +kernel
theorem d14_4 : decode jdk_42_method_151_code 4 = .ok (.aload_n 0, 1) := by decide +kernel
theorem d14_5 : decode jdk_42_method_151_code 5 = .ok (.aload_n 1, 1) := by decide +kernel
theorem d14_6 : decode jdk_42_method_151_code 6 = .ok (.putfield 9, 3) := by decide +kernel
theorem d14_9 : decode jdk_42_method_151_code 9 = .ok (.aload_n 0, 1) := by decide +kernel
theorem d14_10 : decode jdk_42_method_151_code 10 = .ok (.iload_n 2, 1) := by decide +kernel
theorem d14_11 : decode jdk_42_method_151_code 11 = .ok (.putfield 15, 3) := by decide +kernel
theorem d14_14 : decode jdk_42_method_151_code 14 = .ok (.return_, 1) := by decide +kernel
theorem ef_8cb260 (a1 : Addr) (a2 : Addr) (m : MethodId) : entryFrame m #[(.ref a1), (.ref a2), (.int 1)] 3 = mkF m 0 #[.val (.ref a1), .val (.ref a2), .val (.int 1)] [] := by first | (simp [entryFrame, mkF, argsToLocals, Value.category]; done) | rfl
abbrev y_12 : MethodName := ⟨"java/lang/String", "<init>", "([BB)V"⟩
-- java/lang/String.<init>([BB)V
abbrev Rm14 : Room := { frames := 1, cells := 0, slots := 0, locals := 12 }
def Q14 (Z : State) (a1 : Addr) (a2 : Addr) (h0 : Heap) (n0 : Nat) (v : Option Value) (h : Heap) (L : List Loc) : Prop := v = none ∧ Fr n0 L ∧ Keep h0 h [a1] ∧ Exa Z h a1 "java/lang/String" ∧ Fld Z h a1 "java/lang/String" "coder" "B" (.int 1) ∧ Fld Z h a1 "java/lang/String" "value" "[B" (.ref a2)
-- ef_8cb260
theorem rm14 (l : Launch) (Z : State) (a0 : Array Value) (hw : ∀ d ∈ tables_1, d.before a0 Z = true) (ws : List Jvm.Cond) (a1 : Addr) (a2 : Addr) (h0 : Heap) (n0 : Nat) (Z0 : n0 ≤ h0.size) (F_value_a1 : Fld Z h0 a1 "java/lang/String" "value" "[B" .null) (E_a1 : Exa Z h0 a1 "java/lang/String") (g_a1 : n0 ≤ a1) (F_coder_a1 : Fld Z h0 a1 "java/lang/String" "coder" "B" (.int 0)) :
    OwnMet l Z y_12 jdk_42_method_151_code 3 none ws Rm14 #[(.ref a1), (.ref a2), (.int 1)] h0 (Q14 Z a1 a2 h0 n0) := by
  refine own_body (plainFor_of_name pn_1) (ef_8cb260 a1 a2) ?_
  intro p e s m below meth c s₁ hx hby hml hown hnm hret hZ X0 e0
  have N0 := Fr.nil n0
  obtain ⟨T3, X3, e3, st3⟩ := initO X0 hx hZ hown (w_12 hw) (w_13 hw) (w_14 hw) e0 (g := (mkF m 1 #[.val (.ref a1), .val (.ref a2), .val (.int 1)] [(.ref a1)])) rfl (by rw [hml]; rfl) rfl (hb hby d14_1) (by decide) (W := 0) (by show 2 * 0 + _ ≤ _; exact Nat.le_of_eq rfl) (by decide)
  obtain ⟨T4, h4, X4, e4, W4, st4⟩ := putF X3 hx hZ hown (host := "") (Or.inl (w_29 hw)) Via.refl e3 F_value_a1 E_a1 (Or.inr ⟨(w_30 hw), rfl, hnm⟩) (w_2 hw) (ty := (.array .byte)) (by decide) rfl rfl (g := (mkF m 6 #[.val (.ref a1), .val (.ref a2), .val (.int 1)] [(.ref a2), (.ref a1)])) rfl rfl (hb hby d14_6)
  have s0 := (Keep.of_wr W4).1
  have N4 := Fr.snoc X4 N0 g_a1
  have Fw4 : Fld Z h4 a1 "java/lang/String" "value" "[B" (.ref a2) := F_value_a1.same W4
  have Ex5 := (E_a1.wr W4)
  have Fl6 := (F_coder_a1.other W4 (Or.inr (slot_ne (Or.inr (w_28 hw)) (Or.inr (w_30 hw)) (by decide) (t := .byte) (t' := (.array .byte)) (by decide) (by decide))))
  obtain ⟨T7, h7, X7, e7, W7, st7⟩ := putFN X4 hx hZ hown (w_27 hw) Via.refl e4 Fl6 Ex5 (Or.inr ⟨(w_28 hw), rfl, hnm⟩) (w_2 hw) (ty := .byte) (v' := (.int (nar .byte (1 : Int32)))) (by decide) rfl (fits_nar_byte _) (g := (mkF m 11 #[.val (.ref a1), .val (.ref a2), .val (.int 1)] [(.int 1), (.ref a1)])) rfl rfl (hb hby d14_11)
  have s1 := (Keep.of_wr W7).1
  have N7 := Fr.snoc X7 N4 g_a1
  have Fw7 : Fld Z h7 a1 "java/lang/String" "coder" "B" (.int 1) := Fl6.same W7
  have Ex8 := (Ex5.wr W7)
  have Fl9 := (Fw4.other W7 (Or.inr (slot_ne (Or.inr (w_30 hw)) (Or.inr (w_28 hw)) (by decide) (t := (.array .byte)) (t' := .byte) (by decide) (by decide))))
  have Kp0 : Keep h0 h4 [a1] := (Keep.refl h0 [a1]).wr W4 (Or.inl (List.mem_of_getElem? (i := 0) rfl))
  have Kp1 : Keep h0 h7 [a1] := Kp0.wr W7 (Or.inl (List.mem_of_getElem? (i := 0) rfl))
  refine ⟨T7, _, _, _, none, X7, (fun _ => rfl), by decide, by decide, ?_, fun fs hr => ?_⟩
  · rw [e7]
    exact ⟨rfl, N7, Kp1, Ex8, Fw7, Fl9⟩
  · refine XS.aloadN X0.here hx rfl (hb hby d14_0) rfl rfl ?_
    refine st3 _ ?_
    refine XS.aloadN X3.here hx rfl (hb hby d14_4) rfl rfl ?_
    refine XS.aloadN X3.here hx rfl (hb hby d14_5) rfl rfl ?_
    refine st4 _ ?_
    refine XS.aloadN X4.here hx rfl (hb hby d14_9) rfl rfl ?_
    refine XS.iloadN X4.here hx rfl (hb hby d14_10) rfl ?_
    refine st7 _ ?_
    exact X7.returnOut hx hret (hb hby d14_14) hr
theorem pd_11 : parseMethodDescriptor "([BB)V" = some ⟨[(.array .byte), .byte], none⟩ := by decide +kernel
theorem w_66 {a0 : Array Value} {Z : State} (hw : ∀ d ∈ tables_1, d.before a0 Z = true) : Jvm.Cond.before (Jvm.Cond.code ({ cls := "java/lang/String", name := "<init>", desc := "([BB)V" } : Jvm.MethodName) jdk_42_method_151_code (3 : Nat) (Option.none : Option Jvm.ClassFile.FieldType)) a0 Z = true := hw _ (List.mem_of_getElem? (i := 66) rfl)
theorem w_64 {a0 : Array Value} {Z : State} (hw : ∀ d ∈ tables_1, d.before a0 Z = true) : Jvm.Cond.before (Jvm.Cond.methodLink "java/lang/String" (209 : Nat) ({ cls := "java/lang/String", name := "<init>", desc := "([BB)V" } : Jvm.MethodName)) a0 Z = true := hw _ (List.mem_of_getElem? (i := 64) rfl)
theorem w_65 {a0 : Array Value} {Z : State} (hw : ∀ d ∈ tables_1, d.before a0 Z = true) : Jvm.Cond.before (Jvm.Cond.instanceMethod ({ cls := "java/lang/String", name := "<init>", desc := "([BB)V" } : Jvm.MethodName)) a0 Z = true := hw _ (List.mem_of_getElem? (i := 65) rfl)
theorem d11_38 : decode jdk_42_method_139_code 38 = .ok (.areturn, 1) := by decide +kernel
theorem d12_7 : decode jdk_43_method_3_code 7 = .ok (.iconst 1, 1) := by decide +kernel
theorem d12_8 : decode jdk_43_method_3_code 8 = .ok (.goto 4, 3) := by decide +kernel
-- java/lang/StringLatin1.canEncode(C)Z
abbrev Rm15 : Room := { frames := 0, cells := 0, slots := 0, locals := 0 }
def Q15 (Z : State) (p1 : Int32) (h0 : Heap) (n0 : Nat) (v : Option Value) (h : Heap) (L : List Loc) : Prop := v = some (.int 1) ∧ Fr n0 L ∧ h = h0
-- ef_3c75b7
theorem rm15 (l : Launch) (Z : State) (a0 : Array Value) (hw : ∀ d ∈ tables_1, d.before a0 Z = true) (ws : List Jvm.Cond) (p1 : Int32) (h0 : Heap) (n0 : Nat) (Z0 : n0 ≤ h0.size) (c2 : ¬ ((255 : Int32) < p1)) :
    OwnMet l Z y_10 jdk_43_method_3_code 1 (some .boolean) ws Rm15 #[(.int p1)] h0 (Q15 Z p1 h0 n0) := by
  refine own_body (plainFor_of_name pn_2) (ef_3c75b7 p1) ?_
  intro p e s m below meth c s₁ hx hby hml hown hnm hret hZ X0 e0
  have N0 := Fr.nil n0
  refine ⟨s₁, _, _, _, (some (.int 1)), X0, nofun, by decide, by decide, ?_, fun fs hr => ?_⟩
  · rw [e0]
    exact ⟨rfl, N0, rfl⟩
  · refine XS.iloadN X0.here hx rfl (hb hby d12_0) rfl ?_
    refine XS.sipush X0.here hx rfl (hb hby d12_1) ?_
    refine XS.icmpNo X0.here hx rfl (hb hby d12_4) rfl (flt (c2 : ¬ ((255 : Int32) < p1))).2.2.1 ?_
    refine XS.iconst X0.here hx rfl (hb hby d12_7) ?_
    refine XS.goto X0.here hx rfl (pc0 := 8) (pc' := 12) rfl (hb hby d12_8) (by decide) (by decide) ?_
    exact retN X0 hx (t := .boolean) hret (by simp) (hb hby d12_12) hr
theorem d11_13 : decode jdk_42_method_139_code 13 = .ok (.new 10, 3) := by decide +kernel
theorem d11_16 : decode jdk_42_method_139_code 16 = .ok (.dup, 1) := by decide +kernel
theorem d11_17 : decode jdk_42_method_139_code 17 = .ok (.iload_n 0, 1) := by decide +kernel
theorem d11_18 : decode jdk_42_method_139_code 18 = .ok (.invokestatic 1018, 3) := by decide +kernel
theorem d13_0 : decode jdk_43_method_46_code 0 = .ok (.iconst 1, 1) := by decide +kernel
theorem d13_1 : decode jdk_43_method_46_code 1 = .ok (.newarray .byte, 2) := by decide +kernel
theorem d13_3 : decode jdk_43_method_46_code 3 = .ok (.dup, 1) := by decide +kernel
theorem d13_4 : decode jdk_43_method_46_code 4 = .ok (.iconst 0, 1) := by decide +kernel
theorem d13_5 : decode jdk_43_method_46_code 5 = .ok (.iload_n 0, 1) := by decide +kernel
theorem d13_6 : decode jdk_43_method_46_code 6 = .ok (.i2b, 1) := by decide +kernel
theorem d13_7 : decode jdk_43_method_46_code 7 = .ok (.bastore, 1) := by decide +kernel
theorem d13_8 : decode jdk_43_method_46_code 8 = .ok (.areturn, 1) := by decide +kernel
abbrev y_13 : MethodName := ⟨"java/lang/StringLatin1", "toBytes", "(C)[B"⟩
-- java/lang/StringLatin1.toBytes(C)[B
abbrev Rm16 : Room := { frames := 0, cells := 1, slots := 1, locals := 0 }
def Q16 (Z : State) (p1 : Int32) (h0 : Heap) (n0 : Nat) (v : Option Value) (h : Heap) (L : List Loc) : Prop := ∃ b2 : Addr, ∃ k2 : ClassId, v = some (.ref b2) ∧ Fr n0 L ∧ Keep h0 h [] ∧ h0.size ≤ b2 ∧ Exa Z h b2 "[B" ∧ Arv Z h b2 k2 .byte (1 : Int32) [(.int (nar .byte (p1.toInt8.toInt32)))] (.int 0)
-- ef_3c75b7
theorem rm16 (l : Launch) (Z : State) (a0 : Array Value) (hw : ∀ d ∈ tables_1, d.before a0 Z = true) (ws : List Jvm.Cond) (p1 : Int32) (h0 : Heap) (n0 : Nat) (Z0 : n0 ≤ h0.size) :
    OwnMet l Z y_13 jdk_43_method_46_code 1 (some (.array .byte)) ws Rm16 #[(.int p1)] h0 (Q16 Z p1 h0 n0) := by
  refine own_body (plainFor_of_name pn_2) (ef_3c75b7 p1) ?_
  intro p e s m below meth c s₁ hx hby hml hown hnm hret hZ X0 e0
  have N0 := Fr.nil n0
  obtain ⟨T2, h2, k2, X2, e2, E2, A2, B2, st2⟩ := newPE (aty := .byte) X0 hx hZ (w_20 hw) e0 (g := (mkF m 1 #[.val (.int p1)] [(.int 1)])) rfl (hb hby d13_1) rfl (by decide) (cap := 1) (by decide) (by decide) (by decide) (by decide) (ad := "[B") (by decide)
  obtain ⟨b2, g2⟩ : ∃ z, z = h0.size := ⟨_, rfl⟩
  rw [← g2] at A2 B2 st2
  have s0 := E2.1
  have Vn2 : Arv Z h2 b2 k2 .byte (1 : Int32) [(.int 0)] (.int 0) := (Arv.new A2 (by decide)).pad (pad_rep [] (.int 0) 1)
  obtain ⟨cl3, Ar3, q3, S3, M3, Hs3, G3⟩ := id Vn2
  have hin4 : ¬ ((0 : Int32) < 0 ∨ cl3.slots.size ≤ ((0 : Int32)).toNatClampNeg) := inb_of S3 ⟨(by decide : ¬ ((0 : Int32) < (0 : Int32))), (by decide : (0 : Int32) < (1 : Int32))⟩
  obtain ⟨T5, h5, X5, e5, W5, st5⟩ := stB X2 hx hZ e2 Ar3 (j := (0 : Int32)) hin4 (g := (mkF m 7 #[.val (.int p1)] [(.int (p1.toInt8.toInt32)), (.int 0), (.ref b2), (.ref b2)])) rfl rfl (hb hby d13_7)
  have s1 := (Keep.of_wr W5).1
  have g_b2 : n0 ≤ b2 := Nat.le_trans Z0 (Nat.le_of_eq g2.symm)
  have N5 := Fr.snoc X5 N0 g_b2
  have Vs5 : Arv Z h5 b2 k2 .byte (1 : Int32) [(.int (nar .byte (p1.toInt8.toInt32)))] (.int 0) := Arv.set Ar3 q3 S3 M3 Hs3 G3 (fits_nar_byte _) W5 0 rfl (Nat.le_of_ble_eq_true rfl)
  have sz_b2 : h0.size ≤ b2 := (Nat.le_of_eq g2.symm)
  have Ex6 := (B2.wr W5)
  have Kp0 : Keep h0 h2 [] := (Keep.refl h0 []).ext E2
  have Kp1 : Keep h0 h5 [] := Kp0.wr W5 (Or.inr sz_b2)
  refine ⟨T5, _, _, _, (some (.ref b2)), X5, nofun, by decide, by decide, ?_, fun fs hr => ?_⟩
  · rw [e5]
    exact ⟨b2, k2, rfl, N5, Kp1, sz_b2, Ex6, Vs5⟩
  · refine XS.iconst X0.here hx rfl (hb hby d13_0) ?_
    refine st2 _ ?_
    refine XS.dup X2.here hx rfl (hb hby d13_3) rfl rfl ?_
    refine XS.iconst X2.here hx rfl (hb hby d13_4) ?_
    refine XS.iloadN X2.here hx rfl (hb hby d13_5) rfl ?_
    refine XS.i2b X2.here hx rfl (hb hby d13_6) rfl ?_
    refine st5 _ ?_
    exact retOut X5 hx hret rfl (Or.inr (Or.inr (Or.inr (Or.inr ⟨rfl, rfl, rfl⟩)))) (hb hby d13_8) hr
theorem w_63 {a0 : Array Value} {Z : State} (hw : ∀ d ∈ tables_1, d.before a0 Z = true) : Jvm.Cond.before (Jvm.Cond.code ({ cls := "java/lang/StringLatin1", name := "toBytes", desc := "(C)[B" } : Jvm.MethodName) jdk_43_method_46_code (1 : Nat) (Option.some (Jvm.ClassFile.FieldType.array Jvm.ClassFile.FieldType.byte))) a0 Z = true := hw _ (List.mem_of_getElem? (i := 63) rfl)
theorem w_61 {a0 : Array Value} {Z : State} (hw : ∀ d ∈ tables_1, d.before a0 Z = true) : Jvm.Cond.before (Jvm.Cond.methodLink "java/lang/String" (1018 : Nat) ({ cls := "java/lang/StringLatin1", name := "toBytes", desc := "(C)[B" } : Jvm.MethodName)) a0 Z = true := hw _ (List.mem_of_getElem? (i := 61) rfl)
theorem w_62 {a0 : Array Value} {Z : State} (hw : ∀ d ∈ tables_1, d.before a0 Z = true) : Jvm.Cond.before (Jvm.Cond.static ({ cls := "java/lang/StringLatin1", name := "toBytes", desc := "(C)[B" } : Jvm.MethodName)) a0 Z = true := hw _ (List.mem_of_getElem? (i := 62) rfl)
theorem d11_21 : decode jdk_42_method_139_code 21 = .ok (.iconst 0, 1) := by decide +kernel
theorem d11_22 : decode jdk_42_method_139_code 22 = .ok (.invokespecial 209, 3) := by decide +kernel
theorem ef_1a400d (a1 : Addr) (a2 : Addr) (m : MethodId) : entryFrame m #[(.ref a1), (.ref a2), (.int 0)] 3 = mkF m 0 #[.val (.ref a1), .val (.ref a2), .val (.int 0)] [] := by first | (simp [entryFrame, mkF, argsToLocals, Value.category]; done) | rfl
-- java/lang/String.<init>([BB)V
abbrev Rm17 : Room := { frames := 1, cells := 0, slots := 0, locals := 12 }
def Q17 (Z : State) (a1 : Addr) (a2 : Addr) (h0 : Heap) (n0 : Nat) (v : Option Value) (h : Heap) (L : List Loc) : Prop := v = none ∧ Fr n0 L ∧ Keep h0 h [a1] ∧ Exa Z h a1 "java/lang/String" ∧ Fld Z h a1 "java/lang/String" "coder" "B" (.int 0) ∧ Fld Z h a1 "java/lang/String" "value" "[B" (.ref a2)
-- ef_1a400d
theorem rm17 (l : Launch) (Z : State) (a0 : Array Value) (hw : ∀ d ∈ tables_1, d.before a0 Z = true) (ws : List Jvm.Cond) (a1 : Addr) (a2 : Addr) (h0 : Heap) (n0 : Nat) (Z0 : n0 ≤ h0.size) (F_value_a1 : Fld Z h0 a1 "java/lang/String" "value" "[B" .null) (E_a1 : Exa Z h0 a1 "java/lang/String") (g_a1 : n0 ≤ a1) (F_coder_a1 : Fld Z h0 a1 "java/lang/String" "coder" "B" (.int 0)) :
    OwnMet l Z y_12 jdk_42_method_151_code 3 none ws Rm17 #[(.ref a1), (.ref a2), (.int 0)] h0 (Q17 Z a1 a2 h0 n0) := by
  refine own_body (plainFor_of_name pn_1) (ef_1a400d a1 a2) ?_
  intro p e s m below meth c s₁ hx hby hml hown hnm hret hZ X0 e0
  have N0 := Fr.nil n0
  obtain ⟨T3, X3, e3, st3⟩ := initO X0 hx hZ hown (w_12 hw) (w_13 hw) (w_14 hw) e0 (g := (mkF m 1 #[.val (.ref a1), .val (.ref a2), .val (.int 0)] [(.ref a1)])) rfl (by rw [hml]; rfl) rfl (hb hby d14_1) (by decide) (W := 0) (by show 2 * 0 + _ ≤ _; exact Nat.le_of_eq rfl) (by decide)
  obtain ⟨T4, h4, X4, e4, W4, st4⟩ := putF X3 hx hZ hown (host := "") (Or.inl (w_29 hw)) Via.refl e3 F_value_a1 E_a1 (Or.inr ⟨(w_30 hw), rfl, hnm⟩) (w_2 hw) (ty := (.array .byte)) (by decide) rfl rfl (g := (mkF m 6 #[.val (.ref a1), .val (.ref a2), .val (.int 0)] [(.ref a2), (.ref a1)])) rfl rfl (hb hby d14_6)
  have s0 := (Keep.of_wr W4).1
  have N4 := Fr.snoc X4 N0 g_a1
  have Fw4 : Fld Z h4 a1 "java/lang/String" "value" "[B" (.ref a2) := F_value_a1.same W4
  have Ex5 := (E_a1.wr W4)
  have Fl6 := (F_coder_a1.other W4 (Or.inr (slot_ne (Or.inr (w_28 hw)) (Or.inr (w_30 hw)) (by decide) (t := .byte) (t' := (.array .byte)) (by decide) (by decide))))
  obtain ⟨T7, h7, X7, e7, W7, st7⟩ := putFN X4 hx hZ hown (w_27 hw) Via.refl e4 Fl6 Ex5 (Or.inr ⟨(w_28 hw), rfl, hnm⟩) (w_2 hw) (ty := .byte) (v' := (.int (nar .byte (0 : Int32)))) (by decide) rfl (fits_nar_byte _) (g := (mkF m 11 #[.val (.ref a1), .val (.ref a2), .val (.int 0)] [(.int 0), (.ref a1)])) rfl rfl (hb hby d14_11)
  have s1 := (Keep.of_wr W7).1
  have N7 := Fr.snoc X7 N4 g_a1
  have Fw7 : Fld Z h7 a1 "java/lang/String" "coder" "B" (.int 0) := Fl6.same W7
  have Ex8 := (Ex5.wr W7)
  have Fl9 := (Fw4.other W7 (Or.inr (slot_ne (Or.inr (w_30 hw)) (Or.inr (w_28 hw)) (by decide) (t := (.array .byte)) (t' := .byte) (by decide) (by decide))))
  have Kp0 : Keep h0 h4 [a1] := (Keep.refl h0 [a1]).wr W4 (Or.inl (List.mem_of_getElem? (i := 0) rfl))
  have Kp1 : Keep h0 h7 [a1] := Kp0.wr W7 (Or.inl (List.mem_of_getElem? (i := 0) rfl))
  refine ⟨T7, _, _, _, none, X7, (fun _ => rfl), by decide, by decide, ?_, fun fs hr => ?_⟩
  · rw [e7]
    exact ⟨rfl, N7, Kp1, Ex8, Fw7, Fl9⟩
  · refine XS.aloadN X0.here hx rfl (hb hby d14_0) rfl rfl ?_
    refine st3 _ ?_
    refine XS.aloadN X3.here hx rfl (hb hby d14_4) rfl rfl ?_
    refine XS.aloadN X3.here hx rfl (hb hby d14_5) rfl rfl ?_
    refine st4 _ ?_
    refine XS.aloadN X4.here hx rfl (hb hby d14_9) rfl rfl ?_
    refine XS.iloadN X4.here hx rfl (hb hby d14_10) rfl ?_
    refine st7 _ ?_
    exact X7.returnOut hx hret (hb hby d14_14) hr
theorem d11_25 : decode jdk_42_method_139_code 25 = .ok (.areturn, 1) := by decide +kernel
abbrev y_14 : MethodName := ⟨"java/lang/String", "valueOf", "(C)Ljava/lang/String;"⟩
-- java/lang/String.valueOf(C)Ljava/lang/String;
abbrev Rm18 : Room := { frames := 2, cells := 2, slots := 6, locals := 29 }
def Q18 (Z : State) (p1 : Int32) (p2 : Int32) (h0 : Heap) (n0 : Nat) (v : Option Value) (h : Heap) (L : List Loc) : Prop := ∃ m0 : Addr, ∃ m1 : Addr, ∃ kk2 : ClassId, ∃ uu3 : List Value, v = some (.ref m0) ∧ Fr n0 L ∧ Keep h0 h [] ∧ h0.size ≤ m0 ∧ Exa Z h m0 "java/lang/String" ∧ Fld Z h m0 "java/lang/String" "coder" "B" (.int (if (255 : Int32) < p1 then (1 : Int32) else (0 : Int32))) ∧ h0.size ≤ m1 ∧ Fld Z h m0 "java/lang/String" "value" "[B" (.ref m1) ∧ Exa Z h m1 "[B" ∧ Arv Z h m1 kk2 .byte (if (255 : Int32) < p1 then (2 : Int32) else (1 : Int32)) uu3 (.int 0) ∧ m0 ≠ m1
-- ef_3c75b7
theorem rm18_0 (l : Launch) (Z : State) (a0 : Array Value) (hw : ∀ d ∈ tables_1, d.before a0 Z = true) (ws : List Jvm.Cond) (p1 : Int32) (p2 : Int32) (h0 : Heap) (n0 : Nat) (Z0 : n0 ≤ h0.size) (S_COMPACT_STRINGS : Sta Z Z.heap "java/lang/String" "COMPACT_STRINGS" "Z" (.int p2)) (Od0 : Old Z n0 h0) (c4 : ¬ (p2 = (0 : Int32))) (S__assertionsDisabled : Sta Z Z.heap "java/lang/StringUTF16" "$assertionsDisabled" "Z" (.int 1)) (S_HI_BYTE_SHIFT : Sta Z Z.heap "java/lang/StringUTF16" "HI_BYTE_SHIFT" "I" (.int 0)) (S_LO_BYTE_SHIFT : Sta Z Z.heap "java/lang/StringUTF16" "LO_BYTE_SHIFT" "I" (.int 8)) (cc1 : (255 : Int32) < p1) :
    OwnMet l Z y_14 jdk_42_method_139_code 1 (some (.object "java/lang/String")) ws Rm18 #[(.int p1)] h0 (Q18 Z p1 p2 h0 n0) := by
  refine own_body (plainFor_of_name pn_1) (ef_3c75b7 p1) ?_
  intro p e s m below meth c s₁ hx hby hml hown hnm hret hZ X0 e0
  have N0 := Fr.nil n0
  obtain ⟨T5, X5, e5, st5⟩ := getS2 X0 hx hZ hown (host := "") (Or.inl (w_15 hw)) Via.refl e0 (S_COMPACT_STRINGS.ext Od0.2) (g := (mkF m 0 #[.val (.int p1)] [])) rfl (hb hby d11_0)
  obtain ⟨_, T7, L7, X7, hQ7, st7⟩ := own_callS X5 hx hZ hown (y := y_10) (w_56 hw) (w_57 hw) (w_58 hw) (w_59 hw) (rm12 l Z a0 hw [] p1 h0 n0 Z0 cc1) e5 (Ls := #[.val (.int p1)]) (by rw [hml]; rfl) (argsL := [(.int p1)]) (rest := []) (lenOf pd_9 rfl) (hb hby d11_7) (W := 0)
  obtain ⟨rfl, Nq7, e7⟩ := hQ7
  have N7 := Fr.app N0 Nq7
  obtain ⟨T8, h8, X8, e8, E8, A8, D8, -, st8⟩ := newO X7 hx hZ hown (w_60 hw) (w_2 hw) (w_3 hw) e7 (g := (mkF m 26 #[.val (.int p1)] [])) rfl (hb hby d11_26) (by decide) (by decide)
  obtain ⟨b8, g8⟩ : ∃ z, z = h0.size := ⟨_, rfl⟩
  rw [← g8] at A8 D8 st8
  have s0 := E8.1
  have Fn8_coder : Fld Z h8 b8 "java/lang/String" "coder" "B" (.int 0) := D8 (Or.inr (w_28 hw)) (ty := .byte) (by decide)
  have Fn8_value : Fld Z h8 b8 "java/lang/String" "value" "[B" .null := D8 (Or.inr (w_30 hw)) (ty := (.array .byte)) (by decide)
  have Od1 : Old Z n0 h8 := Od0.ext E8
  have z1 := Nat.le_trans Z0 s0
  obtain ⟨_, T9, L9, X9, hQ9, st9⟩ := own_callS X8 hx hZ hown (y := y_11) (w_86 hw) (w_87 hw) (w_18 hw) (w_88 hw) (rm13 l Z a0 hw [] p1 h8 n0 z1 S__assertionsDisabled Od1 S_HI_BYTE_SHIFT S_LO_BYTE_SHIFT) e8 (Ls := #[.val (.int p1)]) (by rw [hml]; rfl) (argsL := [(.int p1)]) (rest := [(.ref b8), (.ref b8)]) (lenOf pd_10 rfl) (hb hby d11_31) (W := 2)
  obtain ⟨b9_b2, k9_k2, rfl, Nq9, K9, o9_0, o9_1, o9_2⟩ := hQ9
  have N9 := Fr.app N7 Nq9
  have s1 := K9.1
  have Fl10 := (Fn8_value.keep K9 nin0)
  have Ex11 := (A8.keep K9)
  have g_b8 : n0 ≤ b8 := Nat.le_trans Z0 (Nat.le_of_eq g8.symm)
  have Fl12 := (Fn8_coder.keep K9 nin0)
  have z2 := Nat.le_trans Z0 (Nat.le_trans s0 s1)
  obtain ⟨_, T13, L13, X13, hQ13, st13⟩ := own_special X9 hx hZ hown (y := y_12) (a := b8) (w_64 hw) (w_65 hw) (w_3 hw) (w_66 hw) (rm14 l Z a0 hw [] b8 b9_b2 T9.heap n0 z2 Fl10 Ex11 g_b8 Fl12) rfl (Ls := #[.val (.int p1)]) (by rw [hml]; rfl) (argsL := [(.ref b9_b2), (.int 1)]) (rest := [(.ref b8)]) (lenOf pd_11 rfl) (hb hby d11_35) (W := 1)
  obtain ⟨rfl, Nq13, K13, o13_0, o13_1, o13_2⟩ := hQ13
  have N13 := Fr.app N9 Nq13
  have s2 := K13.1
  have sz_b8 : h0.size ≤ b8 := (Nat.le_of_eq g8.symm)
  have sz_b9_b2 : h0.size ≤ b9_b2 := Nat.le_trans s0 o9_0
  have Ex23 := (o9_1.keep K13)
  have ne_b8_b9_b2 := Nat.ne_of_lt (Nat.lt_of_lt_of_le Fn8_value.lt o9_0)
  have Va25 := (o9_2.keep K13 (ninS (Ne.symm ne_b8_b9_b2) nin0))
  have Kp0 : Keep h0 h8 [] := (Keep.refl h0 []).ext E8
  have Kp1 : Keep h0 T9.heap [] := Kp0.trans K9 all0
  have Kp2 : Keep h0 T13.heap [] := Kp1.trans K13 (allS (Or.inr sz_b8) all0)
  refine ⟨T13, _, _, _, (some (.ref b8)), X13, nofun, by decide, by decide, ?_, fun fs hr => ?_⟩
  · unfold Q18
    rw [show (if (255 : Int32) < p1 then (1 : Int32) else (0 : Int32)) = (1 : Int32) from by rw [if_pos cc1]]
    rw [show (if (255 : Int32) < p1 then (2 : Int32) else (1 : Int32)) = (2 : Int32) from by rw [if_pos cc1]]
    exact ⟨b8, b9_b2, k9_k2, [(.int (nar .byte ((p1 >>> ((0 : Int32) &&& 31)).toInt8.toInt32))), (.int (nar .byte ((p1 >>> ((8 : Int32) &&& 31)).toInt8.toInt32)))], rfl, N13, Kp2, sz_b8, o13_0, o13_1, sz_b9_b2, o13_2, Ex23, Va25, ne_b8_b9_b2⟩
  · refine st5 _ ?_
    refine XS.ifNo X5.here hx rfl (hb hby d11_3) rfl ((if0 _ _).trans (feq (c4 : ¬ (p2 = (0 : Int32)))).1) ?_
    refine XS.iloadN X5.here hx rfl (hb hby d11_6) rfl ?_
    refine st7 _ ?_
    refine XS.ifYes X7.here hx rfl (pc0 := 10) (pc' := 26) rfl (hb hby d11_10) rfl ((if0 _ _).trans (teq ((by decide : (0 : Int32) = (0 : Int32)) : (0 : Int32) = (0 : Int32))).1) (by decide) (by decide) ?_
    refine st8 _ ?_
    refine XS.dup X8.here hx rfl (hb hby d11_29) rfl rfl ?_
    refine XS.iloadN X8.here hx rfl (hb hby d11_30) rfl ?_
    refine st9 _ ?_
    refine XS.iconst X9.here hx rfl (hb hby d11_34) ?_
    refine st13 _ ?_
    show Steps p.tables e below (T13.setTop (mkF m 38 #[.val (.int p1)] [(.ref b8)])) _
    exact retOut X13 hx hret rfl (Or.inr (Or.inr (Or.inr (Or.inr ⟨rfl, rfl, rfl⟩)))) (hb hby d11_38) hr
theorem rm18_1 (l : Launch) (Z : State) (a0 : Array Value) (hw : ∀ d ∈ tables_1, d.before a0 Z = true) (ws : List Jvm.Cond) (p1 : Int32) (p2 : Int32) (h0 : Heap) (n0 : Nat) (Z0 : n0 ≤ h0.size) (S_COMPACT_STRINGS : Sta Z Z.heap "java/lang/String" "COMPACT_STRINGS" "Z" (.int p2)) (Od0 : Old Z n0 h0) (c4 : ¬ (p2 = (0 : Int32))) (S__assertionsDisabled : Sta Z Z.heap "java/lang/StringUTF16" "$assertionsDisabled" "Z" (.int 1)) (S_HI_BYTE_SHIFT : Sta Z Z.heap "java/lang/StringUTF16" "HI_BYTE_SHIFT" "I" (.int 0)) (S_LO_BYTE_SHIFT : Sta Z Z.heap "java/lang/StringUTF16" "LO_BYTE_SHIFT" "I" (.int 8)) (cc1 : ¬ ((255 : Int32) < p1)) :
    OwnMet l Z y_14 jdk_42_method_139_code 1 (some (.object "java/lang/String")) ws Rm18 #[(.int p1)] h0 (Q18 Z p1 p2 h0 n0) := by
  refine own_body (plainFor_of_name pn_1) (ef_3c75b7 p1) ?_
  intro p e s m below meth c s₁ hx hby hml hown hnm hret hZ X0 e0
  have N0 := Fr.nil n0
  obtain ⟨T14, X14, e14, st14⟩ := getS2 X0 hx hZ hown (host := "") (Or.inl (w_15 hw)) Via.refl e0 (S_COMPACT_STRINGS.ext Od0.2) (g := (mkF m 0 #[.val (.int p1)] [])) rfl (hb hby d11_0)
  obtain ⟨_, T16, L16, X16, hQ16, st16⟩ := own_callS X14 hx hZ hown (y := y_10) (w_56 hw) (w_57 hw) (w_58 hw) (w_59 hw) (rm15 l Z a0 hw [] p1 h0 n0 Z0 cc1) e14 (Ls := #[.val (.int p1)]) (by rw [hml]; rfl) (argsL := [(.int p1)]) (rest := []) (lenOf pd_9 rfl) (hb hby d11_7) (W := 0)
  obtain ⟨rfl, Nq16, e16⟩ := hQ16
  have N16 := Fr.app N0 Nq16
  obtain ⟨T17, h17, X17, e17, E17, A17, D17, -, st17⟩ := newO X16 hx hZ hown (w_60 hw) (w_2 hw) (w_3 hw) e16 (g := (mkF m 13 #[.val (.int p1)] [])) rfl (hb hby d11_13) (by decide) (by decide)
  obtain ⟨b17, g17⟩ : ∃ z, z = h0.size := ⟨_, rfl⟩
  rw [← g17] at A17 D17 st17
  have s0 := E17.1
  have Fn17_coder : Fld Z h17 b17 "java/lang/String" "coder" "B" (.int 0) := D17 (Or.inr (w_28 hw)) (ty := .byte) (by decide)
  have Fn17_value : Fld Z h17 b17 "java/lang/String" "value" "[B" .null := D17 (Or.inr (w_30 hw)) (ty := (.array .byte)) (by decide)
  have z1 := Nat.le_trans Z0 s0
  obtain ⟨_, T18, L18, X18, hQ18, st18⟩ := own_callS X17 hx hZ hown (y := y_13) (w_61 hw) (w_62 hw) (w_58 hw) (w_63 hw) (rm16 l Z a0 hw [] p1 h17 n0 z1) e17 (Ls := #[.val (.int p1)]) (by rw [hml]; rfl) (argsL := [(.int p1)]) (rest := [(.ref b17), (.ref b17)]) (lenOf pd_10 rfl) (hb hby d11_18) (W := 2)
  obtain ⟨b18_b2, k18_k2, rfl, Nq18, K18, o18_0, o18_1, o18_2⟩ := hQ18
  have N18 := Fr.app N16 Nq18
  have s1 := K18.1
  have Fl19 := (Fn17_value.keep K18 nin0)
  have Ex20 := (A17.keep K18)
  have g_b17 : n0 ≤ b17 := Nat.le_trans Z0 (Nat.le_of_eq g17.symm)
  have Fl21 := (Fn17_coder.keep K18 nin0)
  have z2 := Nat.le_trans Z0 (Nat.le_trans s0 s1)
  obtain ⟨_, T22, L22, X22, hQ22, st22⟩ := own_special X18 hx hZ hown (y := y_12) (a := b17) (w_64 hw) (w_65 hw) (w_3 hw) (w_66 hw) (rm17 l Z a0 hw [] b17 b18_b2 T18.heap n0 z2 Fl19 Ex20 g_b17 Fl21) rfl (Ls := #[.val (.int p1)]) (by rw [hml]; rfl) (argsL := [(.ref b18_b2), (.int 0)]) (rest := [(.ref b17)]) (lenOf pd_11 rfl) (hb hby d11_22) (W := 1)
  obtain ⟨rfl, Nq22, K22, o22_0, o22_1, o22_2⟩ := hQ22
  have N22 := Fr.app N18 Nq22
  have s2 := K22.1
  have sz_b17 : h0.size ≤ b17 := (Nat.le_of_eq g17.symm)
  have sz_b18_b2 : h0.size ≤ b18_b2 := Nat.le_trans s0 o18_0
  have Ex24 := (o18_1.keep K22)
  have ne_b17_b18_b2 := Nat.ne_of_lt (Nat.lt_of_lt_of_le Fn17_value.lt o18_0)
  have Va26 := (o18_2.keep K22 (ninS (Ne.symm ne_b17_b18_b2) nin0))
  have Kp0 : Keep h0 h17 [] := (Keep.refl h0 []).ext E17
  have Kp1 : Keep h0 T18.heap [] := Kp0.trans K18 all0
  have Kp2 : Keep h0 T22.heap [] := Kp1.trans K22 (allS (Or.inr sz_b17) all0)
  refine ⟨T22, _, _, _, (some (.ref b17)), X22, nofun, by decide, by decide, ?_, fun fs hr => ?_⟩
  · unfold Q18
    rw [show (if (255 : Int32) < p1 then (1 : Int32) else (0 : Int32)) = (0 : Int32) from by rw [if_neg cc1]]
    rw [show (if (255 : Int32) < p1 then (2 : Int32) else (1 : Int32)) = (1 : Int32) from by rw [if_neg cc1]]
    exact ⟨b17, b18_b2, k18_k2, [(.int (nar .byte (p1.toInt8.toInt32)))], rfl, N22, Kp2, sz_b17, o22_0, o22_1, sz_b18_b2, o22_2, Ex24, Va26, ne_b17_b18_b2⟩
  · refine st14 _ ?_
    refine XS.ifNo X14.here hx rfl (hb hby d11_3) rfl ((if0 _ _).trans (feq (c4 : ¬ (p2 = (0 : Int32)))).1) ?_
    refine XS.iloadN X14.here hx rfl (hb hby d11_6) rfl ?_
    refine st16 _ ?_
    refine XS.ifNo X16.here hx rfl (hb hby d11_10) rfl ((if0 _ _).trans (feq ((by decide : ¬ ((1 : Int32) = (0 : Int32))) : ¬ ((1 : Int32) = (0 : Int32)))).1) ?_
    refine st17 _ ?_
    refine XS.dup X17.here hx rfl (hb hby d11_16) rfl rfl ?_
    refine XS.iloadN X17.here hx rfl (hb hby d11_17) rfl ?_
    refine st18 _ ?_
    refine XS.iconst X18.here hx rfl (hb hby d11_21) ?_
    refine st22 _ ?_
    show Steps p.tables e below (T22.setTop (mkF m 25 #[.val (.int p1)] [(.ref b17)])) _
    exact retOut X22 hx hret rfl (Or.inr (Or.inr (Or.inr (Or.inr ⟨rfl, rfl, rfl⟩)))) (hb hby d11_25) hr
theorem rm18 (l : Launch) (Z : State) (a0 : Array Value) (hw : ∀ d ∈ tables_1, d.before a0 Z = true) (ws : List Jvm.Cond) (p1 : Int32) (p2 : Int32) (h0 : Heap) (n0 : Nat) (Z0 : n0 ≤ h0.size) (S_COMPACT_STRINGS : Sta Z Z.heap "java/lang/String" "COMPACT_STRINGS" "Z" (.int p2)) (Od0 : Old Z n0 h0) (c4 : ¬ (p2 = (0 : Int32))) (S__assertionsDisabled : Sta Z Z.heap "java/lang/StringUTF16" "$assertionsDisabled" "Z" (.int 1)) (S_HI_BYTE_SHIFT : Sta Z Z.heap "java/lang/StringUTF16" "HI_BYTE_SHIFT" "I" (.int 0)) (S_LO_BYTE_SHIFT : Sta Z Z.heap "java/lang/StringUTF16" "LO_BYTE_SHIFT" "I" (.int 8)) :
    OwnMet l Z y_14 jdk_42_method_139_code 1 (some (.object "java/lang/String")) ws Rm18 #[(.int p1)] h0 (Q18 Z p1 p2 h0 n0) := by
  by_cases cc1 : (255 : Int32) < p1
  · exact rm18_0 l Z a0 hw ws p1 p2 h0 n0 Z0 S_COMPACT_STRINGS Od0 c4 S__assertionsDisabled S_HI_BYTE_SHIFT S_LO_BYTE_SHIFT cc1
  · exact rm18_1 l Z a0 hw ws p1 p2 h0 n0 Z0 S_COMPACT_STRINGS Od0 c4 S__assertionsDisabled S_HI_BYTE_SHIFT S_LO_BYTE_SHIFT cc1
theorem pd_12 : parseMethodDescriptor "(C)Ljava/lang/String;" = some ⟨[.char], some (.object "java/lang/String")⟩ := by decide +kernel
theorem w_55 {a0 : Array Value} {Z : State} (hw : ∀ d ∈ tables_1, d.before a0 Z = true) : Jvm.Cond.before (Jvm.Cond.code ({ cls := "java/lang/String", name := "valueOf", desc := "(C)Ljava/lang/String;" } : Jvm.MethodName) jdk_42_method_139_code (1 : Nat) (Option.some (Jvm.ClassFile.FieldType.object "java/lang/String"))) a0 Z = true := hw _ (List.mem_of_getElem? (i := 55) rfl)
theorem w_53 {a0 : Array Value} {Z : State} (hw : ∀ d ∈ tables_1, d.before a0 Z = true) : Jvm.Cond.before (Jvm.Cond.methodLink "com/example/senret/senret/LineFieldsRequireNonEmptyPinLaw" (15 : Nat) ({ cls := "java/lang/String", name := "valueOf", desc := "(C)Ljava/lang/String;" } : Jvm.MethodName)) a0 Z = true := hw _ (List.mem_of_getElem? (i := 53) rfl)
theorem w_54 {a0 : Array Value} {Z : State} (hw : ∀ d ∈ tables_1, d.before a0 Z = true) : Jvm.Cond.before (Jvm.Cond.static ({ cls := "java/lang/String", name := "valueOf", desc := "(C)Ljava/lang/String;" } : Jvm.MethodName)) a0 Z = true := hw _ (List.mem_of_getElem? (i := 54) rfl)
theorem d7_0 : decode prog_9_method_7_code 0 = .ok (.aload_n 0, 1) := by decide +kernel
theorem d7_1 : decode prog_9_method_7_code 1 = .ok (.invokevirtual 86, 3) := by decide +kernel
theorem d8_0 : decode jdk_42_method_55_code 0 = .ok (.aload_n 0, 1) := by decide +kernel
theorem d8_1 : decode jdk_42_method_55_code 1 = .ok (.getfield 9, 3) := by decide +kernel
theorem d8_4 : decode jdk_42_method_55_code 4 = .ok (.arraylength, 1) := by decide +kernel
theorem d8_5 : decode jdk_42_method_55_code 5 = .ok (.ifCond .ne 7, 3) := by decide +kernel
theorem d8_12 : decode jdk_42_method_55_code 12 = .ok (.iconst 0, 1) := by decide +kernel
theorem d8_13 : decode jdk_42_method_55_code 13 = .ok (.ireturn, 1) := by decide +kernel
theorem ef_26f21a (a1 : Addr) (m : MethodId) : entryFrame m #[(.ref a1)] 1 = mkF m 0 #[.val (.ref a1)] [] := by first | (simp [entryFrame, mkF, argsToLocals, Value.category]; done) | rfl
abbrev y_15 : MethodName := ⟨"java/lang/String", "isEmpty", "()Z"⟩
-- java/lang/String.isEmpty()Z
abbrev Rm19 : Room := { frames := 0, cells := 0, slots := 0, locals := 0 }
def Q19 (Z : State) (a1 : Addr) (a2 : Addr) (u4 : List Value) (k5 : ClassId) (p6 : Int32) (h0 : Heap) (n0 : Nat) (v : Option Value) (h : Heap) (L : List Loc) : Prop := v = some (.int 0) ∧ Fr n0 L ∧ h = h0
-- ef_26f21a
theorem rm19 (l : Launch) (Z : State) (a0 : Array Value) (hw : ∀ d ∈ tables_1, d.before a0 Z = true) (ws : List Jvm.Cond) (a1 : Addr) (a2 : Addr) (u4 : List Value) (k5 : ClassId) (p6 : Int32) (h0 : Heap) (n0 : Nat) (Z0 : n0 ≤ h0.size) (F_value_a1 : Fld Z h0 a1 "java/lang/String" "value" "[B" (.ref a2)) (V_a2 : Arv Z h0 a2 k5 .byte p6 u4 (.int 0)) (c8 : ¬ (p6 = (0 : Int32))) :
    OwnMet l Z y_15 jdk_42_method_55_code 1 (some .boolean) ws Rm19 #[(.ref a1)] h0 (Q19 Z a1 a2 u4 k5 p6 h0 n0) := by
  refine own_body (plainFor_of_name pn_1) (ef_26f21a a1) ?_
  intro p e s m below meth c s₁ hx hby hml hown hnm hret hZ X0 e0
  have N0 := Fr.nil n0
  obtain ⟨T3, X3, e3, st3⟩ := getF X0 hx hZ hown (host := "") (Or.inl (w_29 hw)) Via.refl e0 F_value_a1 (g := (mkF m 1 #[.val (.ref a1)] [(.ref a1)])) rfl rfl (hb hby d8_1)
  obtain ⟨cl7, Ar7, q7, S7, M7, Hs7, G7⟩ := id V_a2
  refine ⟨T3, _, _, _, (some (.int 0)), X3, nofun, by decide, by decide, ?_, fun fs hr => ?_⟩
  · rw [e3]
    exact ⟨rfl, N0, rfl⟩
  · refine XS.aloadN X0.here hx rfl (hb hby d8_0) rfl rfl ?_
    refine st3 _ ?_
    refine X3.arraylength hx (by rw [e3]; exact Ar7.1) (State.isArrayOf_alike hZ.alike Ar7.2.1) (g := (mkF m 4 #[.val (.ref a1)] [(.ref a2)])) rfl rfl (hb hby d8_4) _ ?_
    show Steps p.tables e below (T3.setTop (mkF m 5 #[.val (.ref a1)] [(.int cl7.slots.size.toInt32)])) _
    rw [len_of S7 M7]
    refine XS.ifYes X3.here hx rfl (pc0 := 5) (pc' := 12) rfl (hb hby d8_5) rfl ((if0 _ _).trans (feq (c8 : ¬ (p6 = (0 : Int32)))).2) (by decide) (by decide) ?_
    refine XS.iconst X3.here hx rfl (hb hby d8_12) ?_
    exact retN X3 hx (t := .boolean) hret (by simp) (hb hby d8_13) hr
theorem pd_13 : parseMethodDescriptor "()Z" = some ⟨[], some .boolean⟩ := by decide +kernel
theorem w_42 {a0 : Array Value} {Z : State} (hw : ∀ d ∈ tables_1, d.before a0 Z = true) : Jvm.Cond.before (Jvm.Cond.code ({ cls := "java/lang/String", name := "isEmpty", desc := "()Z" } : Jvm.MethodName) jdk_42_method_55_code (1 : Nat) (Option.some Jvm.ClassFile.FieldType.boolean)) a0 Z = true := hw _ (List.mem_of_getElem? (i := 42) rfl)
theorem w_38 {a0 : Array Value} {Z : State} (hw : ∀ d ∈ tables_1, d.before a0 Z = true) : Jvm.Cond.before (Jvm.Cond.methodLink "com/example/senret/senret/LineFields" (86 : Nat) ({ cls := "java/lang/String", name := "isEmpty", desc := "()Z" } : Jvm.MethodName)) a0 Z = true := hw _ (List.mem_of_getElem? (i := 38) rfl)
theorem w_41 {a0 : Array Value} {Z : State} (hw : ∀ d ∈ tables_1, d.before a0 Z = true) : Jvm.Cond.before (Jvm.Cond.selects "java/lang/String" ({ cls := "java/lang/String", name := "isEmpty", desc := "()Z" } : Jvm.MethodName) ({ cls := "java/lang/String", name := "isEmpty", desc := "()Z" } : Jvm.MethodName)) a0 Z = true := hw _ (List.mem_of_getElem? (i := 41) rfl)
theorem w_39 {a0 : Array Value} {Z : State} (hw : ∀ d ∈ tables_1, d.before a0 Z = true) : Jvm.Cond.before (Jvm.Cond.declares ({ cls := "java/lang/String", name := "isEmpty", desc := "()Z" } : Jvm.MethodName)) a0 Z = true := hw _ (List.mem_of_getElem? (i := 39) rfl)
theorem w_40 {a0 : Array Value} {Z : State} (hw : ∀ d ∈ tables_1, d.before a0 Z = true) : Jvm.Cond.before (Jvm.Cond.instanceMethod ({ cls := "java/lang/String", name := "isEmpty", desc := "()Z" } : Jvm.MethodName)) a0 Z = true := hw _ (List.mem_of_getElem? (i := 40) rfl)
theorem d7_4 : decode prog_9_method_7_code 4 = .ok (.ifCond .eq 17, 3) := by decide +kernel
theorem d7_21 : decode prog_9_method_7_code 21 = .ok (.aload_n 0, 1) := by decide +kernel
theorem d7_22 : decode prog_9_method_7_code 22 = .ok (.areturn, 1) := by decide +kernel
abbrev y_16 : MethodName := ⟨"com/example/senret/senret/LineFields", "requireNonEmpty", "(Ljava/lang/String;Ljava/lang/String;)Ljava/lang/String;"⟩
theorem pn_3 : plainName "com/example/senret/senret/LineFields" = true := by first | (simp [plainName, overriddenIn]; done) | decide +kernel
-- com/example/senret/senret/LineFields.requireNonEmpty(Ljava/lang/String;Ljava/lang/String;)Ljava/lang/String;
abbrev Rm20 : Room := { frames := 1, cells := 0, slots := 0, locals := 12 }
def Q20 (Z : State) (a1 : Addr) (a2 : Addr) (a3 : Addr) (u4 : List Value) (k5 : ClassId) (p6 : Int32) (h0 : Heap) (n0 : Nat) (v : Option Value) (h : Heap) (L : List Loc) : Prop := v = some (.ref a1) ∧ Fr n0 L ∧ h = h0
-- ef_463e93
theorem rm20 (l : Launch) (Z : State) (a0 : Array Value) (hw : ∀ d ∈ tables_1, d.before a0 Z = true) (ws : List Jvm.Cond) (a1 : Addr) (a2 : Addr) (a3 : Addr) (u4 : List Value) (k5 : ClassId) (p6 : Int32) (h0 : Heap) (n0 : Nat) (Z0 : n0 ≤ h0.size) (E_a1 : Exa Z h0 a1 "java/lang/String") (F_value_a1 : Fld Z h0 a1 "java/lang/String" "value" "[B" (.ref a3)) (V_a3 : Arv Z h0 a3 k5 .byte p6 u4 (.int 0)) (c7 : ¬ (p6 = (0 : Int32))) :
    OwnMet l Z y_16 prog_9_method_7_code 2 (some (.object "java/lang/String")) ws Rm20 #[(.ref a1), (.ref a2)] h0 (Q20 Z a1 a2 a3 u4 k5 p6 h0 n0) := by
  refine own_body (plainFor_of_name pn_3) (ef_463e93 a1 a2) ?_
  intro p e s m below meth c s₁ hx hby hml hown hnm hret hZ X0 e0
  have N0 := Fr.nil n0
  obtain ⟨_, T8, L8, X8, hQ8, st8⟩ := own_virtual X0 hx hZ hown (y := y_15) (z := y_15) E_a1 (w_38 hw) (w_39 hw) (notFace_of_selects (args := #[]) (mvT hZ (w_41 hw))) (w_41 hw) (w_40 hw) (w_3 hw) (w_42 hw) (rm19 l Z a0 hw [] a1 a3 u4 k5 p6 h0 n0 Z0 F_value_a1 V_a3 c7) e0 (Ls := #[.val (.ref a1), .val (.ref a2)]) (by rw [hml]; rfl) (argsL := []) (rest := []) (lenOf pd_13 rfl) (hb hby d7_1) (W := 0)
  obtain ⟨rfl, Nq8, e8⟩ := hQ8
  have N8 := Fr.app N0 Nq8
  refine ⟨T8, _, _, _, (some (.ref a1)), X8, nofun, by decide, by decide, ?_, fun fs hr => ?_⟩
  · rw [e8]
    exact ⟨rfl, N8, rfl⟩
  · refine XS.aloadN X0.here hx rfl (hb hby d7_0) rfl rfl ?_
    refine st8 _ ?_
    refine XS.ifYes X8.here hx rfl (pc0 := 4) (pc' := 21) rfl (hb hby d7_4) rfl ((if0 _ _).trans (teq ((by decide : (0 : Int32) = (0 : Int32)) : (0 : Int32) = (0 : Int32))).1) (by decide) (by decide) ?_
    refine XS.aloadN X8.here hx rfl (hb hby d7_21) rfl rfl ?_
    exact retOut X8 hx hret rfl (Or.inr (Or.inr (Or.inr (Or.inr ⟨rfl, rfl, rfl⟩)))) (hb hby d7_22) hr
theorem pd_14 : parseMethodDescriptor "(Ljava/lang/String;Ljava/lang/String;)Ljava/lang/String;" = some ⟨[(.object "java/lang/String"), (.object "java/lang/String")], some (.object "java/lang/String")⟩ := by decide +kernel
theorem w_36 {a0 : Array Value} {Z : State} (hw : ∀ d ∈ tables_1, d.before a0 Z = true) : Jvm.Cond.before (Jvm.Cond.initialized "com/example/senret/senret/LineFields") a0 Z = true := hw _ (List.mem_of_getElem? (i := 36) rfl)
theorem w_37 {a0 : Array Value} {Z : State} (hw : ∀ d ∈ tables_1, d.before a0 Z = true) : Jvm.Cond.before (Jvm.Cond.code ({ cls := "com/example/senret/senret/LineFields", name := "requireNonEmpty", desc := "(Ljava/lang/String;Ljava/lang/String;)Ljava/lang/String;" } : Jvm.MethodName) prog_9_method_7_code (2 : Nat) (Option.some (Jvm.ClassFile.FieldType.object "java/lang/String"))) a0 Z = true := hw _ (List.mem_of_getElem? (i := 37) rfl)
theorem w_34 {a0 : Array Value} {Z : State} (hw : ∀ d ∈ tables_1, d.before a0 Z = true) : Jvm.Cond.before (Jvm.Cond.methodLink "com/example/senret/senret/LineFieldsRequireNonEmptyPinLaw" (19 : Nat) ({ cls := "com/example/senret/senret/LineFields", name := "requireNonEmpty", desc := "(Ljava/lang/String;Ljava/lang/String;)Ljava/lang/String;" } : Jvm.MethodName)) a0 Z = true := hw _ (List.mem_of_getElem? (i := 34) rfl)
theorem w_35 {a0 : Array Value} {Z : State} (hw : ∀ d ∈ tables_1, d.before a0 Z = true) : Jvm.Cond.before (Jvm.Cond.static ({ cls := "com/example/senret/senret/LineFields", name := "requireNonEmpty", desc := "(Ljava/lang/String;Ljava/lang/String;)Ljava/lang/String;" } : Jvm.MethodName)) a0 Z = true := hw _ (List.mem_of_getElem? (i := 35) rfl)
theorem d9_0 : decode jdk_42_method_54_code 0 = .ok (.aload_n 0, 1) := by decide +kernel
theorem d9_1 : decode jdk_42_method_54_code 1 = .ok (.getfield 9, 3) := by decide +kernel
theorem d9_4 : decode jdk_42_method_54_code 4 = .ok (.arraylength, 1) := by decide +kernel
theorem d9_5 : decode jdk_42_method_54_code 5 = .ok (.aload_n 0, 1) := by decide +kernel
theorem d9_6 : decode jdk_42_method_54_code 6 = .ok (.invokevirtual 335, 3) := by decide +kernel
theorem d10_0 : decode jdk_42_method_152_code 0 = .ok (.getstatic 38, 3) := by decide +kernel
theorem d10_3 : decode jdk_42_method_152_code 3 = .ok (.ifCond .eq 10, 3) := by decide +kernel
theorem d10_6 : decode jdk_42_method_152_code 6 = .ok (.aload_n 0, 1) := by decide +kernel
theorem d10_7 : decode jdk_42_method_152_code 7 = .ok (.getfield 15, 3) := by decide +kernel
theorem d10_10 : decode jdk_42_method_152_code 10 = .ok (.goto 4, 3) := by decide +kernel
theorem d10_14 : decode jdk_42_method_152_code 14 = .ok (.ireturn, 1) := by decide +kernel
abbrev y_17 : MethodName := ⟨"java/lang/String", "coder", "()B"⟩
-- java/lang/String.coder()B
abbrev Rm21 : Room := { frames := 0, cells := 0, slots := 0, locals := 0 }
def Q21 (Z : State) (a1 : Addr) (p2 : Int32) (p5 : Int32) (h0 : Heap) (n0 : Nat) (v : Option Value) (h : Heap) (L : List Loc) : Prop := v = some (.int (nar .byte p5)) ∧ Fr n0 L ∧ h = h0
-- ef_26f21a
theorem rm21 (l : Launch) (Z : State) (a0 : Array Value) (hw : ∀ d ∈ tables_1, d.before a0 Z = true) (ws : List Jvm.Cond) (a1 : Addr) (p2 : Int32) (p5 : Int32) (h0 : Heap) (n0 : Nat) (Z0 : n0 ≤ h0.size) (S_COMPACT_STRINGS : Sta Z Z.heap "java/lang/String" "COMPACT_STRINGS" "Z" (.int p2)) (Od0 : Old Z n0 h0) (c4 : ¬ (p2 = (0 : Int32))) (F_coder_a1 : Fld Z h0 a1 "java/lang/String" "coder" "B" (.int p5)) :
    OwnMet l Z y_17 jdk_42_method_152_code 1 (some .byte) ws Rm21 #[(.ref a1)] h0 (Q21 Z a1 p2 p5 h0 n0) := by
  refine own_body (plainFor_of_name pn_1) (ef_26f21a a1) ?_
  intro p e s m below meth c s₁ hx hby hml hown hnm hret hZ X0 e0
  have N0 := Fr.nil n0
  obtain ⟨T3, X3, e3, st3⟩ := getS2 X0 hx hZ hown (host := "") (Or.inl (w_15 hw)) Via.refl e0 (S_COMPACT_STRINGS.ext Od0.2) (g := (mkF m 0 #[.val (.ref a1)] [])) rfl (hb hby d10_0)
  obtain ⟨T6, X6, e6, st6⟩ := getF X3 hx hZ hown (host := "") (Or.inl (w_27 hw)) Via.refl e3 F_coder_a1 (g := (mkF m 7 #[.val (.ref a1)] [(.ref a1)])) rfl rfl (hb hby d10_7)
  refine ⟨T6, _, _, _, (some (.int (nar .byte p5))), X6, nofun, by decide, by decide, ?_, fun fs hr => ?_⟩
  · rw [e6]
    exact ⟨rfl, N0, rfl⟩
  · refine st3 _ ?_
    refine XS.ifNo X3.here hx rfl (hb hby d10_3) rfl ((if0 _ _).trans (feq (c4 : ¬ (p2 = (0 : Int32)))).1) ?_
    refine XS.aloadN X3.here hx rfl (hb hby d10_6) rfl rfl ?_
    refine st6 _ ?_
    refine XS.goto X6.here hx rfl (pc0 := 10) (pc' := 14) rfl (hb hby d10_10) (by decide) (by decide) ?_
    exact retN X6 hx (t := .byte) hret (by simp) (hb hby d10_14) hr
theorem pd_15 : parseMethodDescriptor "()B" = some ⟨[], some .byte⟩ := by decide +kernel
theorem w_52 {a0 : Array Value} {Z : State} (hw : ∀ d ∈ tables_1, d.before a0 Z = true) : Jvm.Cond.before (Jvm.Cond.code ({ cls := "java/lang/String", name := "coder", desc := "()B" } : Jvm.MethodName) jdk_42_method_152_code (1 : Nat) (Option.some Jvm.ClassFile.FieldType.byte)) a0 Z = true := hw _ (List.mem_of_getElem? (i := 52) rfl)
theorem w_48 {a0 : Array Value} {Z : State} (hw : ∀ d ∈ tables_1, d.before a0 Z = true) : Jvm.Cond.before (Jvm.Cond.methodLink "java/lang/String" (335 : Nat) ({ cls := "java/lang/String", name := "coder", desc := "()B" } : Jvm.MethodName)) a0 Z = true := hw _ (List.mem_of_getElem? (i := 48) rfl)
theorem w_51 {a0 : Array Value} {Z : State} (hw : ∀ d ∈ tables_1, d.before a0 Z = true) : Jvm.Cond.before (Jvm.Cond.selects "java/lang/String" ({ cls := "java/lang/String", name := "coder", desc := "()B" } : Jvm.MethodName) ({ cls := "java/lang/String", name := "coder", desc := "()B" } : Jvm.MethodName)) a0 Z = true := hw _ (List.mem_of_getElem? (i := 51) rfl)
theorem w_49 {a0 : Array Value} {Z : State} (hw : ∀ d ∈ tables_1, d.before a0 Z = true) : Jvm.Cond.before (Jvm.Cond.declares ({ cls := "java/lang/String", name := "coder", desc := "()B" } : Jvm.MethodName)) a0 Z = true := hw _ (List.mem_of_getElem? (i := 49) rfl)
theorem w_50 {a0 : Array Value} {Z : State} (hw : ∀ d ∈ tables_1, d.before a0 Z = true) : Jvm.Cond.before (Jvm.Cond.instanceMethod ({ cls := "java/lang/String", name := "coder", desc := "()B" } : Jvm.MethodName)) a0 Z = true := hw _ (List.mem_of_getElem? (i := 50) rfl)
theorem d9_9 : decode jdk_42_method_54_code 9 = .ok (.ishr, 1) := by decide +kernel
theorem d9_10 : decode jdk_42_method_54_code 10 = .ok (.ireturn, 1) := by decide +kernel
abbrev y_18 : MethodName := ⟨"java/lang/String", "length", "()I"⟩
-- java/lang/String.length()I
abbrev Rm22 : Room := { frames := 1, cells := 0, slots := 0, locals := 13 }
def Q22 (Z : State) (a1 : Addr) (a2 : Addr) (u4 : List Value) (k5 : ClassId) (p6 : Int32) (p8 : Int32) (p10 : Int32) (h0 : Heap) (n0 : Nat) (v : Option Value) (h : Heap) (L : List Loc) : Prop := v = some (.int (p6 >>> ((nar .byte p10) &&& 31))) ∧ Fr n0 L ∧ h = h0
-- ef_26f21a
theorem rm22 (l : Launch) (Z : State) (a0 : Array Value) (hw : ∀ d ∈ tables_1, d.before a0 Z = true) (ws : List Jvm.Cond) (a1 : Addr) (a2 : Addr) (u4 : List Value) (k5 : ClassId) (p6 : Int32) (p8 : Int32) (p10 : Int32) (h0 : Heap) (n0 : Nat) (Z0 : n0 ≤ h0.size) (F_value_a1 : Fld Z h0 a1 "java/lang/String" "value" "[B" (.ref a2)) (V_a2 : Arv Z h0 a2 k5 .byte p6 u4 (.int 0)) (E_a1 : Exa Z h0 a1 "java/lang/String") (S_COMPACT_STRINGS : Sta Z Z.heap "java/lang/String" "COMPACT_STRINGS" "Z" (.int p8)) (Od0 : Old Z n0 h0) (c9 : ¬ (p8 = (0 : Int32))) (F_coder_a1 : Fld Z h0 a1 "java/lang/String" "coder" "B" (.int p10)) :
    OwnMet l Z y_18 jdk_42_method_54_code 1 (some .int) ws Rm22 #[(.ref a1)] h0 (Q22 Z a1 a2 u4 k5 p6 p8 p10 h0 n0) := by
  refine own_body (plainFor_of_name pn_1) (ef_26f21a a1) ?_
  intro p e s m below meth c s₁ hx hby hml hown hnm hret hZ X0 e0
  have N0 := Fr.nil n0
  obtain ⟨T3, X3, e3, st3⟩ := getF X0 hx hZ hown (host := "") (Or.inl (w_29 hw)) Via.refl e0 F_value_a1 (g := (mkF m 1 #[.val (.ref a1)] [(.ref a1)])) rfl rfl (hb hby d9_1)
  obtain ⟨cl7, Ar7, q7, S7, M7, Hs7, G7⟩ := id V_a2
  obtain ⟨_, T11, L11, X11, hQ11, st11⟩ := own_virtual X3 hx hZ hown (y := y_17) (z := y_17) E_a1 (w_48 hw) (w_49 hw) (notFace_of_selects (args := #[]) (mvT hZ (w_51 hw))) (w_51 hw) (w_50 hw) (w_3 hw) (w_52 hw) (rm21 l Z a0 hw [] a1 p8 p10 h0 n0 Z0 S_COMPACT_STRINGS Od0 c9 F_coder_a1) e3 (Ls := #[.val (.ref a1)]) (by rw [hml]; rfl) (argsL := []) (rest := [(.int p6)]) (lenOf pd_15 rfl) (hb hby d9_6) (W := 1)
  obtain ⟨rfl, Nq11, e11⟩ := hQ11
  have N11 := Fr.app N0 Nq11
  refine ⟨T11, _, _, _, (some (.int (p6 >>> ((nar .byte p10) &&& 31)))), X11, nofun, by decide, by decide, ?_, fun fs hr => ?_⟩
  · rw [e11]
    exact ⟨rfl, N11, rfl⟩
  · refine XS.aloadN X0.here hx rfl (hb hby d9_0) rfl rfl ?_
    refine st3 _ ?_
    refine X3.arraylength hx (by rw [e3]; exact Ar7.1) (State.isArrayOf_alike hZ.alike Ar7.2.1) (g := (mkF m 4 #[.val (.ref a1)] [(.ref a2)])) rfl rfl (hb hby d9_4) _ ?_
    show Steps p.tables e below (T3.setTop (mkF m 5 #[.val (.ref a1)] [(.int cl7.slots.size.toInt32)])) _
    rw [len_of S7 M7]
    refine XS.aloadN X3.here hx rfl (hb hby d9_5) rfl rfl ?_
    refine st11 _ ?_
    refine XS.ishr X11.here hx rfl (hb hby d9_9) rfl ?_
    exact retI X11 hx hret (hb hby d9_10) hr
theorem pd_16 : parseMethodDescriptor "()I" = some ⟨[], some .int⟩ := by decide +kernel
theorem w_47 {a0 : Array Value} {Z : State} (hw : ∀ d ∈ tables_1, d.before a0 Z = true) : Jvm.Cond.before (Jvm.Cond.code ({ cls := "java/lang/String", name := "length", desc := "()I" } : Jvm.MethodName) jdk_42_method_54_code (1 : Nat) (Option.some Jvm.ClassFile.FieldType.int)) a0 Z = true := hw _ (List.mem_of_getElem? (i := 47) rfl)
theorem w_43 {a0 : Array Value} {Z : State} (hw : ∀ d ∈ tables_1, d.before a0 Z = true) : Jvm.Cond.before (Jvm.Cond.methodLink "com/example/senret/senret/LineFieldsRequireNonEmptyPinLaw" (25 : Nat) ({ cls := "java/lang/String", name := "length", desc := "()I" } : Jvm.MethodName)) a0 Z = true := hw _ (List.mem_of_getElem? (i := 43) rfl)
theorem w_46 {a0 : Array Value} {Z : State} (hw : ∀ d ∈ tables_1, d.before a0 Z = true) : Jvm.Cond.before (Jvm.Cond.selects "java/lang/String" ({ cls := "java/lang/String", name := "length", desc := "()I" } : Jvm.MethodName) ({ cls := "java/lang/String", name := "length", desc := "()I" } : Jvm.MethodName)) a0 Z = true := hw _ (List.mem_of_getElem? (i := 46) rfl)
theorem w_44 {a0 : Array Value} {Z : State} (hw : ∀ d ∈ tables_1, d.before a0 Z = true) : Jvm.Cond.before (Jvm.Cond.declares ({ cls := "java/lang/String", name := "length", desc := "()I" } : Jvm.MethodName)) a0 Z = true := hw _ (List.mem_of_getElem? (i := 44) rfl)
theorem w_45 {a0 : Array Value} {Z : State} (hw : ∀ d ∈ tables_1, d.before a0 Z = true) : Jvm.Cond.before (Jvm.Cond.instanceMethod ({ cls := "java/lang/String", name := "length", desc := "()I" } : Jvm.MethodName)) a0 Z = true := hw _ (List.mem_of_getElem? (i := 45) rfl)
theorem ef0 (p1 : Int32) (p2 : Int32) (p3 : Int32) (p4 : Int32) (p5 : Int32) (p6 : Int32) (m : MethodId) : entryFrame m #[(.int p1), (.int p2), (.int p3), (.int p4), (.int p5), (.int p6)] maxLocals = mkF m 0 #[.val (.int p1), .val (.int p2), .val (.int p3), .val (.int p4), .val (.int p5), .val (.int p6), .unset, .unset, .unset, .unset, .unset, .unset, .unset, .unset] [] := by first | (simp [entryFrame, mkF, argsToLocals, Value.category, maxLocals]; done) | rfl
theorem pn_4 : plainName "com/example/senret/senret/LineFieldsRequireNonEmptyPinLaw" = true := by first | (simp [plainName, overriddenIn]; done) | decide +kernel
theorem rm0_0 (l : Launch) (Z : State) (a0 : Array Value) (hw : ∀ d ∈ tables_1, d.before a0 Z = true) (ws : List Jvm.Cond) (p1 : Int32) (p2 : Int32) (p3 : Int32) (p4 : Int32) (p5 : Int32) (p6 : Int32) (sr1 : Value) (si2 : Int32) (h0 : Heap) (n0 : Nat) (Z0 : n0 ≤ h0.size) (Od0 : Old Z n0 h0) (R_sr1 : sr1.isRef = true) (nc6 : ¬ (si2 = (0 : Int32))) (S7_SIOOBE_FORMATTER : Sta Z Z.heap "jdk/internal/util/Preconditions" "SIOOBE_FORMATTER" "Ljava/util/function/BiFunction;" sr1) (S8_COMPACT_STRINGS : Sta Z Z.heap "java/lang/String" "COMPACT_STRINGS" "Z" (.int si2)) (S9__assertionsDisabled : Sta Z Z.heap "java/lang/StringUTF16" "$assertionsDisabled" "Z" (.int 1)) (S10_HI_BYTE_SHIFT : Sta Z Z.heap "java/lang/StringUTF16" "HI_BYTE_SHIFT" "I" (.int 0)) (S11_LO_BYTE_SHIFT : Sta Z Z.heap "java/lang/StringUTF16" "LO_BYTE_SHIFT" "I" (.int 8)) (hk : (p1 &&& (3 : Int32)) = (0 : Int32)) (cc1 : (p6 &&& (1 : Int32)) = (0 : Int32)) :
    OwnMet l Z x code maxLocals ret ws room_1 #[(.int p1), (.int p2), (.int p3), (.int p4), (.int p5), (.int p6)] h0 (Q0 n0) := by
  refine own_body (plainFor_of_name pn_4) (ef0 p1 p2 p3 p4 p5 p6) ?_
  intro p e s m below meth c s₁ hx hby hml hown hnm hret hZ X0 e0
  have N0 := Fr.nil n0
  obtain ⟨x1, ex1⟩ : ∃ z, z = ((p2 &&& (65535 : Int32)).toUInt32.toUInt16.toUInt32.toInt32) := ⟨_, rfl⟩
  obtain ⟨x2, ex2⟩ : ∃ z, z = ((p3 &&& (65535 : Int32)).toUInt32.toUInt16.toUInt32.toInt32) := ⟨_, rfl⟩
  obtain ⟨x3, ex3⟩ : ∃ z, z = ((p4 &&& (65535 : Int32)).toUInt32.toUInt16.toUInt32.toInt32) := ⟨_, rfl⟩
  obtain ⟨x4, ex4⟩ : ∃ z, z = ((p5 &&& (65535 : Int32)).toUInt32.toUInt16.toUInt32.toInt32) := ⟨_, rfl⟩
  obtain ⟨T5, h5, X5, e5, E5, A5, D5, -, st5⟩ := newO X0 hx hZ hown (w_1 hw) (w_2 hw) (w_3 hw) e0 (g := (mkF m 42 #[.val (.int p1), .val (.int p2), .val (.int p3), .val (.int p4), .val (.int p5), .val (.int p6), .val (.int x1), .val (.int x2), .val (.int x3), .val (.int x4), .val (.int 1), .unset, .unset, .unset] [])) rfl (hb hby at_42) (by decide) (by decide)
  obtain ⟨b5, g5⟩ : ∃ z, z = h0.size := ⟨_, rfl⟩
  rw [← g5] at A5 D5 st5
  have s0 := E5.1
  have Fn5_coder : Fld Z h5 b5 "java/lang/String" "coder" "B" (.int 0) := D5 (Or.inr (w_28 hw)) (ty := .byte) (by decide)
  have Fn5_value : Fld Z h5 b5 "java/lang/String" "value" "[B" .null := D5 (Or.inr (w_30 hw)) (ty := (.array .byte)) (by decide)
  obtain ⟨T6, h6, k6, X6, e6, E6, A6, B6, st6⟩ := newPE (aty := .char) X5 hx hZ (w_4 hw) e5 (g := (mkF m 47 #[.val (.int p1), .val (.int p2), .val (.int p3), .val (.int p4), .val (.int p5), .val (.int p6), .val (.int x1), .val (.int x2), .val (.int x3), .val (.int x4), .val (.int 1), .unset, .unset, .unset] [(.int 1), (.ref b5), (.ref b5)])) rfl (hb hby at_47) rfl (by decide) (cap := 1) (by decide) (by decide) (by decide) (by decide) (ad := "[C") (by decide)
  obtain ⟨b6, g6⟩ : ∃ z, z = h5.size := ⟨_, rfl⟩
  rw [← g6] at A6 B6 st6
  have s1 := E6.1
  have Vn6 : Arv Z h6 b6 k6 .char (1 : Int32) [(.int 0)] (.int 0) := (Arv.new A6 (by decide)).pad (pad_rep [] (.int 0) 1)
  obtain ⟨cl7, Ar7, q7, S7, M7, Hs7, G7⟩ := id Vn6
  have hin8 : ¬ ((0 : Int32) < 0 ∨ cl7.slots.size ≤ ((0 : Int32)).toNatClampNeg) := inb_of S7 ⟨(by decide : ¬ ((0 : Int32) < (0 : Int32))), (by decide : (0 : Int32) < (1 : Int32))⟩
  obtain ⟨T9, h9, X9, e9, W9, st9⟩ := stC X6 hx hZ e6 Ar7 (j := (0 : Int32)) hin8 (g := (mkF m 53 #[.val (.int p1), .val (.int p2), .val (.int p3), .val (.int p4), .val (.int p5), .val (.int p6), .val (.int x1), .val (.int x2), .val (.int x3), .val (.int x4), .val (.int 1), .unset, .unset, .unset] [(.int x1), (.int 0), (.ref b6), (.ref b6), (.ref b5), (.ref b5)])) rfl rfl (hb hby at_53)
  have s2 := (Keep.of_wr W9).1
  have z1 := Nat.le_trans Z0 s0
  have g_b6 : n0 ≤ b6 := Nat.le_trans z1 (Nat.le_of_eq g6.symm)
  have N9 := Fr.snoc X9 N0 g_b6
  have Vs9 : Arv Z h9 b6 k6 .char (1 : Int32) [(.int (nar .char x1))] (.int 0) := Arv.set Ar7 q7 S7 M7 Hs7 G7 (fits_nar_char _) W9 0 rfl (Nat.le_of_ble_eq_true rfl)
  have Od1 : Old Z n0 h5 := Od0.ext E5
  have Od2 : Old Z n0 h6 := Od1.ext E6
  have Od3 : Old Z n0 h9 := Od2.wr W9 g_b6
  have cd10 : ¬ ((nar .char ((p2 &&& (65535 : Int32)).toUInt32.toUInt16.toUInt32.toInt32)) < (0 : Int32)) := (by rw [Int32.lt_iff_toInt_lt]; have := rng32 (nar .char ((p2 &&& (65535 : Int32)).toUInt32.toUInt16.toUInt32.toInt32)); have := rng32 ((p2 &&& (65535 : Int32)).toUInt32.toUInt16.toUInt32.toInt32); have := rng32 (p2 &&& (65535 : Int32)); have := rng32 p2; have := own_mask p2 (65535 : Int32) 16 (by decide) (by decide) 65536 (by decide); have := c_i2c (p2 &&& (65535 : Int32)); have := own_c_nar_char ((p2 &&& (65535 : Int32)).toUInt32.toUInt16.toUInt32.toInt32); have : ((0 : Int32)).toInt = 0 := (by decide); omega)
  have cd11 : ¬ ((65535 : Int32) < (nar .char ((p2 &&& (65535 : Int32)).toUInt32.toUInt16.toUInt32.toInt32))) := (by rw [Int32.lt_iff_toInt_lt]; have : ((65535 : Int32)).toInt = 65535 := (by decide); have := rng32 (nar .char ((p2 &&& (65535 : Int32)).toUInt32.toUInt16.toUInt32.toInt32)); have := rng32 ((p2 &&& (65535 : Int32)).toUInt32.toUInt16.toUInt32.toInt32); have := rng32 (p2 &&& (65535 : Int32)); have := rng32 p2; have := own_mask p2 (65535 : Int32) 16 (by decide) (by decide) 65536 (by decide); have := c_i2c (p2 &&& (65535 : Int32)); have := own_c_nar_char ((p2 &&& (65535 : Int32)).toUInt32.toUInt16.toUInt32.toInt32); omega)
  have ne_b5_b6 := Nat.ne_of_lt (Nat.lt_of_lt_of_le Fn5_value.lt (Nat.le_of_eq g6.symm))
  have Fl12 := ((Fn5_coder.ext E6).other W9 (Or.inl ne_b5_b6))
  have Ex13 := ((A5.ext E6).wr W9)
  have g_b5 : n0 ≤ b5 := Nat.le_trans Z0 (Nat.le_of_eq g5.symm)
  have Fl14 := ((Fn5_value.ext E6).other W9 (Or.inl ne_b5_b6))
  have z3 := Nat.le_trans Z0 (Nat.le_trans (Nat.le_trans s0 s1) s2)
  obtain ⟨_, T15, L15, X15, hQ15, st15⟩ := own_special X9 hx hZ hown (y := y_9) (a := b5) (w_5 hw) (w_6 hw) (w_3 hw) (w_7 hw) (rm11 l Z a0 hw [] b5 b6 (nar .char x1) k6 si2 h9 n0 z3 Vs9 S8_COMPACT_STRINGS Od3 nc6 S9__assertionsDisabled S10_HI_BYTE_SHIFT S11_LO_BYTE_SHIFT (by rw [ex1]; exact cd10) (by rw [ex1]; exact cd11) Fl12 Ex13 g_b5 Fl14) e9 (Ls := #[.val (.int p1), .val (.int p2), .val (.int p3), .val (.int p4), .val (.int p5), .val (.int p6), .val (.int x1), .val (.int x2), .val (.int x3), .val (.int x4), .val (.int 1), .unset, .unset, .unset]) (by rw [hml]; rfl) (argsL := [(.ref b6)]) (rest := [(.ref b5)]) (lenOf pd_8 rfl) (hb hby at_54) (W := 1)
  obtain ⟨b15_b10_b11_m0, k15_k10_k11_kk1, u15_u10_u11_uu2, rfl, Nq15, K15, o15_0, o15_1, o15_2, o15_3, o15_4, o15_5⟩ := hQ15
  have N15 := Fr.app N9 Nq15
  have s3 := K15.1
  obtain ⟨x16, ex16⟩ : ∃ z, z = (if (255 : Int32) < (nar .char x1) then (2 : Int32) else (1 : Int32)) := ⟨_, rfl⟩
  have o15_5' : Arv Z T15.heap b15_b10_b11_m0 k15_k10_k11_kk1 .byte x16 u15_u10_u11_uu2 (.int 0) := by rw [ex16]; exact o15_5
  obtain ⟨x17, ex17⟩ : ∃ z, z = ((p6.toUInt32 >>> ((1 : Int32) &&& 31).toUInt32).toInt32) := ⟨_, rfl⟩
  obtain ⟨x18, ex18⟩ : ∃ z, z = (x17 &&& (65535 : Int32)) := ⟨_, rfl⟩
  obtain ⟨x19, ex19⟩ : ∃ z, z = (x18.toUInt32.toUInt16.toUInt32.toInt32) := ⟨_, rfl⟩
  have Od4 : Old Z n0 T15.heap := Od3.keep K15 (allS g_b5 all0)
  have z4 := Nat.le_trans Z0 (Nat.le_trans (Nat.le_trans (Nat.le_trans s0 s1) s2) s3)
  obtain ⟨_, T20, L20, X20, hQ20, st20⟩ := own_callS X15 hx hZ hown (y := y_14) (w_53 hw) (w_54 hw) (w_3 hw) (w_55 hw) (rm18 l Z a0 hw [] x19 si2 T15.heap n0 z4 S8_COMPACT_STRINGS Od4 nc6 S9__assertionsDisabled S10_HI_BYTE_SHIFT S11_LO_BYTE_SHIFT) rfl (Ls := #[.val (.int p1), .val (.int p2), .val (.int p3), .val (.int p4), .val (.int p5), .val (.int p6), .val (.int x1), .val (.int x2), .val (.int x3), .val (.int x4), .val (.int 1), .val (.ref b5), .unset, .unset]) (by rw [hml]; rfl) (argsL := [(.int x19)]) (rest := []) (lenOf pd_12 rfl) (hb hby at_183) (W := 0)
  obtain ⟨b20_m0, b20_m1, k20_kk2, u20_uu3, rfl, Nq20, K20, o20_0, o20_1, o20_2, o20_3, o20_4, o20_5, o20_6, o20_7⟩ := hQ20
  have N20 := Fr.app N15 Nq20
  have s4 := K20.1
  obtain ⟨x21, ex21⟩ : ∃ z, z = (if (255 : Int32) < x19 then (1 : Int32) else (0 : Int32)) := ⟨_, rfl⟩
  have o20_2' : Fld Z T20.heap b20_m0 "java/lang/String" "coder" "B" (.int x21) := by rw [ex21]; exact o20_2
  obtain ⟨x22, ex22⟩ : ∃ z, z = (if (255 : Int32) < x19 then (2 : Int32) else (1 : Int32)) := ⟨_, rfl⟩
  have o20_6' : Arv Z T20.heap b20_m1 k20_kk2 .byte x22 u20_uu3 (.int 0) := by rw [ex22]; exact o20_6
  have Ex23 := (o15_0.keep K20)
  have Fl24 := (o15_2.keep K20 nin0)
  have Va25 := (o15_5'.keep K20 nin0)
  have cd26 : ¬ ((if (255 : Int32) < (nar .char ((p2 &&& (65535 : Int32)).toUInt32.toUInt16.toUInt32.toInt32)) then (2 : Int32) else (1 : Int32)) = (0 : Int32)) := (by by_cases hi0 : (255 : Int32) < (nar .char ((p2 &&& (65535 : Int32)).toUInt32.toUInt16.toUInt32.toInt32)); exact (by simp only [if_pos hi0]; decide); exact (by simp only [if_neg hi0]; decide))
  have z5 := Nat.le_trans Z0 (Nat.le_trans (Nat.le_trans (Nat.le_trans (Nat.le_trans s0 s1) s2) s3) s4)
  obtain ⟨_, T27, L27, X27, hQ27, st27⟩ := own_callS X20 hx hZ hown (y := y_16) (w_34 hw) (w_35 hw) (w_36 hw) (w_37 hw) (rm20 l Z a0 hw [] b5 b20_m0 b15_b10_b11_m0 u15_u10_u11_uu2 k15_k10_k11_kk1 x16 T20.heap n0 z5 Ex23 Fl24 Va25 (by rw [ex16, ex1]; exact cd26)) rfl (Ls := #[.val (.int p1), .val (.int p2), .val (.int p3), .val (.int p4), .val (.int p5), .val (.int p6), .val (.int x1), .val (.int x2), .val (.int x3), .val (.int x4), .val (.int 1), .val (.ref b5), .val (.ref b20_m0), .unset]) (by rw [hml]; rfl) (argsL := [(.ref b5), (.ref b20_m0)]) (rest := []) (lenOf pd_14 rfl) (hb hby at_192) (W := 0)
  obtain ⟨rfl, Nq27, e27⟩ := hQ27
  have N27 := Fr.app N20 Nq27
  have Od5 : Old Z n0 T20.heap := Od4.keep K20 all0
  have Fl28 := (o15_1.keep K20 nin0)
  obtain ⟨_, T29, L29, X29, hQ29, st29⟩ := own_virtual X27 hx hZ hown (y := y_18) (z := y_18) Ex23 (w_43 hw) (w_44 hw) (notFace_of_selects (args := #[]) (mvT hZ (w_46 hw))) (w_46 hw) (w_45 hw) (w_3 hw) (w_47 hw) (rm22 l Z a0 hw [] b5 b15_b10_b11_m0 u15_u10_u11_uu2 k15_k10_k11_kk1 x16 si2 (nar .byte (nar .byte (((((1 : Int32) - (if (255 : Int32) < (nar .char x1) then (2 : Int32) else (1 : Int32))).toUInt32 >>> ((31 : Int32) &&& 31).toUInt32).toInt32).toInt8.toInt32))) T20.heap n0 z5 Fl24 Va25 Ex23 S8_COMPACT_STRINGS Od5 nc6 Fl28) e27 (Ls := #[.val (.int p1), .val (.int p2), .val (.int p3), .val (.int p4), .val (.int p5), .val (.int p6), .val (.int x1), .val (.int x2), .val (.int x3), .val (.int x4), .val (.int 1), .val (.ref b5), .val (.ref b20_m0), .val (.ref b5)]) (by rw [hml]; rfl) (argsL := []) (rest := []) (lenOf pd_16 rfl) (hb hby at_206) (W := 0)
  obtain ⟨rfl, Nq29, e29⟩ := hQ29
  have N29 := Fr.app N27 Nq29
  obtain ⟨x30, ex30⟩ : ∃ z, z = (x16 >>> ((nar .byte (nar .byte (nar .byte (((((1 : Int32) - (if (255 : Int32) < (nar .char x1) then (2 : Int32) else (1 : Int32))).toUInt32 >>> ((31 : Int32) &&& 31).toUInt32).toInt32).toInt8.toInt32)))) &&& 31)) := ⟨_, rfl⟩
  have cd31 : ((if (255 : Int32) < (nar .char ((p2 &&& (65535 : Int32)).toUInt32.toUInt16.toUInt32.toInt32)) then (2 : Int32) else (1 : Int32)) >>> ((nar .byte (nar .byte (nar .byte (((((1 : Int32) - (if (255 : Int32) < (nar .char ((p2 &&& (65535 : Int32)).toUInt32.toUInt16.toUInt32.toInt32)) then (2 : Int32) else (1 : Int32))).toUInt32 >>> ((31 : Int32) &&& 31).toUInt32).toInt32).toInt8.toInt32)))) &&& 31)) = (1 : Int32) := (by by_cases hi0 : (255 : Int32) < (nar .char ((p2 &&& (65535 : Int32)).toUInt32.toUInt16.toUInt32.toInt32)); exact (by simp only [if_pos hi0]; decide); exact (by simp only [if_neg hi0]; decide))
  refine ⟨T29, _, _, _, (some (.int 1)), X29, nofun, by decide, by decide, ?_, fun fs hr => ?_⟩
  · show Q0 n0 _ T29.heap _
    rw [e29]
    subst ex30
    subst ex22
    subst ex21
    subst ex19
    subst ex18
    subst ex17
    subst ex16
    subst ex4
    subst ex3
    subst ex2
    subst ex1
    exact ⟨rfl, N29⟩
  · refine XS.iloadN X0.here hx rfl (hb hby at_0) rfl ?_
    refine X0.ldcInt hx hown (mvT hZ (w_0 hw)) (g := (mkF m 1 #[.val (.int p1), .val (.int p2), .val (.int p3), .val (.int p4), .val (.int p5), .val (.int p6), .unset, .unset, .unset, .unset, .unset, .unset, .unset, .unset] [(.int p2)])) rfl (hb hby at_1) _ ?_
    refine XS.iand X0.here hx rfl (hb hby at_3) rfl ?_
    refine XS.i2c X0.here hx rfl (hb hby at_4) rfl ?_
    show Steps p.tables e below (s₁.setTop (mkF m 5 #[.val (.int p1), .val (.int p2), .val (.int p3), .val (.int p4), .val (.int p5), .val (.int p6), .unset, .unset, .unset, .unset, .unset, .unset, .unset, .unset] [(.int ((p2 &&& (65535 : Int32)).toUInt32.toUInt16.toUInt32.toInt32))])) _
    rw [← ex1]
    refine XS.istore X0.here hx rfl (hb hby at_5) rfl (l' := #[.val (.int p1), .val (.int p2), .val (.int p3), .val (.int p4), .val (.int p5), .val (.int p6), .val (.int x1), .unset, .unset, .unset, .unset, .unset, .unset, .unset]) rfl ?_
    refine XS.iloadN X0.here hx rfl (hb hby at_7) rfl ?_
    refine X0.ldcInt hx hown (mvT hZ (w_0 hw)) (g := (mkF m 8 #[.val (.int p1), .val (.int p2), .val (.int p3), .val (.int p4), .val (.int p5), .val (.int p6), .val (.int x1), .unset, .unset, .unset, .unset, .unset, .unset, .unset] [(.int p3)])) rfl (hb hby at_8) _ ?_
    refine XS.iand X0.here hx rfl (hb hby at_10) rfl ?_
    refine XS.i2c X0.here hx rfl (hb hby at_11) rfl ?_
    show Steps p.tables e below (s₁.setTop (mkF m 12 #[.val (.int p1), .val (.int p2), .val (.int p3), .val (.int p4), .val (.int p5), .val (.int p6), .val (.int x1), .unset, .unset, .unset, .unset, .unset, .unset, .unset] [(.int ((p3 &&& (65535 : Int32)).toUInt32.toUInt16.toUInt32.toInt32))])) _
    rw [← ex2]
    refine XS.istore X0.here hx rfl (hb hby at_12) rfl (l' := #[.val (.int p1), .val (.int p2), .val (.int p3), .val (.int p4), .val (.int p5), .val (.int p6), .val (.int x1), .val (.int x2), .unset, .unset, .unset, .unset, .unset, .unset]) rfl ?_
    refine XS.iloadN X0.here hx rfl (hb hby at_14) rfl ?_
    refine X0.ldcInt hx hown (mvT hZ (w_0 hw)) (g := (mkF m 15 #[.val (.int p1), .val (.int p2), .val (.int p3), .val (.int p4), .val (.int p5), .val (.int p6), .val (.int x1), .val (.int x2), .unset, .unset, .unset, .unset, .unset, .unset] [(.int p4)])) rfl (hb hby at_15) _ ?_
    refine XS.iand X0.here hx rfl (hb hby at_17) rfl ?_
    refine XS.i2c X0.here hx rfl (hb hby at_18) rfl ?_
    show Steps p.tables e below (s₁.setTop (mkF m 19 #[.val (.int p1), .val (.int p2), .val (.int p3), .val (.int p4), .val (.int p5), .val (.int p6), .val (.int x1), .val (.int x2), .unset, .unset, .unset, .unset, .unset, .unset] [(.int ((p4 &&& (65535 : Int32)).toUInt32.toUInt16.toUInt32.toInt32))])) _
    rw [← ex3]
    refine XS.istore X0.here hx rfl (hb hby at_19) rfl (l' := #[.val (.int p1), .val (.int p2), .val (.int p3), .val (.int p4), .val (.int p5), .val (.int p6), .val (.int x1), .val (.int x2), .val (.int x3), .unset, .unset, .unset, .unset, .unset]) rfl ?_
    refine XS.iload X0.here hx rfl (hb hby at_21) rfl ?_
    refine X0.ldcInt hx hown (mvT hZ (w_0 hw)) (g := (mkF m 23 #[.val (.int p1), .val (.int p2), .val (.int p3), .val (.int p4), .val (.int p5), .val (.int p6), .val (.int x1), .val (.int x2), .val (.int x3), .unset, .unset, .unset, .unset, .unset] [(.int p5)])) rfl (hb hby at_23) _ ?_
    refine XS.iand X0.here hx rfl (hb hby at_25) rfl ?_
    refine XS.i2c X0.here hx rfl (hb hby at_26) rfl ?_
    show Steps p.tables e below (s₁.setTop (mkF m 27 #[.val (.int p1), .val (.int p2), .val (.int p3), .val (.int p4), .val (.int p5), .val (.int p6), .val (.int x1), .val (.int x2), .val (.int x3), .unset, .unset, .unset, .unset, .unset] [(.int ((p5 &&& (65535 : Int32)).toUInt32.toUInt16.toUInt32.toInt32))])) _
    rw [← ex4]
    refine XS.istore X0.here hx rfl (hb hby at_27) rfl (l' := #[.val (.int p1), .val (.int p2), .val (.int p3), .val (.int p4), .val (.int p5), .val (.int p6), .val (.int x1), .val (.int x2), .val (.int x3), .val (.int x4), .unset, .unset, .unset, .unset]) rfl ?_
    refine XS.iloadN X0.here hx rfl (hb hby at_29) rfl ?_
    refine XS.iconst X0.here hx rfl (hb hby at_30) ?_
    refine XS.iand X0.here hx rfl (hb hby at_31) rfl ?_
    show Steps p.tables e below (s₁.setTop (mkF m 32 #[.val (.int p1), .val (.int p2), .val (.int p3), .val (.int p4), .val (.int p5), .val (.int p6), .val (.int x1), .val (.int x2), .val (.int x3), .val (.int x4), .unset, .unset, .unset, .unset] [(.int (p1 &&& (3 : Int32)))])) _
    rw [hk]
    refine XS.iconst X0.here hx rfl (hb hby at_32) ?_
    refine XS.iadd X0.here hx rfl (hb hby at_33) rfl ?_
    refine XS.istore X0.here hx rfl (hb hby at_34) rfl (l' := #[.val (.int p1), .val (.int p2), .val (.int p3), .val (.int p4), .val (.int p5), .val (.int p6), .val (.int x1), .val (.int x2), .val (.int x3), .val (.int x4), .val (.int 1), .unset, .unset, .unset]) rfl ?_
    refine XS.iload X0.here hx rfl (hb hby at_36) rfl ?_
    refine XS.iconst X0.here hx rfl (hb hby at_38) ?_
    refine XS.icmpNo X0.here hx rfl (hb hby at_39) rfl (teq ((by decide : (1 : Int32) = (1 : Int32)) : (1 : Int32) = (1 : Int32))).2 ?_
    refine st5 _ ?_
    refine XS.dup X5.here hx rfl (hb hby at_45) rfl rfl ?_
    refine XS.iconst X5.here hx rfl (hb hby at_46) ?_
    refine st6 _ ?_
    refine XS.dup X6.here hx rfl (hb hby at_49) rfl rfl ?_
    show Steps p.tables e below (T6.setTop (mkF m 50 #[.val (.int p1), .val (.int p2), .val (.int p3), .val (.int p4), .val (.int p5), .val (.int p6), .val (.int x1), .val (.int x2), .val (.int x3), .val (.int x4), .val (.int 1), .unset, .unset, .unset] [(.ref b6), (.ref b6), (.ref b5), (.ref b5)])) _
    refine XS.iconst X6.here hx rfl (hb hby at_50) ?_
    refine XS.iload X6.here hx rfl (hb hby at_51) rfl ?_
    refine st9 _ ?_
    refine st15 _ ?_
    refine XS.astore X15.here hx rfl (hb hby at_57) rfl rfl (l' := #[.val (.int p1), .val (.int p2), .val (.int p3), .val (.int p4), .val (.int p5), .val (.int p6), .val (.int x1), .val (.int x2), .val (.int x3), .val (.int x4), .val (.int 1), .val (.ref b5), .unset, .unset]) rfl ?_
    refine XS.goto X15.here hx rfl (pc0 := 59) (pc' := 161) rfl (hb hby at_59) (by decide) (by decide) ?_
    refine XS.iload X15.here hx rfl (hb hby at_161) rfl ?_
    refine XS.iconst X15.here hx rfl (hb hby at_163) ?_
    refine XS.iand X15.here hx rfl (hb hby at_164) rfl ?_
    refine XS.ifYes X15.here hx rfl (pc0 := 165) (pc' := 175) rfl (hb hby at_165) rfl ((if0 _ _).trans (teq (cc1 : (p6 &&& (1 : Int32)) = (0 : Int32))).1) (by decide) (by decide) ?_
    refine XS.iload X15.here hx rfl (hb hby at_175) rfl ?_
    refine XS.iconst X15.here hx rfl (hb hby at_177) ?_
    show Steps p.tables e below (T15.setTop (mkF m 178 #[.val (.int p1), .val (.int p2), .val (.int p3), .val (.int p4), .val (.int p5), .val (.int p6), .val (.int x1), .val (.int x2), .val (.int x3), .val (.int x4), .val (.int 1), .val (.ref b5), .unset, .unset] [(.int 1), (.int p6)])) _
    refine XS.iushr X15.here hx rfl (hb hby at_178) rfl ?_
    show Steps p.tables e below (T15.setTop (mkF m 179 #[.val (.int p1), .val (.int p2), .val (.int p3), .val (.int p4), .val (.int p5), .val (.int p6), .val (.int x1), .val (.int x2), .val (.int x3), .val (.int x4), .val (.int 1), .val (.ref b5), .unset, .unset] [(.int ((p6.toUInt32 >>> ((1 : Int32) &&& 31).toUInt32).toInt32))])) _
    rw [← ex17]
    refine X15.ldcInt hx hown (mvT hZ (w_0 hw)) (g := (mkF m 179 #[.val (.int p1), .val (.int p2), .val (.int p3), .val (.int p4), .val (.int p5), .val (.int p6), .val (.int x1), .val (.int x2), .val (.int x3), .val (.int x4), .val (.int 1), .val (.ref b5), .unset, .unset] [(.int x17)])) rfl (hb hby at_179) _ ?_
    refine XS.iand X15.here hx rfl (hb hby at_181) rfl ?_
    show Steps p.tables e below (T15.setTop (mkF m 182 #[.val (.int p1), .val (.int p2), .val (.int p3), .val (.int p4), .val (.int p5), .val (.int p6), .val (.int x1), .val (.int x2), .val (.int x3), .val (.int x4), .val (.int 1), .val (.ref b5), .unset, .unset] [(.int (x17 &&& (65535 : Int32)))])) _
    rw [← ex18]
    refine XS.i2c X15.here hx rfl (hb hby at_182) rfl ?_
    show Steps p.tables e below (T15.setTop (mkF m 183 #[.val (.int p1), .val (.int p2), .val (.int p3), .val (.int p4), .val (.int p5), .val (.int p6), .val (.int x1), .val (.int x2), .val (.int x3), .val (.int x4), .val (.int 1), .val (.ref b5), .unset, .unset] [(.int (x18.toUInt32.toUInt16.toUInt32.toInt32))])) _
    rw [← ex19]
    refine st20 _ ?_
    refine XS.astore X20.here hx rfl (hb hby at_186) rfl rfl (l' := #[.val (.int p1), .val (.int p2), .val (.int p3), .val (.int p4), .val (.int p5), .val (.int p6), .val (.int x1), .val (.int x2), .val (.int x3), .val (.int x4), .val (.int 1), .val (.ref b5), .val (.ref b20_m0), .unset]) rfl ?_
    refine XS.aload X20.here hx rfl (hb hby at_188) rfl rfl ?_
    refine XS.aload X20.here hx rfl (hb hby at_190) rfl rfl ?_
    refine st27 _ ?_
    refine XS.astore X27.here hx rfl (hb hby at_195) rfl rfl (l' := #[.val (.int p1), .val (.int p2), .val (.int p3), .val (.int p4), .val (.int p5), .val (.int p6), .val (.int x1), .val (.int x2), .val (.int x3), .val (.int x4), .val (.int 1), .val (.ref b5), .val (.ref b20_m0), .val (.ref b5)]) rfl ?_
    refine XS.aload X27.here hx rfl (hb hby at_197) rfl rfl ?_
    refine XS.aload X27.here hx rfl (hb hby at_199) rfl rfl ?_
    refine Jvm.RoadKit.acmp (g := (mkF m 201 #[.val (.int p1), .val (.int p2), .val (.int p3), .val (.int p4), .val (.int p5), .val (.int p6), .val (.int x1), .val (.int x2), .val (.int x3), .val (.int x4), .val (.int 1), .val (.ref b5), .val (.ref b20_m0), .val (.ref b5)] [(.ref b5), (.ref b5)])) X27 hx rfl rfl rfl (pc0 := 201) (pc' := 204) (same := true) rfl (hb hby at_201) rfl (decide_eq_true rfl) (by decide) (by decide) ?_
    refine XS.aload X27.here hx rfl (hb hby at_204) rfl rfl ?_
    refine st29 _ ?_
    show Steps p.tables e below (T29.setTop (mkF m 209 #[.val (.int p1), .val (.int p2), .val (.int p3), .val (.int p4), .val (.int p5), .val (.int p6), .val (.int x1), .val (.int x2), .val (.int x3), .val (.int x4), .val (.int 1), .val (.ref b5), .val (.ref b20_m0), .val (.ref b5)] [(.int (x16 >>> ((nar .byte (nar .byte (nar .byte (((((1 : Int32) - (if (255 : Int32) < (nar .char x1) then (2 : Int32) else (1 : Int32))).toUInt32 >>> ((31 : Int32) &&& 31).toUInt32).toInt32).toInt8.toInt32)))) &&& 31)))])) _
    rw [← ex30]
    refine XS.iload X29.here hx rfl (hb hby at_209) rfl ?_
    refine XS.icmpNo X29.here hx rfl (hb hby at_211) rfl (teq ((by rw [ex30, ex16, ex1]; exact cd31) : x30 = (1 : Int32))).2 ?_
    refine XS.iconst X29.here hx rfl (hb hby at_214) ?_
    refine XS.goto X29.here hx rfl (pc0 := 215) (pc' := 219) rfl (hb hby at_215) (by decide) (by decide) ?_
    exact retN X29 hx (t := .boolean) hret (by simp) (hb hby at_219) hr
theorem w_31 {a0 : Array Value} {Z : State} (hw : ∀ d ∈ tables_1, d.before a0 Z = true) : Jvm.Cond.before (Jvm.Cond.stringLink "com/example/senret/senret/LineFieldsRequireNonEmptyPinLaw" (13 : Nat) "") a0 Z = true := hw _ (List.mem_of_getElem? (i := 31) rfl)
theorem rm0_1 (l : Launch) (Z : State) (a0 : Array Value) (hw : ∀ d ∈ tables_1, d.before a0 Z = true) (ws : List Jvm.Cond) (p1 : Int32) (p2 : Int32) (p3 : Int32) (p4 : Int32) (p5 : Int32) (p6 : Int32) (sr1 : Value) (si2 : Int32) (h0 : Heap) (n0 : Nat) (Z0 : n0 ≤ h0.size) (Od0 : Old Z n0 h0) (R_sr1 : sr1.isRef = true) (nc6 : ¬ (si2 = (0 : Int32))) (S7_SIOOBE_FORMATTER : Sta Z Z.heap "jdk/internal/util/Preconditions" "SIOOBE_FORMATTER" "Ljava/util/function/BiFunction;" sr1) (S8_COMPACT_STRINGS : Sta Z Z.heap "java/lang/String" "COMPACT_STRINGS" "Z" (.int si2)) (S9__assertionsDisabled : Sta Z Z.heap "java/lang/StringUTF16" "$assertionsDisabled" "Z" (.int 1)) (S10_HI_BYTE_SHIFT : Sta Z Z.heap "java/lang/StringUTF16" "HI_BYTE_SHIFT" "I" (.int 0)) (S11_LO_BYTE_SHIFT : Sta Z Z.heap "java/lang/StringUTF16" "LO_BYTE_SHIFT" "I" (.int 8)) (hk : (p1 &&& (3 : Int32)) = (0 : Int32)) (cc1 : ¬ ((p6 &&& (1 : Int32)) = (0 : Int32))) :
    OwnMetW l Z x code maxLocals ret ws room_1 #[(.int p1), (.int p2), (.int p3), (.int p4), (.int p5), (.int p6)] h0 (Q0 n0) := by
  refine own_bodyW (plainFor_of_name pn_4) (ef0 p1 p2 p3 p4 p5 p6) ?_
  intro p e s m below meth c s₁ hx hby hml hown hnm hret hZ hs0 hIB X0 e0
  have N0 := Fr.nil n0
  obtain ⟨x1, ex1⟩ : ∃ z, z = ((p2 &&& (65535 : Int32)).toUInt32.toUInt16.toUInt32.toInt32) := ⟨_, rfl⟩
  obtain ⟨x2, ex2⟩ : ∃ z, z = ((p3 &&& (65535 : Int32)).toUInt32.toUInt16.toUInt32.toInt32) := ⟨_, rfl⟩
  obtain ⟨x3, ex3⟩ : ∃ z, z = ((p4 &&& (65535 : Int32)).toUInt32.toUInt16.toUInt32.toInt32) := ⟨_, rfl⟩
  obtain ⟨x4, ex4⟩ : ∃ z, z = ((p5 &&& (65535 : Int32)).toUInt32.toUInt16.toUInt32.toInt32) := ⟨_, rfl⟩
  obtain ⟨T5, h5, X5, e5, E5, A5, D5, -, st5⟩ := newO X0 hx hZ hown (w_1 hw) (w_2 hw) (w_3 hw) e0 (g := (mkF m 42 #[.val (.int p1), .val (.int p2), .val (.int p3), .val (.int p4), .val (.int p5), .val (.int p6), .val (.int x1), .val (.int x2), .val (.int x3), .val (.int x4), .val (.int 1), .unset, .unset, .unset] [])) rfl (hb hby at_42) (by decide) (by decide)
  obtain ⟨b5, g5⟩ : ∃ z, z = h0.size := ⟨_, rfl⟩
  rw [← g5] at A5 D5 st5
  have s0 := E5.1
  have Fn5_coder : Fld Z h5 b5 "java/lang/String" "coder" "B" (.int 0) := D5 (Or.inr (w_28 hw)) (ty := .byte) (by decide)
  have Fn5_value : Fld Z h5 b5 "java/lang/String" "value" "[B" .null := D5 (Or.inr (w_30 hw)) (ty := (.array .byte)) (by decide)
  obtain ⟨T6, h6, k6, X6, e6, E6, A6, B6, st6⟩ := newPE (aty := .char) X5 hx hZ (w_4 hw) e5 (g := (mkF m 47 #[.val (.int p1), .val (.int p2), .val (.int p3), .val (.int p4), .val (.int p5), .val (.int p6), .val (.int x1), .val (.int x2), .val (.int x3), .val (.int x4), .val (.int 1), .unset, .unset, .unset] [(.int 1), (.ref b5), (.ref b5)])) rfl (hb hby at_47) rfl (by decide) (cap := 1) (by decide) (by decide) (by decide) (by decide) (ad := "[C") (by decide)
  obtain ⟨b6, g6⟩ : ∃ z, z = h5.size := ⟨_, rfl⟩
  rw [← g6] at A6 B6 st6
  have s1 := E6.1
  have Vn6 : Arv Z h6 b6 k6 .char (1 : Int32) [(.int 0)] (.int 0) := (Arv.new A6 (by decide)).pad (pad_rep [] (.int 0) 1)
  obtain ⟨cl7, Ar7, q7, S7, M7, Hs7, G7⟩ := id Vn6
  have hin8 : ¬ ((0 : Int32) < 0 ∨ cl7.slots.size ≤ ((0 : Int32)).toNatClampNeg) := inb_of S7 ⟨(by decide : ¬ ((0 : Int32) < (0 : Int32))), (by decide : (0 : Int32) < (1 : Int32))⟩
  obtain ⟨T9, h9, X9, e9, W9, st9⟩ := stC X6 hx hZ e6 Ar7 (j := (0 : Int32)) hin8 (g := (mkF m 53 #[.val (.int p1), .val (.int p2), .val (.int p3), .val (.int p4), .val (.int p5), .val (.int p6), .val (.int x1), .val (.int x2), .val (.int x3), .val (.int x4), .val (.int 1), .unset, .unset, .unset] [(.int x1), (.int 0), (.ref b6), (.ref b6), (.ref b5), (.ref b5)])) rfl rfl (hb hby at_53)
  have s2 := (Keep.of_wr W9).1
  have z1 := Nat.le_trans Z0 s0
  have g_b6 : n0 ≤ b6 := Nat.le_trans z1 (Nat.le_of_eq g6.symm)
  have N9 := Fr.snoc X9 N0 g_b6
  have Vs9 : Arv Z h9 b6 k6 .char (1 : Int32) [(.int (nar .char x1))] (.int 0) := Arv.set Ar7 q7 S7 M7 Hs7 G7 (fits_nar_char _) W9 0 rfl (Nat.le_of_ble_eq_true rfl)
  have Od1 : Old Z n0 h5 := Od0.ext E5
  have Od2 : Old Z n0 h6 := Od1.ext E6
  have Od3 : Old Z n0 h9 := Od2.wr W9 g_b6
  have cd10 : ¬ ((nar .char ((p2 &&& (65535 : Int32)).toUInt32.toUInt16.toUInt32.toInt32)) < (0 : Int32)) := (by rw [Int32.lt_iff_toInt_lt]; have := rng32 (nar .char ((p2 &&& (65535 : Int32)).toUInt32.toUInt16.toUInt32.toInt32)); have := rng32 ((p2 &&& (65535 : Int32)).toUInt32.toUInt16.toUInt32.toInt32); have := rng32 (p2 &&& (65535 : Int32)); have := rng32 p2; have := own_mask p2 (65535 : Int32) 16 (by decide) (by decide) 65536 (by decide); have := c_i2c (p2 &&& (65535 : Int32)); have := own_c_nar_char ((p2 &&& (65535 : Int32)).toUInt32.toUInt16.toUInt32.toInt32); have : ((0 : Int32)).toInt = 0 := (by decide); omega)
  have cd11 : ¬ ((65535 : Int32) < (nar .char ((p2 &&& (65535 : Int32)).toUInt32.toUInt16.toUInt32.toInt32))) := (by rw [Int32.lt_iff_toInt_lt]; have : ((65535 : Int32)).toInt = 65535 := (by decide); have := rng32 (nar .char ((p2 &&& (65535 : Int32)).toUInt32.toUInt16.toUInt32.toInt32)); have := rng32 ((p2 &&& (65535 : Int32)).toUInt32.toUInt16.toUInt32.toInt32); have := rng32 (p2 &&& (65535 : Int32)); have := rng32 p2; have := own_mask p2 (65535 : Int32) 16 (by decide) (by decide) 65536 (by decide); have := c_i2c (p2 &&& (65535 : Int32)); have := own_c_nar_char ((p2 &&& (65535 : Int32)).toUInt32.toUInt16.toUInt32.toInt32); omega)
  have ne_b5_b6 := Nat.ne_of_lt (Nat.lt_of_lt_of_le Fn5_value.lt (Nat.le_of_eq g6.symm))
  have Fl12 := ((Fn5_coder.ext E6).other W9 (Or.inl ne_b5_b6))
  have Ex13 := ((A5.ext E6).wr W9)
  have g_b5 : n0 ≤ b5 := Nat.le_trans Z0 (Nat.le_of_eq g5.symm)
  have Fl14 := ((Fn5_value.ext E6).other W9 (Or.inl ne_b5_b6))
  have z3 := Nat.le_trans Z0 (Nat.le_trans (Nat.le_trans s0 s1) s2)
  obtain ⟨_, T15, L15, X15, hQ15, st15⟩ := own_special X9 hx hZ hown (y := y_9) (a := b5) (w_5 hw) (w_6 hw) (w_3 hw) (w_7 hw) (rm11 l Z a0 hw [] b5 b6 (nar .char x1) k6 si2 h9 n0 z3 Vs9 S8_COMPACT_STRINGS Od3 nc6 S9__assertionsDisabled S10_HI_BYTE_SHIFT S11_LO_BYTE_SHIFT (by rw [ex1]; exact cd10) (by rw [ex1]; exact cd11) Fl12 Ex13 g_b5 Fl14) e9 (Ls := #[.val (.int p1), .val (.int p2), .val (.int p3), .val (.int p4), .val (.int p5), .val (.int p6), .val (.int x1), .val (.int x2), .val (.int x3), .val (.int x4), .val (.int 1), .unset, .unset, .unset]) (by rw [hml]; rfl) (argsL := [(.ref b6)]) (rest := [(.ref b5)]) (lenOf pd_8 rfl) (hb hby at_54) (W := 1)
  obtain ⟨b15_b10_b11_m0, k15_k10_k11_kk1, u15_u10_u11_uu2, rfl, Nq15, K15, o15_0, o15_1, o15_2, o15_3, o15_4, o15_5⟩ := hQ15
  have N15 := Fr.app N9 Nq15
  have s3 := K15.1
  obtain ⟨x16, ex16⟩ : ∃ z, z = (if (255 : Int32) < (nar .char x1) then (2 : Int32) else (1 : Int32)) := ⟨_, rfl⟩
  have o15_5' : Arv Z T15.heap b15_b10_b11_m0 k15_k10_k11_kk1 .byte x16 u15_u10_u11_uu2 (.int 0) := by rw [ex16]; exact o15_5
  obtain ⟨a17, T17, h17, kn17, X17, e17, E17, Sn17, kl17, hZ17, hown17, st17⟩ := ldcS (s := s) (vm0 := s.vm) X15 hx hZ hown (w_31 hw) (own_wS hw) rfl (own_since s) (by rw [hs0]; exact (Nat.le_trans (Nat.le_trans (Nat.le_trans s0 s1) s2) s3)) (g := (mkF m 168 #[.val (.int p1), .val (.int p2), .val (.int p3), .val (.int p4), .val (.int p5), .val (.int p6), .val (.int x1), .val (.int x2), .val (.int x3), .val (.int x4), .val (.int 1), .val (.ref b5), .unset, .unset] [])) rfl (hb hby at_168) (n := 0) (by decide) (by decide) (by decide) (by decide)
  have s4 := E17.1
  have Ex18 := (o15_0.ext E17)
  have Fl19 := (o15_2.ext E17)
  have Va20 := (o15_5'.ext E17)
  have cd21 : ¬ ((if (255 : Int32) < (nar .char ((p2 &&& (65535 : Int32)).toUInt32.toUInt16.toUInt32.toInt32)) then (2 : Int32) else (1 : Int32)) = (0 : Int32)) := (by by_cases hi0 : (255 : Int32) < (nar .char ((p2 &&& (65535 : Int32)).toUInt32.toUInt16.toUInt32.toInt32)); exact (by simp only [if_pos hi0]; decide); exact (by simp only [if_neg hi0]; decide))
  have z5 := Nat.le_trans Z0 (Nat.le_trans (Nat.le_trans (Nat.le_trans (Nat.le_trans s0 s1) s2) s3) s4)
  obtain ⟨_, T22, L22, X22, hQ22, st22⟩ := own_callS X17 hx hZ17 hown17 (y := y_16) (w_34 hw) (w_35 hw) (w_36 hw) (w_37 hw) (rm20 l Z a0 hw [] b5 a17 b15_b10_b11_m0 u15_u10_u11_uu2 k15_k10_k11_kk1 x16 h17 n0 z5 Ex18 Fl19 Va20 (by rw [ex16, ex1]; exact cd21)) e17 (Ls := #[.val (.int p1), .val (.int p2), .val (.int p3), .val (.int p4), .val (.int p5), .val (.int p6), .val (.int x1), .val (.int x2), .val (.int x3), .val (.int x4), .val (.int 1), .val (.ref b5), .val (.ref a17), .unset]) (by rw [hml]; rfl) (argsL := [(.ref b5), (.ref a17)]) (rest := []) (lenOf pd_14 rfl) (hb hby at_192) (W := 0)
  obtain ⟨rfl, Nq22, e22⟩ := hQ22
  have N22 := Fr.app N15 Nq22
  have Od4 : Old Z n0 T15.heap := Od3.keep K15 (allS g_b5 all0)
  have Od5 : Old Z n0 h17 := Od4.ext E17
  have Fl23 := (o15_1.ext E17)
  obtain ⟨_, T24, L24, X24, hQ24, st24⟩ := own_virtual X22 hx hZ17 hown17 (y := y_18) (z := y_18) Ex18 (w_43 hw) (w_44 hw) (notFace_of_selects (args := #[]) (mvT hZ17 (w_46 hw))) (w_46 hw) (w_45 hw) (w_3 hw) (w_47 hw) (rm22 l Z a0 hw [] b5 b15_b10_b11_m0 u15_u10_u11_uu2 k15_k10_k11_kk1 x16 si2 (nar .byte (nar .byte (((((1 : Int32) - (if (255 : Int32) < (nar .char x1) then (2 : Int32) else (1 : Int32))).toUInt32 >>> ((31 : Int32) &&& 31).toUInt32).toInt32).toInt8.toInt32))) h17 n0 z5 Fl19 Va20 Ex18 S8_COMPACT_STRINGS Od5 nc6 Fl23) e22 (Ls := #[.val (.int p1), .val (.int p2), .val (.int p3), .val (.int p4), .val (.int p5), .val (.int p6), .val (.int x1), .val (.int x2), .val (.int x3), .val (.int x4), .val (.int 1), .val (.ref b5), .val (.ref a17), .val (.ref b5)]) (by rw [hml]; rfl) (argsL := []) (rest := []) (lenOf pd_16 rfl) (hb hby at_206) (W := 0)
  obtain ⟨rfl, Nq24, e24⟩ := hQ24
  have N24 := Fr.app N22 Nq24
  obtain ⟨x25, ex25⟩ : ∃ z, z = (x16 >>> ((nar .byte (nar .byte (nar .byte (((((1 : Int32) - (if (255 : Int32) < (nar .char x1) then (2 : Int32) else (1 : Int32))).toUInt32 >>> ((31 : Int32) &&& 31).toUInt32).toInt32).toInt8.toInt32)))) &&& 31)) := ⟨_, rfl⟩
  have cd26 : ((if (255 : Int32) < (nar .char ((p2 &&& (65535 : Int32)).toUInt32.toUInt16.toUInt32.toInt32)) then (2 : Int32) else (1 : Int32)) >>> ((nar .byte (nar .byte (nar .byte (((((1 : Int32) - (if (255 : Int32) < (nar .char ((p2 &&& (65535 : Int32)).toUInt32.toUInt16.toUInt32.toInt32)) then (2 : Int32) else (1 : Int32))).toUInt32 >>> ((31 : Int32) &&& 31).toUInt32).toInt32).toInt8.toInt32)))) &&& 31)) = (1 : Int32) := (by by_cases hi0 : (255 : Int32) < (nar .char ((p2 &&& (65535 : Int32)).toUInt32.toUInt16.toUInt32.toInt32)); exact (by simp only [if_pos hi0]; decide); exact (by simp only [if_neg hi0]; decide))
  refine ⟨T24, _, _, _, (some (.int 1)), T17.vm, kn17, X24, Sn17, (by rw [e24]; exact Nat.le_trans kl17 (Nat.le_refl _)), nofun, by decide, by decide, ?_, fun fs hr => ?_⟩
  · show Q0 n0 _ T24.heap _
    rw [e24]
    subst ex25
    subst ex16
    subst ex4
    subst ex3
    subst ex2
    subst ex1
    exact ⟨rfl, N24⟩
  · refine XS.iloadN X0.here hx rfl (hb hby at_0) rfl ?_
    refine X0.ldcInt hx hown (mvT hZ (w_0 hw)) (g := (mkF m 1 #[.val (.int p1), .val (.int p2), .val (.int p3), .val (.int p4), .val (.int p5), .val (.int p6), .unset, .unset, .unset, .unset, .unset, .unset, .unset, .unset] [(.int p2)])) rfl (hb hby at_1) _ ?_
    refine XS.iand X0.here hx rfl (hb hby at_3) rfl ?_
    refine XS.i2c X0.here hx rfl (hb hby at_4) rfl ?_
    show Steps p.tables e below (s₁.setTop (mkF m 5 #[.val (.int p1), .val (.int p2), .val (.int p3), .val (.int p4), .val (.int p5), .val (.int p6), .unset, .unset, .unset, .unset, .unset, .unset, .unset, .unset] [(.int ((p2 &&& (65535 : Int32)).toUInt32.toUInt16.toUInt32.toInt32))])) _
    rw [← ex1]
    refine XS.istore X0.here hx rfl (hb hby at_5) rfl (l' := #[.val (.int p1), .val (.int p2), .val (.int p3), .val (.int p4), .val (.int p5), .val (.int p6), .val (.int x1), .unset, .unset, .unset, .unset, .unset, .unset, .unset]) rfl ?_
    refine XS.iloadN X0.here hx rfl (hb hby at_7) rfl ?_
    refine X0.ldcInt hx hown (mvT hZ (w_0 hw)) (g := (mkF m 8 #[.val (.int p1), .val (.int p2), .val (.int p3), .val (.int p4), .val (.int p5), .val (.int p6), .val (.int x1), .unset, .unset, .unset, .unset, .unset, .unset, .unset] [(.int p3)])) rfl (hb hby at_8) _ ?_
    refine XS.iand X0.here hx rfl (hb hby at_10) rfl ?_
    refine XS.i2c X0.here hx rfl (hb hby at_11) rfl ?_
    show Steps p.tables e below (s₁.setTop (mkF m 12 #[.val (.int p1), .val (.int p2), .val (.int p3), .val (.int p4), .val (.int p5), .val (.int p6), .val (.int x1), .unset, .unset, .unset, .unset, .unset, .unset, .unset] [(.int ((p3 &&& (65535 : Int32)).toUInt32.toUInt16.toUInt32.toInt32))])) _
    rw [← ex2]
    refine XS.istore X0.here hx rfl (hb hby at_12) rfl (l' := #[.val (.int p1), .val (.int p2), .val (.int p3), .val (.int p4), .val (.int p5), .val (.int p6), .val (.int x1), .val (.int x2), .unset, .unset, .unset, .unset, .unset, .unset]) rfl ?_
    refine XS.iloadN X0.here hx rfl (hb hby at_14) rfl ?_
    refine X0.ldcInt hx hown (mvT hZ (w_0 hw)) (g := (mkF m 15 #[.val (.int p1), .val (.int p2), .val (.int p3), .val (.int p4), .val (.int p5), .val (.int p6), .val (.int x1), .val (.int x2), .unset, .unset, .unset, .unset, .unset, .unset] [(.int p4)])) rfl (hb hby at_15) _ ?_
    refine XS.iand X0.here hx rfl (hb hby at_17) rfl ?_
    refine XS.i2c X0.here hx rfl (hb hby at_18) rfl ?_
    show Steps p.tables e below (s₁.setTop (mkF m 19 #[.val (.int p1), .val (.int p2), .val (.int p3), .val (.int p4), .val (.int p5), .val (.int p6), .val (.int x1), .val (.int x2), .unset, .unset, .unset, .unset, .unset, .unset] [(.int ((p4 &&& (65535 : Int32)).toUInt32.toUInt16.toUInt32.toInt32))])) _
    rw [← ex3]
    refine XS.istore X0.here hx rfl (hb hby at_19) rfl (l' := #[.val (.int p1), .val (.int p2), .val (.int p3), .val (.int p4), .val (.int p5), .val (.int p6), .val (.int x1), .val (.int x2), .val (.int x3), .unset, .unset, .unset, .unset, .unset]) rfl ?_
    refine XS.iload X0.here hx rfl (hb hby at_21) rfl ?_
    refine X0.ldcInt hx hown (mvT hZ (w_0 hw)) (g := (mkF m 23 #[.val (.int p1), .val (.int p2), .val (.int p3), .val (.int p4), .val (.int p5), .val (.int p6), .val (.int x1), .val (.int x2), .val (.int x3), .unset, .unset, .unset, .unset, .unset] [(.int p5)])) rfl (hb hby at_23) _ ?_
    refine XS.iand X0.here hx rfl (hb hby at_25) rfl ?_
    refine XS.i2c X0.here hx rfl (hb hby at_26) rfl ?_
    show Steps p.tables e below (s₁.setTop (mkF m 27 #[.val (.int p1), .val (.int p2), .val (.int p3), .val (.int p4), .val (.int p5), .val (.int p6), .val (.int x1), .val (.int x2), .val (.int x3), .unset, .unset, .unset, .unset, .unset] [(.int ((p5 &&& (65535 : Int32)).toUInt32.toUInt16.toUInt32.toInt32))])) _
    rw [← ex4]
    refine XS.istore X0.here hx rfl (hb hby at_27) rfl (l' := #[.val (.int p1), .val (.int p2), .val (.int p3), .val (.int p4), .val (.int p5), .val (.int p6), .val (.int x1), .val (.int x2), .val (.int x3), .val (.int x4), .unset, .unset, .unset, .unset]) rfl ?_
    refine XS.iloadN X0.here hx rfl (hb hby at_29) rfl ?_
    refine XS.iconst X0.here hx rfl (hb hby at_30) ?_
    refine XS.iand X0.here hx rfl (hb hby at_31) rfl ?_
    show Steps p.tables e below (s₁.setTop (mkF m 32 #[.val (.int p1), .val (.int p2), .val (.int p3), .val (.int p4), .val (.int p5), .val (.int p6), .val (.int x1), .val (.int x2), .val (.int x3), .val (.int x4), .unset, .unset, .unset, .unset] [(.int (p1 &&& (3 : Int32)))])) _
    rw [hk]
    refine XS.iconst X0.here hx rfl (hb hby at_32) ?_
    refine XS.iadd X0.here hx rfl (hb hby at_33) rfl ?_
    refine XS.istore X0.here hx rfl (hb hby at_34) rfl (l' := #[.val (.int p1), .val (.int p2), .val (.int p3), .val (.int p4), .val (.int p5), .val (.int p6), .val (.int x1), .val (.int x2), .val (.int x3), .val (.int x4), .val (.int 1), .unset, .unset, .unset]) rfl ?_
    refine XS.iload X0.here hx rfl (hb hby at_36) rfl ?_
    refine XS.iconst X0.here hx rfl (hb hby at_38) ?_
    refine XS.icmpNo X0.here hx rfl (hb hby at_39) rfl (teq ((by decide : (1 : Int32) = (1 : Int32)) : (1 : Int32) = (1 : Int32))).2 ?_
    refine st5 _ ?_
    refine XS.dup X5.here hx rfl (hb hby at_45) rfl rfl ?_
    refine XS.iconst X5.here hx rfl (hb hby at_46) ?_
    refine st6 _ ?_
    refine XS.dup X6.here hx rfl (hb hby at_49) rfl rfl ?_
    show Steps p.tables e below (T6.setTop (mkF m 50 #[.val (.int p1), .val (.int p2), .val (.int p3), .val (.int p4), .val (.int p5), .val (.int p6), .val (.int x1), .val (.int x2), .val (.int x3), .val (.int x4), .val (.int 1), .unset, .unset, .unset] [(.ref b6), (.ref b6), (.ref b5), (.ref b5)])) _
    refine XS.iconst X6.here hx rfl (hb hby at_50) ?_
    refine XS.iload X6.here hx rfl (hb hby at_51) rfl ?_
    refine st9 _ ?_
    refine st15 _ ?_
    refine XS.astore X15.here hx rfl (hb hby at_57) rfl rfl (l' := #[.val (.int p1), .val (.int p2), .val (.int p3), .val (.int p4), .val (.int p5), .val (.int p6), .val (.int x1), .val (.int x2), .val (.int x3), .val (.int x4), .val (.int 1), .val (.ref b5), .unset, .unset]) rfl ?_
    refine XS.goto X15.here hx rfl (pc0 := 59) (pc' := 161) rfl (hb hby at_59) (by decide) (by decide) ?_
    refine XS.iload X15.here hx rfl (hb hby at_161) rfl ?_
    refine XS.iconst X15.here hx rfl (hb hby at_163) ?_
    refine XS.iand X15.here hx rfl (hb hby at_164) rfl ?_
    refine XS.ifNo X15.here hx rfl (hb hby at_165) rfl ((if0 _ _).trans (feq (cc1 : ¬ ((p6 &&& (1 : Int32)) = (0 : Int32)))).1) ?_
    refine st17 _ ?_
    refine XS.astore X17.here hx rfl (hb hby at_170) rfl rfl (l' := #[.val (.int p1), .val (.int p2), .val (.int p3), .val (.int p4), .val (.int p5), .val (.int p6), .val (.int x1), .val (.int x2), .val (.int x3), .val (.int x4), .val (.int 1), .val (.ref b5), .val (.ref a17), .unset]) rfl ?_
    show Steps p.tables e below (T17.setTop (mkF m 172 #[.val (.int p1), .val (.int p2), .val (.int p3), .val (.int p4), .val (.int p5), .val (.int p6), .val (.int x1), .val (.int x2), .val (.int x3), .val (.int x4), .val (.int 1), .val (.ref b5), .val (.ref a17), .unset] [])) _
    refine XS.goto X17.here hx rfl (pc0 := 172) (pc' := 188) rfl (hb hby at_172) (by decide) (by decide) ?_
    refine XS.aload X17.here hx rfl (hb hby at_188) rfl rfl ?_
    refine XS.aload X17.here hx rfl (hb hby at_190) rfl rfl ?_
    refine st22 _ ?_
    refine XS.astore X22.here hx rfl (hb hby at_195) rfl rfl (l' := #[.val (.int p1), .val (.int p2), .val (.int p3), .val (.int p4), .val (.int p5), .val (.int p6), .val (.int x1), .val (.int x2), .val (.int x3), .val (.int x4), .val (.int 1), .val (.ref b5), .val (.ref a17), .val (.ref b5)]) rfl ?_
    refine XS.aload X22.here hx rfl (hb hby at_197) rfl rfl ?_
    refine XS.aload X22.here hx rfl (hb hby at_199) rfl rfl ?_
    refine Jvm.RoadKit.acmp (g := (mkF m 201 #[.val (.int p1), .val (.int p2), .val (.int p3), .val (.int p4), .val (.int p5), .val (.int p6), .val (.int x1), .val (.int x2), .val (.int x3), .val (.int x4), .val (.int 1), .val (.ref b5), .val (.ref a17), .val (.ref b5)] [(.ref b5), (.ref b5)])) X22 hx rfl rfl rfl (pc0 := 201) (pc' := 204) (same := true) rfl (hb hby at_201) rfl (decide_eq_true rfl) (by decide) (by decide) ?_
    refine XS.aload X22.here hx rfl (hb hby at_204) rfl rfl ?_
    refine st24 _ ?_
    show Steps p.tables e below (T24.setTop (mkF m 209 #[.val (.int p1), .val (.int p2), .val (.int p3), .val (.int p4), .val (.int p5), .val (.int p6), .val (.int x1), .val (.int x2), .val (.int x3), .val (.int x4), .val (.int 1), .val (.ref b5), .val (.ref a17), .val (.ref b5)] [(.int (x16 >>> ((nar .byte (nar .byte (nar .byte (((((1 : Int32) - (if (255 : Int32) < (nar .char x1) then (2 : Int32) else (1 : Int32))).toUInt32 >>> ((31 : Int32) &&& 31).toUInt32).toInt32).toInt8.toInt32)))) &&& 31)))])) _
    rw [← ex25]
    refine XS.iload X24.here hx rfl (hb hby at_209) rfl ?_
    refine XS.icmpNo X24.here hx rfl (hb hby at_211) rfl (teq ((by rw [ex25, ex16, ex1]; exact cd26) : x25 = (1 : Int32))).2 ?_
    refine XS.iconst X24.here hx rfl (hb hby at_214) ?_
    refine XS.goto X24.here hx rfl (pc0 := 215) (pc' := 219) rfl (hb hby at_215) (by decide) (by decide) ?_
    exact retN X24 hx (t := .boolean) hret (by simp) (hb hby at_219) hr
theorem ef_28bd7f (a1 : Addr) (a2 : Addr) (m : MethodId) : entryFrame m #[(.ref a1), (.int 0), (.ref a2), (.int 0), (.int 2)] 7 = mkF m 0 #[.val (.ref a1), .val (.int 0), .val (.ref a2), .val (.int 0), .val (.int 2), .unset, .unset] [] := by first | (simp [entryFrame, mkF, argsToLocals, Value.category]; done) | rfl
-- java/lang/StringUTF16.compress([CI[BII)I
abbrev Rm23 : Room := { frames := 0, cells := 0, slots := 0, locals := 0 }
def Q23 (Z : State) (a1 : Addr) (a2 : Addr) (p3 : Int32) (p4 : Int32) (k5 : ClassId) (h0 : Heap) (n0 : Nat) (v : Option Value) (h : Heap) (L : List Loc) : Prop := v = some (.int 0) ∧ Fr n0 L ∧ h = h0
-- ef_28bd7f
theorem rm23 (l : Launch) (Z : State) (a0 : Array Value) (hw : ∀ d ∈ tables_1, d.before a0 Z = true) (ws : List Jvm.Cond) (a1 : Addr) (a2 : Addr) (p3 : Int32) (p4 : Int32) (k5 : ClassId) (h0 : Heap) (n0 : Nat) (Z0 : n0 ≤ h0.size) (V_a1 : Arv Z h0 a1 k5 .char (2 : Int32) [(.int p3), (.int p4)] (.int 0)) (c8 : (255 : Int32) < p3) :
    OwnMet l Z y_0 jdk_52_method_21_code 7 (some .int) ws Rm23 #[(.ref a1), (.int 0), (.ref a2), (.int 0), (.int 2)] h0 (Q23 Z a1 a2 p3 p4 k5 h0 n0) := by
  refine own_body (plainFor_of_name pn_0) (ef_28bd7f a1 a2) ?_
  intro p e s m below meth c s₁ hx hby hml hown hnm hret hZ X0 e0
  have N0 := Fr.nil n0
  obtain ⟨cl6, Ar6, q6, S6, M6, Hs6, G6⟩ := id V_a1
  have hin7 : ¬ ((0 : Int32) < 0 ∨ cl6.slots.size ≤ ((0 : Int32)).toNatClampNeg) := inb_of S6 ⟨(by decide : ¬ ((0 : Int32) < (0 : Int32))), (by decide : (0 : Int32) < (2 : Int32))⟩
  refine ⟨s₁, _, _, _, (some (.int 0)), X0, nofun, by decide, by decide, ?_, fun fs hr => ?_⟩
  · rw [e0]
    exact ⟨rfl, N0, rfl⟩
  · refine XS.iconst X0.here hx rfl (hb hby d5_0) ?_
    refine XS.istore X0.here hx rfl (hb hby d5_1) rfl (l' := #[.val (.ref a1), .val (.int 0), .val (.ref a2), .val (.int 0), .val (.int 2), .val (.int 0), .unset]) rfl ?_
    refine XS.iload X0.here hx rfl (hb hby d5_3) rfl ?_
    refine XS.iload X0.here hx rfl (hb hby d5_5) rfl ?_
    refine XS.icmpNo X0.here hx rfl (hb hby d5_7) rfl (tlt ((by decide : (0 : Int32) < (2 : Int32)) : (0 : Int32) < (2 : Int32))).2.1 ?_
    refine XS.aloadN X0.here hx rfl (hb hby d5_10) rfl rfl ?_
    refine XS.iloadN X0.here hx rfl (hb hby d5_11) rfl ?_
    refine X0.caload hx (j := (0 : Int32)) (v := (.int p3)) (by rw [e0]; exact Ar6.1) (State.isArrayOf_alike hZ.alike Ar6.2.1) Ar6.2.2 hin7 (Has.at Hs6 hin7 rfl) (g := (mkF m 12 #[.val (.ref a1), .val (.int 0), .val (.ref a2), .val (.int 0), .val (.int 2), .val (.int 0), .unset] [(.int 0), (.ref a1)])) rfl rfl (hb hby d5_12) _ ?_
    refine XS.istore X0.here hx rfl (hb hby d5_13) rfl (l' := #[.val (.ref a1), .val (.int 0), .val (.ref a2), .val (.int 0), .val (.int 2), .val (.int 0), .val (.int p3)]) rfl ?_
    refine XS.iload X0.here hx rfl (hb hby d5_15) rfl ?_
    refine XS.sipush X0.here hx rfl (hb hby d5_17) ?_
    show Steps p.tables e below (s₁.setTop (mkF m 20 #[.val (.ref a1), .val (.int 0), .val (.ref a2), .val (.int 0), .val (.int 2), .val (.int 0), .val (.int p3)] [(.int 255), (.int p3)])) _
    refine XS.icmpNo X0.here hx rfl (hb hby d5_20) rfl (tlt (c8 : (255 : Int32) < p3)).2.2.2 ?_
    refine XS.iload X0.here hx rfl (hb hby d5_23) rfl ?_
    exact retI X0 hx hret (hb hby d5_25) hr
theorem ef_b8c495  (m : MethodId) : entryFrame m #[(.int 2)] 1 = mkF m 0 #[.val (.int 2)] [] := by first | (simp [entryFrame, mkF, argsToLocals, Value.category]; done) | rfl
-- java/lang/StringUTF16.newBytesLength(I)I
abbrev Rm24 : Room := { frames := 0, cells := 0, slots := 0, locals := 0 }
def Q24 (Z : State)  (h0 : Heap) (n0 : Nat) (v : Option Value) (h : Heap) (L : List Loc) : Prop := v = some (.int 4) ∧ Fr n0 L ∧ h = h0
-- ef_b8c495
theorem rm24 (l : Launch) (Z : State) (a0 : Array Value) (hw : ∀ d ∈ tables_1, d.before a0 Z = true) (ws : List Jvm.Cond)  (h0 : Heap) (n0 : Nat) (Z0 : n0 ≤ h0.size) :
    OwnMet l Z y_1 jdk_52_method_3_code 1 (some .int) ws Rm24 #[(.int 2)] h0 (Q24 Z  h0 n0) := by
  refine own_body (plainFor_of_name pn_0) (ef_b8c495) ?_
  intro p e s m below meth c s₁ hx hby hml hown hnm hret hZ X0 e0
  have N0 := Fr.nil n0
  refine ⟨s₁, _, _, _, (some (.int 4)), X0, nofun, by decide, by decide, ?_, fun fs hr => ?_⟩
  · rw [e0]
    exact ⟨rfl, N0, rfl⟩
  · refine XS.iloadN X0.here hx rfl (hb hby d17_0) rfl ?_
    refine XS.ifYes X0.here hx rfl (pc0 := 1) (pc' := 12) rfl (hb hby d17_1) rfl ((if0 _ _).trans (flt ((by decide : ¬ ((2 : Int32) < (0 : Int32))) : ¬ ((2 : Int32) < (0 : Int32)))).2.1) (by decide) (by decide) ?_
    refine XS.iloadN X0.here hx rfl (hb hby d17_12) rfl ?_
    refine X0.ldcInt hx hown (mvT hZ (w_76 hw)) (g := (mkF m 13 #[.val (.int 2)] [(.int 2)])) rfl (hb hby d17_13) _ ?_
    refine XS.icmpYes X0.here hx rfl (pc0 := 15) (pc' := 55) rfl (hb hby d17_15) rfl (tlt ((by decide : (2 : Int32) < (1073741823 : Int32)) : (2 : Int32) < (1073741823 : Int32))).1 (by decide) (by decide) ?_
    refine XS.iloadN X0.here hx rfl (hb hby d17_55) rfl ?_
    refine XS.iconst X0.here hx rfl (hb hby d17_56) ?_
    refine XS.ishl X0.here hx rfl (hb hby d17_57) rfl ?_
    exact retI X0 hx hret (hb hby d17_58) hr
-- java/lang/StringUTF16.newBytesFor(I)[B
abbrev Rm25 : Room := { frames := 1, cells := 1, slots := 4, locals := 12 }
def Q25 (Z : State)  (h0 : Heap) (n0 : Nat) (v : Option Value) (h : Heap) (L : List Loc) : Prop := ∃ b2 : Addr, ∃ k2 : ClassId, v = some (.ref b2) ∧ Fr n0 L ∧ Keep h0 h [] ∧ h0.size ≤ b2 ∧ Exa Z h b2 "[B" ∧ Arv Z h b2 k2 .byte (4 : Int32) [(.int 0), (.int 0), (.int 0), (.int 0)] (.int 0)
-- ef_b8c495
theorem rm25 (l : Launch) (Z : State) (a0 : Array Value) (hw : ∀ d ∈ tables_1, d.before a0 Z = true) (ws : List Jvm.Cond)  (h0 : Heap) (n0 : Nat) (Z0 : n0 ≤ h0.size) :
    OwnMet l Z y_2 jdk_52_method_2_code 1 (some (.array .byte)) ws Rm25 #[(.int 2)] h0 (Q25 Z  h0 n0) := by
  refine own_body (plainFor_of_name pn_0) (ef_b8c495) ?_
  intro p e s m below meth c s₁ hx hby hml hown hnm hret hZ X0 e0
  have N0 := Fr.nil n0
  obtain ⟨_, T1, L1, X1, hQ1, st1⟩ := own_callS X0 hx hZ hown (y := y_1) (w_73 hw) (w_74 hw) (w_18 hw) (w_75 hw) (rm24 l Z a0 hw []  h0 n0 Z0) e0 (Ls := #[.val (.int 2)]) (by rw [hml]; rfl) (argsL := [(.int 2)]) (rest := []) (lenOf pd_1 rfl) (hb hby d16_1) (W := 0)
  obtain ⟨rfl, Nq1, e1⟩ := hQ1
  have N1 := Fr.app N0 Nq1
  obtain ⟨T2, h2, k2, X2, e2, E2, A2, B2, st2⟩ := newPE (aty := .byte) X1 hx hZ (w_20 hw) e1 (g := (mkF m 4 #[.val (.int 2)] [(.int 4)])) rfl (hb hby d16_4) rfl (by decide) (cap := 4) (by decide) (by decide) (by decide) (by decide) (ad := "[B") (by decide)
  obtain ⟨b2, g2⟩ : ∃ z, z = h0.size := ⟨_, rfl⟩
  rw [← g2] at A2 B2 st2
  have s0 := E2.1
  have Vn2 : Arv Z h2 b2 k2 .byte (4 : Int32) [(.int 0), (.int 0), (.int 0), (.int 0)] (.int 0) := (Arv.new A2 (by decide)).pad (pad_rep [] (.int 0) 4)
  have sz_b2 : h0.size ≤ b2 := (Nat.le_of_eq g2.symm)
  have Kp0 : Keep h0 h2 [] := (Keep.refl h0 []).ext E2
  refine ⟨T2, _, _, _, (some (.ref b2)), X2, nofun, by decide, by decide, ?_, fun fs hr => ?_⟩
  · rw [e2]
    exact ⟨b2, k2, rfl, N1, Kp0, sz_b2, B2, Vn2⟩
  · refine XS.iloadN X0.here hx rfl (hb hby d16_0) rfl ?_
    refine st1 _ ?_
    refine st2 _ ?_
    exact retOut X2 hx hret rfl (Or.inr (Or.inr (Or.inr (Or.inr ⟨rfl, rfl, rfl⟩)))) (hb hby d16_6) hr
-- java/lang/StringUTF16.putChar([BII)V
abbrev Rm26 : Room := { frames := 0, cells := 0, slots := 0, locals := 0 }
def Q26 (Z : State) (a1 : Addr) (p2 : Int32) (k5 : ClassId) (h0 : Heap) (n0 : Nat) (v : Option Value) (h : Heap) (L : List Loc) : Prop := v = none ∧ Fr n0 L ∧ Keep h0 h [a1] ∧ Exa Z h a1 "[B" ∧ Arv Z h a1 k5 .byte (4 : Int32) [(.int (nar .byte ((p2 >>> ((0 : Int32) &&& 31)).toInt8.toInt32))), (.int (nar .byte ((p2 >>> ((8 : Int32) &&& 31)).toInt8.toInt32))), (.int 0), (.int 0)] (.int 0)
-- ef_6a6989
theorem rm26 (l : Launch) (Z : State) (a0 : Array Value) (hw : ∀ d ∈ tables_1, d.before a0 Z = true) (ws : List Jvm.Cond) (a1 : Addr) (p2 : Int32) (k5 : ClassId) (h0 : Heap) (n0 : Nat) (Z0 : n0 ≤ h0.size) (S__assertionsDisabled : Sta Z Z.heap "java/lang/StringUTF16" "$assertionsDisabled" "Z" (.int 1)) (Od0 : Old Z n0 h0) (S_HI_BYTE_SHIFT : Sta Z Z.heap "java/lang/StringUTF16" "HI_BYTE_SHIFT" "I" (.int 0)) (V_a1 : Arv Z h0 a1 k5 .byte (4 : Int32) [(.int 0), (.int 0), (.int 0), (.int 0)] (.int 0)) (g_a1 : n0 ≤ a1) (S_LO_BYTE_SHIFT : Sta Z Z.heap "java/lang/StringUTF16" "LO_BYTE_SHIFT" "I" (.int 8)) (E_a1 : Exa Z h0 a1 "[B") :
    OwnMet l Z y_3 jdk_52_method_4_code 3 none ws Rm26 #[(.ref a1), (.int 0), (.int p2)] h0 (Q26 Z a1 p2 k5 h0 n0) := by
  refine own_body (plainFor_of_name pn_0) (ef_6a6989 a1 p2) ?_
  intro p e s m below meth c s₁ hx hby hml hown hnm hret hZ X0 e0
  have N0 := Fr.nil n0
  obtain ⟨T3, X3, e3, st3⟩ := getS2 X0 hx hZ hown (host := "") (Or.inl (w_80 hw)) Via.refl e0 (S__assertionsDisabled.ext Od0.2) (g := (mkF m 0 #[.val (.ref a1), .val (.int 0), .val (.int p2)] [])) rfl (hb hby d18_0)
  obtain ⟨T4, X4, e4, st4⟩ := getS2 X3 hx hZ hown (host := "") (Or.inl (w_81 hw)) Via.refl e3 (S_HI_BYTE_SHIFT.ext Od0.2) (g := (mkF m 38 #[.val (.ref a1), .val (.int 1), .val (.int p2)] [(.int p2), (.int 0), (.ref a1)])) rfl (hb hby d18_38)
  obtain ⟨cl6, Ar6, q6, S6, M6, Hs6, G6⟩ := id V_a1
  have hin7 : ¬ ((0 : Int32) < 0 ∨ cl6.slots.size ≤ ((0 : Int32)).toNatClampNeg) := inb_of S6 ⟨(by decide : ¬ ((0 : Int32) < (0 : Int32))), (by decide : (0 : Int32) < (4 : Int32))⟩
  obtain ⟨T8, h8, X8, e8, W8, st8⟩ := stB X4 hx hZ e4 Ar6 (j := (0 : Int32)) hin7 (g := (mkF m 43 #[.val (.ref a1), .val (.int 1), .val (.int p2)] [(.int ((p2 >>> ((0 : Int32) &&& 31)).toInt8.toInt32)), (.int 0), (.ref a1)])) rfl rfl (hb hby d18_43)
  have s0 := (Keep.of_wr W8).1
  have N8 := Fr.snoc X8 N0 g_a1
  have Vs8 : Arv Z h8 a1 k5 .byte (4 : Int32) [(.int (nar .byte ((p2 >>> ((0 : Int32) &&& 31)).toInt8.toInt32))), (.int 0), (.int 0), (.int 0)] (.int 0) := Arv.set Ar6 q6 S6 M6 Hs6 G6 (fits_nar_byte _) W8 0 rfl (Nat.le_of_ble_eq_true rfl)
  have Od1 : Old Z n0 h8 := Od0.wr W8 g_a1
  obtain ⟨T9, X9, e9, st9⟩ := getS2 X8 hx hZ hown (host := "") (Or.inl (w_82 hw)) Via.refl e8 (S_LO_BYTE_SHIFT.ext Od1.2) (g := (mkF m 47 #[.val (.ref a1), .val (.int 1), .val (.int p2)] [(.int p2), (.int 1), (.ref a1)])) rfl (hb hby d18_47)
  obtain ⟨cl10, Ar10, q10, S10, M10, Hs10, G10⟩ := id Vs8
  have hin11 : ¬ ((1 : Int32) < 0 ∨ cl10.slots.size ≤ ((1 : Int32)).toNatClampNeg) := inb_of S10 ⟨(by decide : ¬ ((1 : Int32) < (0 : Int32))), (by decide : (1 : Int32) < (4 : Int32))⟩
  obtain ⟨T12, h12, X12, e12, W12, st12⟩ := stB X9 hx hZ e9 Ar10 (j := (1 : Int32)) hin11 (g := (mkF m 52 #[.val (.ref a1), .val (.int 1), .val (.int p2)] [(.int ((p2 >>> ((8 : Int32) &&& 31)).toInt8.toInt32)), (.int 1), (.ref a1)])) rfl rfl (hb hby d18_52)
  have s1 := (Keep.of_wr W12).1
  have N12 := Fr.snoc X12 N8 g_a1
  have Vs12 : Arv Z h12 a1 k5 .byte (4 : Int32) [(.int (nar .byte ((p2 >>> ((0 : Int32) &&& 31)).toInt8.toInt32))), (.int (nar .byte ((p2 >>> ((8 : Int32) &&& 31)).toInt8.toInt32))), (.int 0), (.int 0)] (.int 0) := Arv.set Ar10 q10 S10 M10 Hs10 G10 (fits_nar_byte _) W12 1 rfl (Nat.le_of_ble_eq_true rfl)
  have Ex13 := ((E_a1.wr W8).wr W12)
  have Kp0 : Keep h0 h8 [a1] := (Keep.refl h0 [a1]).wr W8 (Or.inl (List.mem_of_getElem? (i := 0) rfl))
  have Kp1 : Keep h0 h12 [a1] := Kp0.wr W12 (Or.inl (List.mem_of_getElem? (i := 0) rfl))
  refine ⟨T12, _, _, _, none, X12, (fun _ => rfl), by decide, by decide, ?_, fun fs hr => ?_⟩
  · rw [e12]
    exact ⟨rfl, N12, Kp1, Ex13, Vs12⟩
  · refine st3 _ ?_
    refine XS.ifYes X3.here hx rfl (pc0 := 3) (pc' := 28) rfl (hb hby d18_3) rfl ((if0 _ _).trans (feq ((by decide : ¬ ((1 : Int32) = (0 : Int32))) : ¬ ((1 : Int32) = (0 : Int32)))).2) (by decide) (by decide) ?_
    refine XS.iloadN X3.here hx rfl (hb hby d18_28) rfl ?_
    refine XS.iconst X3.here hx rfl (hb hby d18_29) ?_
    refine XS.ishl X3.here hx rfl (hb hby d18_30) rfl ?_
    refine XS.istoreN X3.here hx rfl (hb hby d18_31) rfl (l' := #[.val (.ref a1), .val (.int 0), .val (.int p2)]) rfl ?_
    refine XS.aloadN X3.here hx rfl (hb hby d18_32) rfl rfl ?_
    refine XS.iloadN X3.here hx rfl (hb hby d18_33) rfl ?_
    refine XS.iinc X3.here hx rfl (hb hby d18_34) rfl (l' := #[.val (.ref a1), .val (.int 1), .val (.int p2)]) rfl ?_
    refine XS.iloadN X3.here hx rfl (hb hby d18_37) rfl ?_
    refine st4 _ ?_
    show Steps p.tables e below (T4.setTop (mkF m 41 #[.val (.ref a1), .val (.int 1), .val (.int p2)] [(.int 0), (.int p2), (.int 0), (.ref a1)])) _
    refine XS.ishr X4.here hx rfl (hb hby d18_41) rfl ?_
    refine XS.i2b X4.here hx rfl (hb hby d18_42) rfl ?_
    refine st8 _ ?_
    refine XS.aloadN X8.here hx rfl (hb hby d18_44) rfl rfl ?_
    refine XS.iloadN X8.here hx rfl (hb hby d18_45) rfl ?_
    refine XS.iloadN X8.here hx rfl (hb hby d18_46) rfl ?_
    refine st9 _ ?_
    refine XS.ishr X9.here hx rfl (hb hby d18_50) rfl ?_
    refine XS.i2b X9.here hx rfl (hb hby d18_51) rfl ?_
    refine st12 _ ?_
    exact X12.returnOut hx hret (hb hby d18_53) hr
theorem ef_93e316 (a1 : Addr) (p2 : Int32) (m : MethodId) : entryFrame m #[(.ref a1), (.int 1), (.int p2)] 3 = mkF m 0 #[.val (.ref a1), .val (.int 1), .val (.int p2)] [] := by first | (simp [entryFrame, mkF, argsToLocals, Value.category]; done) | rfl
-- java/lang/StringUTF16.putChar([BII)V
abbrev Rm27 : Room := { frames := 0, cells := 0, slots := 0, locals := 0 }
def Q27 (Z : State) (a1 : Addr) (p2 : Int32) (p5 : Int32) (p6 : Int32) (k7 : ClassId) (h0 : Heap) (n0 : Nat) (v : Option Value) (h : Heap) (L : List Loc) : Prop := v = none ∧ Fr n0 L ∧ Keep h0 h [a1] ∧ Exa Z h a1 "[B" ∧ Arv Z h a1 k7 .byte (4 : Int32) [(.int p5), (.int p6), (.int (nar .byte ((p2 >>> ((0 : Int32) &&& 31)).toInt8.toInt32))), (.int (nar .byte ((p2 >>> ((8 : Int32) &&& 31)).toInt8.toInt32)))] (.int 0)
-- ef_93e316
theorem rm27 (l : Launch) (Z : State) (a0 : Array Value) (hw : ∀ d ∈ tables_1, d.before a0 Z = true) (ws : List Jvm.Cond) (a1 : Addr) (p2 : Int32) (p5 : Int32) (p6 : Int32) (k7 : ClassId) (h0 : Heap) (n0 : Nat) (Z0 : n0 ≤ h0.size) (S__assertionsDisabled : Sta Z Z.heap "java/lang/StringUTF16" "$assertionsDisabled" "Z" (.int 1)) (Od0 : Old Z n0 h0) (S_HI_BYTE_SHIFT : Sta Z Z.heap "java/lang/StringUTF16" "HI_BYTE_SHIFT" "I" (.int 0)) (V_a1 : Arv Z h0 a1 k7 .byte (4 : Int32) [(.int p5), (.int p6), (.int 0), (.int 0)] (.int 0)) (g_a1 : n0 ≤ a1) (S_LO_BYTE_SHIFT : Sta Z Z.heap "java/lang/StringUTF16" "LO_BYTE_SHIFT" "I" (.int 8)) (E_a1 : Exa Z h0 a1 "[B") :
    OwnMet l Z y_3 jdk_52_method_4_code 3 none ws Rm27 #[(.ref a1), (.int 1), (.int p2)] h0 (Q27 Z a1 p2 p5 p6 k7 h0 n0) := by
  refine own_body (plainFor_of_name pn_0) (ef_93e316 a1 p2) ?_
  intro p e s m below meth c s₁ hx hby hml hown hnm hret hZ X0 e0
  have N0 := Fr.nil n0
  obtain ⟨T3, X3, e3, st3⟩ := getS2 X0 hx hZ hown (host := "") (Or.inl (w_80 hw)) Via.refl e0 (S__assertionsDisabled.ext Od0.2) (g := (mkF m 0 #[.val (.ref a1), .val (.int 1), .val (.int p2)] [])) rfl (hb hby d18_0)
  obtain ⟨T4, X4, e4, st4⟩ := getS2 X3 hx hZ hown (host := "") (Or.inl (w_81 hw)) Via.refl e3 (S_HI_BYTE_SHIFT.ext Od0.2) (g := (mkF m 38 #[.val (.ref a1), .val (.int 3), .val (.int p2)] [(.int p2), (.int 2), (.ref a1)])) rfl (hb hby d18_38)
  obtain ⟨cl8, Ar8, q8, S8, M8, Hs8, G8⟩ := id V_a1
  have hin9 : ¬ ((2 : Int32) < 0 ∨ cl8.slots.size ≤ ((2 : Int32)).toNatClampNeg) := inb_of S8 ⟨(by decide : ¬ ((2 : Int32) < (0 : Int32))), (by decide : (2 : Int32) < (4 : Int32))⟩
  obtain ⟨T10, h10, X10, e10, W10, st10⟩ := stB X4 hx hZ e4 Ar8 (j := (2 : Int32)) hin9 (g := (mkF m 43 #[.val (.ref a1), .val (.int 3), .val (.int p2)] [(.int ((p2 >>> ((0 : Int32) &&& 31)).toInt8.toInt32)), (.int 2), (.ref a1)])) rfl rfl (hb hby d18_43)
  have s0 := (Keep.of_wr W10).1
  have N10 := Fr.snoc X10 N0 g_a1
  have Vs10 : Arv Z h10 a1 k7 .byte (4 : Int32) [(.int p5), (.int p6), (.int (nar .byte ((p2 >>> ((0 : Int32) &&& 31)).toInt8.toInt32))), (.int 0)] (.int 0) := Arv.set Ar8 q8 S8 M8 Hs8 G8 (fits_nar_byte _) W10 2 rfl (Nat.le_of_ble_eq_true rfl)
  have Od1 : Old Z n0 h10 := Od0.wr W10 g_a1
  obtain ⟨T11, X11, e11, st11⟩ := getS2 X10 hx hZ hown (host := "") (Or.inl (w_82 hw)) Via.refl e10 (S_LO_BYTE_SHIFT.ext Od1.2) (g := (mkF m 47 #[.val (.ref a1), .val (.int 3), .val (.int p2)] [(.int p2), (.int 3), (.ref a1)])) rfl (hb hby d18_47)
  obtain ⟨cl12, Ar12, q12, S12, M12, Hs12, G12⟩ := id Vs10
  have hin13 : ¬ ((3 : Int32) < 0 ∨ cl12.slots.size ≤ ((3 : Int32)).toNatClampNeg) := inb_of S12 ⟨(by decide : ¬ ((3 : Int32) < (0 : Int32))), (by decide : (3 : Int32) < (4 : Int32))⟩
  obtain ⟨T14, h14, X14, e14, W14, st14⟩ := stB X11 hx hZ e11 Ar12 (j := (3 : Int32)) hin13 (g := (mkF m 52 #[.val (.ref a1), .val (.int 3), .val (.int p2)] [(.int ((p2 >>> ((8 : Int32) &&& 31)).toInt8.toInt32)), (.int 3), (.ref a1)])) rfl rfl (hb hby d18_52)
  have s1 := (Keep.of_wr W14).1
  have N14 := Fr.snoc X14 N10 g_a1
  have Vs14 : Arv Z h14 a1 k7 .byte (4 : Int32) [(.int p5), (.int p6), (.int (nar .byte ((p2 >>> ((0 : Int32) &&& 31)).toInt8.toInt32))), (.int (nar .byte ((p2 >>> ((8 : Int32) &&& 31)).toInt8.toInt32)))] (.int 0) := Arv.set Ar12 q12 S12 M12 Hs12 G12 (fits_nar_byte _) W14 3 rfl (Nat.le_of_ble_eq_true rfl)
  have Ex15 := ((E_a1.wr W10).wr W14)
  have Kp0 : Keep h0 h10 [a1] := (Keep.refl h0 [a1]).wr W10 (Or.inl (List.mem_of_getElem? (i := 0) rfl))
  have Kp1 : Keep h0 h14 [a1] := Kp0.wr W14 (Or.inl (List.mem_of_getElem? (i := 0) rfl))
  refine ⟨T14, _, _, _, none, X14, (fun _ => rfl), by decide, by decide, ?_, fun fs hr => ?_⟩
  · rw [e14]
    exact ⟨rfl, N14, Kp1, Ex15, Vs14⟩
  · refine st3 _ ?_
    refine XS.ifYes X3.here hx rfl (pc0 := 3) (pc' := 28) rfl (hb hby d18_3) rfl ((if0 _ _).trans (feq ((by decide : ¬ ((1 : Int32) = (0 : Int32))) : ¬ ((1 : Int32) = (0 : Int32)))).2) (by decide) (by decide) ?_
    refine XS.iloadN X3.here hx rfl (hb hby d18_28) rfl ?_
    refine XS.iconst X3.here hx rfl (hb hby d18_29) ?_
    refine XS.ishl X3.here hx rfl (hb hby d18_30) rfl ?_
    refine XS.istoreN X3.here hx rfl (hb hby d18_31) rfl (l' := #[.val (.ref a1), .val (.int 2), .val (.int p2)]) rfl ?_
    refine XS.aloadN X3.here hx rfl (hb hby d18_32) rfl rfl ?_
    refine XS.iloadN X3.here hx rfl (hb hby d18_33) rfl ?_
    refine XS.iinc X3.here hx rfl (hb hby d18_34) rfl (l' := #[.val (.ref a1), .val (.int 3), .val (.int p2)]) rfl ?_
    refine XS.iloadN X3.here hx rfl (hb hby d18_37) rfl ?_
    refine st4 _ ?_
    show Steps p.tables e below (T4.setTop (mkF m 41 #[.val (.ref a1), .val (.int 3), .val (.int p2)] [(.int 0), (.int p2), (.int 2), (.ref a1)])) _
    refine XS.ishr X4.here hx rfl (hb hby d18_41) rfl ?_
    refine XS.i2b X4.here hx rfl (hb hby d18_42) rfl ?_
    refine st10 _ ?_
    refine XS.aloadN X10.here hx rfl (hb hby d18_44) rfl rfl ?_
    refine XS.iloadN X10.here hx rfl (hb hby d18_45) rfl ?_
    refine XS.iloadN X10.here hx rfl (hb hby d18_46) rfl ?_
    refine st11 _ ?_
    refine XS.ishr X11.here hx rfl (hb hby d18_50) rfl ?_
    refine XS.i2b X11.here hx rfl (hb hby d18_51) rfl ?_
    refine st14 _ ?_
    exact X14.returnOut hx hret (hb hby d18_53) hr
theorem ef_e494bf (a1 : Addr) (m : MethodId) : entryFrame m #[(.ref a1), (.int 0), (.int 2)] 5 = mkF m 0 #[.val (.ref a1), .val (.int 0), .val (.int 2), .unset, .unset] [] := by first | (simp [entryFrame, mkF, argsToLocals, Value.category]; done) | rfl
-- java/lang/StringUTF16.toBytes([CII)[B
abbrev Rm28 : Room := { frames := 2, cells := 1, slots := 4, locals := 24 }
def Q28 (Z : State) (a1 : Addr) (p3 : Int32) (p4 : Int32) (k5 : ClassId) (h0 : Heap) (n0 : Nat) (v : Option Value) (h : Heap) (L : List Loc) : Prop := ∃ b2_b2 : Addr, ∃ k2_k2 : ClassId, v = some (.ref b2_b2) ∧ Fr n0 L ∧ Keep h0 h [] ∧ h0.size ≤ b2_b2 ∧ Exa Z h b2_b2 "[B" ∧ Arv Z h b2_b2 k2_k2 .byte (4 : Int32) [(.int (nar .byte ((p3 >>> ((0 : Int32) &&& 31)).toInt8.toInt32))), (.int (nar .byte ((p3 >>> ((8 : Int32) &&& 31)).toInt8.toInt32))), (.int (nar .byte ((p4 >>> ((0 : Int32) &&& 31)).toInt8.toInt32))), (.int (nar .byte ((p4 >>> ((8 : Int32) &&& 31)).toInt8.toInt32)))] (.int 0)
-- ef_e494bf
theorem rm28 (l : Launch) (Z : State) (a0 : Array Value) (hw : ∀ d ∈ tables_1, d.before a0 Z = true) (ws : List Jvm.Cond) (a1 : Addr) (p3 : Int32) (p4 : Int32) (k5 : ClassId) (h0 : Heap) (n0 : Nat) (Z0 : n0 ≤ h0.size) (V_a1 : Arv Z h0 a1 k5 .char (2 : Int32) [(.int p3), (.int p4)] (.int 0)) (S__assertionsDisabled : Sta Z Z.heap "java/lang/StringUTF16" "$assertionsDisabled" "Z" (.int 1)) (Od0 : Old Z n0 h0) (S_HI_BYTE_SHIFT : Sta Z Z.heap "java/lang/StringUTF16" "HI_BYTE_SHIFT" "I" (.int 0)) (S_LO_BYTE_SHIFT : Sta Z Z.heap "java/lang/StringUTF16" "LO_BYTE_SHIFT" "I" (.int 8)) :
    OwnMet l Z y_4 jdk_52_method_14_code 5 (some (.array .byte)) ws Rm28 #[(.ref a1), (.int 0), (.int 2)] h0 (Q28 Z a1 p3 p4 k5 h0 n0) := by
  refine own_body (plainFor_of_name pn_0) (ef_e494bf a1) ?_
  intro p e s m below meth c s₁ hx hby hml hown hnm hret hZ X0 e0
  have N0 := Fr.nil n0
  obtain ⟨_, T2, L2, X2, hQ2, st2⟩ := own_callS X0 hx hZ hown (y := y_2) (w_70 hw) (w_71 hw) (w_18 hw) (w_72 hw) (rm25 l Z a0 hw []  h0 n0 Z0) e0 (Ls := #[.val (.ref a1), .val (.int 0), .val (.int 2), .unset, .unset]) (by rw [hml]; rfl) (argsL := [(.int 2)]) (rest := []) (lenOf pd_2 rfl) (hb hby d15_1) (W := 0)
  obtain ⟨b2_b2, k2_k2, rfl, Nq2, K2, o2_0, o2_1, o2_2⟩ := hQ2
  have N2 := Fr.app N0 Nq2
  have s0 := K2.1
  have Va6 := (V_a1.keep K2 nin0)
  obtain ⟨cl7, Ar7, q7, S7, M7, Hs7, G7⟩ := id Va6
  have hin8 : ¬ ((0 : Int32) < 0 ∨ cl7.slots.size ≤ ((0 : Int32)).toNatClampNeg) := inb_of S7 ⟨(by decide : ¬ ((0 : Int32) < (0 : Int32))), (by decide : (0 : Int32) < (2 : Int32))⟩
  have Od1 : Old Z n0 T2.heap := Od0.keep K2 all0
  have g_b2_b2 : n0 ≤ b2_b2 := Nat.le_trans Z0 o2_0
  have z1 := Nat.le_trans Z0 s0
  obtain ⟨_, T9, L9, X9, hQ9, st9⟩ := own_callS X2 hx hZ hown (y := y_3) (w_77 hw) (w_78 hw) (w_18 hw) (w_79 hw) (rm26 l Z a0 hw [] b2_b2 p3 k2_k2 T2.heap n0 z1 S__assertionsDisabled Od1 S_HI_BYTE_SHIFT o2_2 g_b2_b2 S_LO_BYTE_SHIFT o2_1) rfl (Ls := #[.val (.ref a1), .val (.int 0), .val (.int 2), .val (.ref b2_b2), .val (.int 0)]) (by rw [hml]; rfl) (argsL := [(.ref b2_b2), (.int 0), (.int p3)]) (rest := []) (lenOf pd_3 rfl) (hb hby d15_20) (W := 0)
  obtain ⟨rfl, Nq9, K9, o9_0, o9_1⟩ := hQ9
  have N9 := Fr.app N2 Nq9
  have s1 := K9.1
  have ne_a1_b2_b2 := Nat.ne_of_lt (Nat.lt_of_lt_of_le V_a1.lt o2_0)
  have Va10 := (Va6.keep K9 (ninS ne_a1_b2_b2 nin0))
  obtain ⟨cl11, Ar11, q11, S11, M11, Hs11, G11⟩ := id Va10
  have hin12 : ¬ ((1 : Int32) < 0 ∨ cl11.slots.size ≤ ((1 : Int32)).toNatClampNeg) := inb_of S11 ⟨(by decide : ¬ ((1 : Int32) < (0 : Int32))), (by decide : (1 : Int32) < (2 : Int32))⟩
  have Od2 : Old Z n0 T9.heap := Od1.keep K9 (allS g_b2_b2 all0)
  have z2 := Nat.le_trans Z0 (Nat.le_trans s0 s1)
  obtain ⟨_, T13, L13, X13, hQ13, st13⟩ := own_callS X9 hx hZ hown (y := y_3) (w_77 hw) (w_78 hw) (w_18 hw) (w_79 hw) (rm27 l Z a0 hw [] b2_b2 p4 (nar .byte ((p3 >>> ((0 : Int32) &&& 31)).toInt8.toInt32)) (nar .byte ((p3 >>> ((8 : Int32) &&& 31)).toInt8.toInt32)) k2_k2 T9.heap n0 z2 S__assertionsDisabled Od2 S_HI_BYTE_SHIFT o9_1 g_b2_b2 S_LO_BYTE_SHIFT o9_0) rfl (Ls := #[.val (.ref a1), .val (.int 1), .val (.int 2), .val (.ref b2_b2), .val (.int 1)]) (by rw [hml]; rfl) (argsL := [(.ref b2_b2), (.int 1), (.int p4)]) (rest := []) (lenOf pd_3 rfl) (hb hby d15_20) (W := 0)
  obtain ⟨rfl, Nq13, K13, o13_0, o13_1⟩ := hQ13
  have N13 := Fr.app N9 Nq13
  have s2 := K13.1
  have sz_b2_b2 : h0.size ≤ b2_b2 := o2_0
  have Kp0 : Keep h0 T2.heap [] := (Keep.refl h0 []).trans K2 all0
  have Kp1 : Keep h0 T9.heap [] := Kp0.trans K9 (allS (Or.inr sz_b2_b2) all0)
  have Kp2 : Keep h0 T13.heap [] := Kp1.trans K13 (allS (Or.inr sz_b2_b2) all0)
  refine ⟨T13, _, _, _, (some (.ref b2_b2)), X13, nofun, by decide, by decide, ?_, fun fs hr => ?_⟩
  · exact ⟨b2_b2, k2_k2, rfl, N13, Kp2, sz_b2_b2, o13_0, o13_1⟩
  · refine XS.iloadN X0.here hx rfl (hb hby d15_0) rfl ?_
    refine st2 _ ?_
    refine XS.astoreN X2.here hx rfl (hb hby d15_4) rfl rfl (l' := #[.val (.ref a1), .val (.int 0), .val (.int 2), .val (.ref b2_b2), .unset]) rfl ?_
    refine XS.iconst X2.here hx rfl (hb hby d15_5) ?_
    refine XS.istore X2.here hx rfl (hb hby d15_6) rfl (l' := #[.val (.ref a1), .val (.int 0), .val (.int 2), .val (.ref b2_b2), .val (.int 0)]) rfl ?_
    refine XS.iload X2.here hx rfl (hb hby d15_8) rfl ?_
    refine XS.iloadN X2.here hx rfl (hb hby d15_10) rfl ?_
    refine XS.icmpNo X2.here hx rfl (hb hby d15_11) rfl (tlt ((by decide : (0 : Int32) < (2 : Int32)) : (0 : Int32) < (2 : Int32))).2.1 ?_
    refine XS.aloadN X2.here hx rfl (hb hby d15_14) rfl rfl ?_
    refine XS.iload X2.here hx rfl (hb hby d15_15) rfl ?_
    refine XS.aloadN X2.here hx rfl (hb hby d15_17) rfl rfl ?_
    show Steps p.tables e below (T2.setTop (mkF m 18 #[.val (.ref a1), .val (.int 0), .val (.int 2), .val (.ref b2_b2), .val (.int 0)] [(.ref a1), (.int 0), (.ref b2_b2)])) _
    refine XS.iloadN X2.here hx rfl (hb hby d15_18) rfl ?_
    refine X2.caload hx (j := (0 : Int32)) (v := (.int p3)) (Ar7.1) (State.isArrayOf_alike hZ.alike Ar7.2.1) Ar7.2.2 hin8 (Has.at Hs7 hin8 rfl) (g := (mkF m 19 #[.val (.ref a1), .val (.int 0), .val (.int 2), .val (.ref b2_b2), .val (.int 0)] [(.int 0), (.ref a1), (.int 0), (.ref b2_b2)])) rfl rfl (hb hby d15_19) _ ?_
    refine st9 _ ?_
    refine XS.iinc X9.here hx rfl (hb hby d15_23) rfl (l' := #[.val (.ref a1), .val (.int 1), .val (.int 2), .val (.ref b2_b2), .val (.int 0)]) rfl ?_
    refine XS.iinc X9.here hx rfl (hb hby d15_26) rfl (l' := #[.val (.ref a1), .val (.int 1), .val (.int 2), .val (.ref b2_b2), .val (.int 1)]) rfl ?_
    refine XS.goto X9.here hx rfl (pc0 := 29) (pc' := 8) rfl (hb hby d15_29) (by decide) (by decide) ?_
    refine XS.iload X9.here hx rfl (hb hby d15_8) rfl ?_
    refine XS.iloadN X9.here hx rfl (hb hby d15_10) rfl ?_
    refine XS.icmpNo X9.here hx rfl (hb hby d15_11) rfl (tlt ((by decide : (1 : Int32) < (2 : Int32)) : (1 : Int32) < (2 : Int32))).2.1 ?_
    refine XS.aloadN X9.here hx rfl (hb hby d15_14) rfl rfl ?_
    refine XS.iload X9.here hx rfl (hb hby d15_15) rfl ?_
    refine XS.aloadN X9.here hx rfl (hb hby d15_17) rfl rfl ?_
    show Steps p.tables e below (T9.setTop (mkF m 18 #[.val (.ref a1), .val (.int 1), .val (.int 2), .val (.ref b2_b2), .val (.int 1)] [(.ref a1), (.int 1), (.ref b2_b2)])) _
    refine XS.iloadN X9.here hx rfl (hb hby d15_18) rfl ?_
    refine X9.caload hx (j := (1 : Int32)) (v := (.int p4)) (Ar11.1) (State.isArrayOf_alike hZ.alike Ar11.2.1) Ar11.2.2 hin12 (Has.at Hs11 hin12 rfl) (g := (mkF m 19 #[.val (.ref a1), .val (.int 1), .val (.int 2), .val (.ref b2_b2), .val (.int 1)] [(.int 1), (.ref a1), (.int 1), (.ref b2_b2)])) rfl rfl (hb hby d15_19) _ ?_
    refine st13 _ ?_
    refine XS.iinc X13.here hx rfl (hb hby d15_23) rfl (l' := #[.val (.ref a1), .val (.int 2), .val (.int 2), .val (.ref b2_b2), .val (.int 1)]) rfl ?_
    refine XS.iinc X13.here hx rfl (hb hby d15_26) rfl (l' := #[.val (.ref a1), .val (.int 2), .val (.int 2), .val (.ref b2_b2), .val (.int 2)]) rfl ?_
    refine XS.goto X13.here hx rfl (pc0 := 29) (pc' := 8) rfl (hb hby d15_29) (by decide) (by decide) ?_
    refine XS.iload X13.here hx rfl (hb hby d15_8) rfl ?_
    refine XS.iloadN X13.here hx rfl (hb hby d15_10) rfl ?_
    refine XS.icmpYes X13.here hx rfl (pc0 := 11) (pc' := 32) rfl (hb hby d15_11) rfl (flt ((by decide : ¬ ((2 : Int32) < (2 : Int32))) : ¬ ((2 : Int32) < (2 : Int32)))).2.1 (by decide) (by decide) ?_
    refine XS.aloadN X13.here hx rfl (hb hby d15_32) rfl rfl ?_
    exact retOut X13 hx hret rfl (Or.inr (Or.inr (Or.inr (Or.inr ⟨rfl, rfl, rfl⟩)))) (hb hby d15_33) hr
-- java/lang/StringUTF16.getChar([BI)C
abbrev Rm29 : Room := { frames := 0, cells := 0, slots := 0, locals := 0 }
def Q29 (Z : State) (a1 : Addr) (p3 : Int32) (p4 : Int32) (p5 : Int32) (p6 : Int32) (k7 : ClassId) (h0 : Heap) (n0 : Nat) (v : Option Value) (h : Heap) (L : List Loc) : Prop := v = some (.int (nar .char ((((p3 &&& (255 : Int32)) <<< ((0 : Int32) &&& 31)) ||| ((p4 &&& (255 : Int32)) <<< ((8 : Int32) &&& 31))).toUInt32.toUInt16.toUInt32.toInt32))) ∧ Fr n0 L ∧ h = h0
-- ef_ed7d6e
theorem rm29 (l : Launch) (Z : State) (a0 : Array Value) (hw : ∀ d ∈ tables_1, d.before a0 Z = true) (ws : List Jvm.Cond) (a1 : Addr) (p3 : Int32) (p4 : Int32) (p5 : Int32) (p6 : Int32) (k7 : ClassId) (h0 : Heap) (n0 : Nat) (Z0 : n0 ≤ h0.size) (S__assertionsDisabled : Sta Z Z.heap "java/lang/StringUTF16" "$assertionsDisabled" "Z" (.int 1)) (Od0 : Old Z n0 h0) (V_a1 : Arv Z h0 a1 k7 .byte (4 : Int32) [(.int p3), (.int p4), (.int p5), (.int p6)] (.int 0)) (S_HI_BYTE_SHIFT : Sta Z Z.heap "java/lang/StringUTF16" "HI_BYTE_SHIFT" "I" (.int 0)) (S_LO_BYTE_SHIFT : Sta Z Z.heap "java/lang/StringUTF16" "LO_BYTE_SHIFT" "I" (.int 8)) :
    OwnMet l Z y_5 jdk_52_method_5_code 2 (some .char) ws Rm29 #[(.ref a1), (.int 0)] h0 (Q29 Z a1 p3 p4 p5 p6 k7 h0 n0) := by
  refine own_body (plainFor_of_name pn_0) (ef_ed7d6e a1) ?_
  intro p e s m below meth c s₁ hx hby hml hown hnm hret hZ X0 e0
  have N0 := Fr.nil n0
  obtain ⟨T2, X2, e2, st2⟩ := getS2 X0 hx hZ hown (host := "") (Or.inl (w_80 hw)) Via.refl e0 (S__assertionsDisabled.ext Od0.2) (g := (mkF m 0 #[.val (.ref a1), .val (.int 0)] [])) rfl (hb hby d19_0)
  obtain ⟨cl8, Ar8, q8, S8, M8, Hs8, G8⟩ := id V_a1
  have hin9 : ¬ ((0 : Int32) < 0 ∨ cl8.slots.size ≤ ((0 : Int32)).toNatClampNeg) := inb_of S8 ⟨(by decide : ¬ ((0 : Int32) < (0 : Int32))), (by decide : (0 : Int32) < (4 : Int32))⟩
  obtain ⟨T10, X10, e10, st10⟩ := getS2 X2 hx hZ hown (host := "") (Or.inl (w_81 hw)) Via.refl e2 (S_HI_BYTE_SHIFT.ext Od0.2) (g := (mkF m 42 #[.val (.ref a1), .val (.int 1)] [(.int (p3 &&& (255 : Int32)))])) rfl (hb hby d19_42)
  have hin11 : ¬ ((1 : Int32) < 0 ∨ cl8.slots.size ≤ ((1 : Int32)).toNatClampNeg) := inb_of S8 ⟨(by decide : ¬ ((1 : Int32) < (0 : Int32))), (by decide : (1 : Int32) < (4 : Int32))⟩
  obtain ⟨T12, X12, e12, st12⟩ := getS2 X10 hx hZ hown (host := "") (Or.inl (w_82 hw)) Via.refl e10 (S_LO_BYTE_SHIFT.ext Od0.2) (g := (mkF m 53 #[.val (.ref a1), .val (.int 1)] [(.int (p4 &&& (255 : Int32))), (.int ((p3 &&& (255 : Int32)) <<< ((0 : Int32) &&& 31)))])) rfl (hb hby d19_53)
  refine ⟨T12, _, _, _, (some (.int (nar .char ((((p3 &&& (255 : Int32)) <<< ((0 : Int32) &&& 31)) ||| ((p4 &&& (255 : Int32)) <<< ((8 : Int32) &&& 31))).toUInt32.toUInt16.toUInt32.toInt32)))), X12, nofun, by decide, by decide, ?_, fun fs hr => ?_⟩
  · rw [e12]
    exact ⟨rfl, N0, rfl⟩
  · refine st2 _ ?_
    refine XS.ifYes X2.here hx rfl (pc0 := 3) (pc' := 28) rfl (hb hby d19_3) rfl ((if0 _ _).trans (feq ((by decide : ¬ ((1 : Int32) = (0 : Int32))) : ¬ ((1 : Int32) = (0 : Int32)))).2) (by decide) (by decide) ?_
    refine XS.iloadN X2.here hx rfl (hb hby d19_28) rfl ?_
    refine XS.iconst X2.here hx rfl (hb hby d19_29) ?_
    refine XS.ishl X2.here hx rfl (hb hby d19_30) rfl ?_
    refine XS.istoreN X2.here hx rfl (hb hby d19_31) rfl (l' := #[.val (.ref a1), .val (.int 0)]) rfl ?_
    refine XS.aloadN X2.here hx rfl (hb hby d19_32) rfl rfl ?_
    refine XS.iloadN X2.here hx rfl (hb hby d19_33) rfl ?_
    refine XS.iinc X2.here hx rfl (hb hby d19_34) rfl (l' := #[.val (.ref a1), .val (.int 1)]) rfl ?_
    refine X2.baloadBytes hx (j := (0 : Int32)) (v := (.int p3)) (by rw [e2]; exact Ar8.1) (State.isArrayOf_alike hZ.alike Ar8.2.1) Ar8.2.2 hin9 (Has.at Hs8 hin9 rfl) (g := (mkF m 37 #[.val (.ref a1), .val (.int 1)] [(.int 0), (.ref a1)])) rfl rfl (hb hby d19_37) _ ?_
    refine XS.sipush X2.here hx rfl (hb hby d19_38) ?_
    show Steps p.tables e below (T2.setTop (mkF m 41 #[.val (.ref a1), .val (.int 1)] [(.int 255), (.int p3)])) _
    refine XS.iand X2.here hx rfl (hb hby d19_41) rfl ?_
    refine st10 _ ?_
    refine XS.ishl X10.here hx rfl (hb hby d19_45) rfl ?_
    refine XS.aloadN X10.here hx rfl (hb hby d19_46) rfl rfl ?_
    refine XS.iloadN X10.here hx rfl (hb hby d19_47) rfl ?_
    refine X10.baloadBytes hx (j := (1 : Int32)) (v := (.int p4)) (by rw [e10]; exact Ar8.1) (State.isArrayOf_alike hZ.alike Ar8.2.1) Ar8.2.2 hin11 (Has.at Hs8 hin11 rfl) (g := (mkF m 48 #[.val (.ref a1), .val (.int 1)] [(.int 1), (.ref a1), (.int ((p3 &&& (255 : Int32)) <<< ((0 : Int32) &&& 31)))])) rfl rfl (hb hby d19_48) _ ?_
    refine XS.sipush X10.here hx rfl (hb hby d19_49) ?_
    refine XS.iand X10.here hx rfl (hb hby d19_52) rfl ?_
    refine st12 _ ?_
    refine XS.ishl X12.here hx rfl (hb hby d19_56) rfl ?_
    refine XS.ior X12.here hx rfl (hb hby d19_57) rfl ?_
    refine XS.i2c X12.here hx rfl (hb hby d19_58) rfl ?_
    show Steps p.tables e below (T12.setTop (mkF m 59 #[.val (.ref a1), .val (.int 1)] [(.int ((((p3 &&& (255 : Int32)) <<< ((0 : Int32) &&& 31)) ||| ((p4 &&& (255 : Int32)) <<< ((8 : Int32) &&& 31))).toUInt32.toUInt16.toUInt32.toInt32))])) _
    exact retN X12 hx (t := .char) hret (by simp) (hb hby d19_59) hr
-- java/lang/StringUTF16.compress([CI[BII)I
abbrev Rm30 : Room := { frames := 0, cells := 0, slots := 0, locals := 0 }
def Q30 (Z : State) (a1 : Addr) (a2 : Addr) (p3 : Int32) (p4 : Int32) (k5 : ClassId) (k9 : ClassId) (h0 : Heap) (n0 : Nat) (v : Option Value) (h : Heap) (L : List Loc) : Prop := v = some (.int 1) ∧ Fr n0 L ∧ Keep h0 h [a2] ∧ Exa Z h a2 "[B" ∧ Arv Z h a2 k9 .byte (2 : Int32) [(.int (nar .byte (p3.toInt8.toInt32))), (.int 0)] (.int 0)
-- ef_28bd7f
theorem rm30 (l : Launch) (Z : State) (a0 : Array Value) (hw : ∀ d ∈ tables_1, d.before a0 Z = true) (ws : List Jvm.Cond) (a1 : Addr) (a2 : Addr) (p3 : Int32) (p4 : Int32) (k5 : ClassId) (k9 : ClassId) (h0 : Heap) (n0 : Nat) (Z0 : n0 ≤ h0.size) (V_a1 : Arv Z h0 a1 k5 .char (2 : Int32) [(.int p3), (.int p4)] (.int 0)) (c8 : ¬ ((255 : Int32) < p3)) (V_a2 : Arv Z h0 a2 k9 .byte (2 : Int32) [(.int 0), (.int 0)] (.int 0)) (g_a2 : n0 ≤ a2) (ne_a1_a2 : a1 ≠ a2) (c16 : (255 : Int32) < p4) (E_a2 : Exa Z h0 a2 "[B") :
    OwnMet l Z y_0 jdk_52_method_21_code 7 (some .int) ws Rm30 #[(.ref a1), (.int 0), (.ref a2), (.int 0), (.int 2)] h0 (Q30 Z a1 a2 p3 p4 k5 k9 h0 n0) := by
  refine own_body (plainFor_of_name pn_0) (ef_28bd7f a1 a2) ?_
  intro p e s m below meth c s₁ hx hby hml hown hnm hret hZ X0 e0
  have N0 := Fr.nil n0
  obtain ⟨cl6, Ar6, q6, S6, M6, Hs6, G6⟩ := id V_a1
  have hin7 : ¬ ((0 : Int32) < 0 ∨ cl6.slots.size ≤ ((0 : Int32)).toNatClampNeg) := inb_of S6 ⟨(by decide : ¬ ((0 : Int32) < (0 : Int32))), (by decide : (0 : Int32) < (2 : Int32))⟩
  obtain ⟨cl10, Ar10, q10, S10, M10, Hs10, G10⟩ := id V_a2
  have hin11 : ¬ ((0 : Int32) < 0 ∨ cl10.slots.size ≤ ((0 : Int32)).toNatClampNeg) := inb_of S10 ⟨(by decide : ¬ ((0 : Int32) < (0 : Int32))), (by decide : (0 : Int32) < (2 : Int32))⟩
  obtain ⟨T12, h12, X12, e12, W12, st12⟩ := stB X0 hx hZ e0 Ar10 (j := (0 : Int32)) hin11 (g := (mkF m 31 #[.val (.ref a1), .val (.int 0), .val (.ref a2), .val (.int 0), .val (.int 2), .val (.int 0), .val (.int p3)] [(.int (p3.toInt8.toInt32)), (.int 0), (.ref a2)])) rfl rfl (hb hby d5_31)
  have s0 := (Keep.of_wr W12).1
  have N12 := Fr.snoc X12 N0 g_a2
  have Vs12 : Arv Z h12 a2 k9 .byte (2 : Int32) [(.int (nar .byte (p3.toInt8.toInt32))), (.int 0)] (.int 0) := Arv.set Ar10 q10 S10 M10 Hs10 G10 (fits_nar_byte _) W12 0 rfl (Nat.le_of_ble_eq_true rfl)
  have Va13 := (V_a1.other W12 ne_a1_a2)
  obtain ⟨cl14, Ar14, q14, S14, M14, Hs14, G14⟩ := id Va13
  have hin15 : ¬ ((1 : Int32) < 0 ∨ cl14.slots.size ≤ ((1 : Int32)).toNatClampNeg) := inb_of S14 ⟨(by decide : ¬ ((1 : Int32) < (0 : Int32))), (by decide : (1 : Int32) < (2 : Int32))⟩
  have Ex17 := (E_a2.wr W12)
  have Kp0 : Keep h0 h12 [a2] := (Keep.refl h0 [a2]).wr W12 (Or.inl (List.mem_of_getElem? (i := 0) rfl))
  refine ⟨T12, _, _, _, (some (.int 1)), X12, nofun, by decide, by decide, ?_, fun fs hr => ?_⟩
  · rw [e12]
    exact ⟨rfl, N12, Kp0, Ex17, Vs12⟩
  · refine XS.iconst X0.here hx rfl (hb hby d5_0) ?_
    refine XS.istore X0.here hx rfl (hb hby d5_1) rfl (l' := #[.val (.ref a1), .val (.int 0), .val (.ref a2), .val (.int 0), .val (.int 2), .val (.int 0), .unset]) rfl ?_
    refine XS.iload X0.here hx rfl (hb hby d5_3) rfl ?_
    refine XS.iload X0.here hx rfl (hb hby d5_5) rfl ?_
    refine XS.icmpNo X0.here hx rfl (hb hby d5_7) rfl (tlt ((by decide : (0 : Int32) < (2 : Int32)) : (0 : Int32) < (2 : Int32))).2.1 ?_
    refine XS.aloadN X0.here hx rfl (hb hby d5_10) rfl rfl ?_
    refine XS.iloadN X0.here hx rfl (hb hby d5_11) rfl ?_
    refine X0.caload hx (j := (0 : Int32)) (v := (.int p3)) (by rw [e0]; exact Ar6.1) (State.isArrayOf_alike hZ.alike Ar6.2.1) Ar6.2.2 hin7 (Has.at Hs6 hin7 rfl) (g := (mkF m 12 #[.val (.ref a1), .val (.int 0), .val (.ref a2), .val (.int 0), .val (.int 2), .val (.int 0), .unset] [(.int 0), (.ref a1)])) rfl rfl (hb hby d5_12) _ ?_
    refine XS.istore X0.here hx rfl (hb hby d5_13) rfl (l' := #[.val (.ref a1), .val (.int 0), .val (.ref a2), .val (.int 0), .val (.int 2), .val (.int 0), .val (.int p3)]) rfl ?_
    refine XS.iload X0.here hx rfl (hb hby d5_15) rfl ?_
    refine XS.sipush X0.here hx rfl (hb hby d5_17) ?_
    show Steps p.tables e below (s₁.setTop (mkF m 20 #[.val (.ref a1), .val (.int 0), .val (.ref a2), .val (.int 0), .val (.int 2), .val (.int 0), .val (.int p3)] [(.int 255), (.int p3)])) _
    refine XS.icmpYes X0.here hx rfl (pc0 := 20) (pc' := 26) rfl (hb hby d5_20) rfl (flt (c8 : ¬ ((255 : Int32) < p3))).2.2.2 (by decide) (by decide) ?_
    refine XS.aloadN X0.here hx rfl (hb hby d5_26) rfl rfl ?_
    refine XS.iloadN X0.here hx rfl (hb hby d5_27) rfl ?_
    refine XS.iload X0.here hx rfl (hb hby d5_28) rfl ?_
    refine XS.i2b X0.here hx rfl (hb hby d5_30) rfl ?_
    refine st12 _ ?_
    refine XS.iinc X12.here hx rfl (hb hby d5_32) rfl (l' := #[.val (.ref a1), .val (.int 1), .val (.ref a2), .val (.int 0), .val (.int 2), .val (.int 0), .val (.int p3)]) rfl ?_
    refine XS.iinc X12.here hx rfl (hb hby d5_35) rfl (l' := #[.val (.ref a1), .val (.int 1), .val (.ref a2), .val (.int 1), .val (.int 2), .val (.int 0), .val (.int p3)]) rfl ?_
    refine XS.iinc X12.here hx rfl (hb hby d5_38) rfl (l' := #[.val (.ref a1), .val (.int 1), .val (.ref a2), .val (.int 1), .val (.int 2), .val (.int 1), .val (.int p3)]) rfl ?_
    refine XS.goto X12.here hx rfl (pc0 := 41) (pc' := 3) rfl (hb hby d5_41) (by decide) (by decide) ?_
    refine XS.iload X12.here hx rfl (hb hby d5_3) rfl ?_
    refine XS.iload X12.here hx rfl (hb hby d5_5) rfl ?_
    show Steps p.tables e below (T12.setTop (mkF m 7 #[.val (.ref a1), .val (.int 1), .val (.ref a2), .val (.int 1), .val (.int 2), .val (.int 1), .val (.int p3)] [(.int 2), (.int 1)])) _
    refine XS.icmpNo X12.here hx rfl (hb hby d5_7) rfl (tlt ((by decide : (1 : Int32) < (2 : Int32)) : (1 : Int32) < (2 : Int32))).2.1 ?_
    refine XS.aloadN X12.here hx rfl (hb hby d5_10) rfl rfl ?_
    refine XS.iloadN X12.here hx rfl (hb hby d5_11) rfl ?_
    refine X12.caload hx (j := (1 : Int32)) (v := (.int p4)) (by rw [e12]; exact Ar14.1) (State.isArrayOf_alike hZ.alike Ar14.2.1) Ar14.2.2 hin15 (Has.at Hs14 hin15 rfl) (g := (mkF m 12 #[.val (.ref a1), .val (.int 1), .val (.ref a2), .val (.int 1), .val (.int 2), .val (.int 1), .val (.int p3)] [(.int 1), (.ref a1)])) rfl rfl (hb hby d5_12) _ ?_
    refine XS.istore X12.here hx rfl (hb hby d5_13) rfl (l' := #[.val (.ref a1), .val (.int 1), .val (.ref a2), .val (.int 1), .val (.int 2), .val (.int 1), .val (.int p4)]) rfl ?_
    refine XS.iload X12.here hx rfl (hb hby d5_15) rfl ?_
    refine XS.sipush X12.here hx rfl (hb hby d5_17) ?_
    refine XS.icmpNo X12.here hx rfl (hb hby d5_20) rfl (tlt (c16 : (255 : Int32) < p4)).2.2.2 ?_
    refine XS.iload X12.here hx rfl (hb hby d5_23) rfl ?_
    exact retI X12 hx hret (hb hby d5_25) hr
-- java/lang/StringUTF16.getChar([BI)C
abbrev Rm31 : Room := { frames := 0, cells := 0, slots := 0, locals := 0 }
def Q31 (Z : State) (a1 : Addr) (p3 : Int32) (p4 : Int32) (p5 : Int32) (p6 : Int32) (k7 : ClassId) (h0 : Heap) (n0 : Nat) (v : Option Value) (h : Heap) (L : List Loc) : Prop := v = some (.int (nar .char ((((p5 &&& (255 : Int32)) <<< ((0 : Int32) &&& 31)) ||| ((p6 &&& (255 : Int32)) <<< ((8 : Int32) &&& 31))).toUInt32.toUInt16.toUInt32.toInt32))) ∧ Fr n0 L ∧ h = h0
-- ef_218e7d
theorem rm31 (l : Launch) (Z : State) (a0 : Array Value) (hw : ∀ d ∈ tables_1, d.before a0 Z = true) (ws : List Jvm.Cond) (a1 : Addr) (p3 : Int32) (p4 : Int32) (p5 : Int32) (p6 : Int32) (k7 : ClassId) (h0 : Heap) (n0 : Nat) (Z0 : n0 ≤ h0.size) (S__assertionsDisabled : Sta Z Z.heap "java/lang/StringUTF16" "$assertionsDisabled" "Z" (.int 1)) (Od0 : Old Z n0 h0) (V_a1 : Arv Z h0 a1 k7 .byte (4 : Int32) [(.int p3), (.int p4), (.int p5), (.int p6)] (.int 0)) (S_HI_BYTE_SHIFT : Sta Z Z.heap "java/lang/StringUTF16" "HI_BYTE_SHIFT" "I" (.int 0)) (S_LO_BYTE_SHIFT : Sta Z Z.heap "java/lang/StringUTF16" "LO_BYTE_SHIFT" "I" (.int 8)) :
    OwnMet l Z y_5 jdk_52_method_5_code 2 (some .char) ws Rm31 #[(.ref a1), (.int 1)] h0 (Q31 Z a1 p3 p4 p5 p6 k7 h0 n0) := by
  refine own_body (plainFor_of_name pn_0) (ef_218e7d a1) ?_
  intro p e s m below meth c s₁ hx hby hml hown hnm hret hZ X0 e0
  have N0 := Fr.nil n0
  obtain ⟨T2, X2, e2, st2⟩ := getS2 X0 hx hZ hown (host := "") (Or.inl (w_80 hw)) Via.refl e0 (S__assertionsDisabled.ext Od0.2) (g := (mkF m 0 #[.val (.ref a1), .val (.int 1)] [])) rfl (hb hby d19_0)
  obtain ⟨cl8, Ar8, q8, S8, M8, Hs8, G8⟩ := id V_a1
  have hin9 : ¬ ((2 : Int32) < 0 ∨ cl8.slots.size ≤ ((2 : Int32)).toNatClampNeg) := inb_of S8 ⟨(by decide : ¬ ((2 : Int32) < (0 : Int32))), (by decide : (2 : Int32) < (4 : Int32))⟩
  obtain ⟨T10, X10, e10, st10⟩ := getS2 X2 hx hZ hown (host := "") (Or.inl (w_81 hw)) Via.refl e2 (S_HI_BYTE_SHIFT.ext Od0.2) (g := (mkF m 42 #[.val (.ref a1), .val (.int 3)] [(.int (p5 &&& (255 : Int32)))])) rfl (hb hby d19_42)
  have hin11 : ¬ ((3 : Int32) < 0 ∨ cl8.slots.size ≤ ((3 : Int32)).toNatClampNeg) := inb_of S8 ⟨(by decide : ¬ ((3 : Int32) < (0 : Int32))), (by decide : (3 : Int32) < (4 : Int32))⟩
  obtain ⟨T12, X12, e12, st12⟩ := getS2 X10 hx hZ hown (host := "") (Or.inl (w_82 hw)) Via.refl e10 (S_LO_BYTE_SHIFT.ext Od0.2) (g := (mkF m 53 #[.val (.ref a1), .val (.int 3)] [(.int (p6 &&& (255 : Int32))), (.int ((p5 &&& (255 : Int32)) <<< ((0 : Int32) &&& 31)))])) rfl (hb hby d19_53)
  refine ⟨T12, _, _, _, (some (.int (nar .char ((((p5 &&& (255 : Int32)) <<< ((0 : Int32) &&& 31)) ||| ((p6 &&& (255 : Int32)) <<< ((8 : Int32) &&& 31))).toUInt32.toUInt16.toUInt32.toInt32)))), X12, nofun, by decide, by decide, ?_, fun fs hr => ?_⟩
  · rw [e12]
    exact ⟨rfl, N0, rfl⟩
  · refine st2 _ ?_
    refine XS.ifYes X2.here hx rfl (pc0 := 3) (pc' := 28) rfl (hb hby d19_3) rfl ((if0 _ _).trans (feq ((by decide : ¬ ((1 : Int32) = (0 : Int32))) : ¬ ((1 : Int32) = (0 : Int32)))).2) (by decide) (by decide) ?_
    refine XS.iloadN X2.here hx rfl (hb hby d19_28) rfl ?_
    refine XS.iconst X2.here hx rfl (hb hby d19_29) ?_
    refine XS.ishl X2.here hx rfl (hb hby d19_30) rfl ?_
    refine XS.istoreN X2.here hx rfl (hb hby d19_31) rfl (l' := #[.val (.ref a1), .val (.int 2)]) rfl ?_
    refine XS.aloadN X2.here hx rfl (hb hby d19_32) rfl rfl ?_
    refine XS.iloadN X2.here hx rfl (hb hby d19_33) rfl ?_
    refine XS.iinc X2.here hx rfl (hb hby d19_34) rfl (l' := #[.val (.ref a1), .val (.int 3)]) rfl ?_
    refine X2.baloadBytes hx (j := (2 : Int32)) (v := (.int p5)) (by rw [e2]; exact Ar8.1) (State.isArrayOf_alike hZ.alike Ar8.2.1) Ar8.2.2 hin9 (Has.at Hs8 hin9 rfl) (g := (mkF m 37 #[.val (.ref a1), .val (.int 3)] [(.int 2), (.ref a1)])) rfl rfl (hb hby d19_37) _ ?_
    refine XS.sipush X2.here hx rfl (hb hby d19_38) ?_
    show Steps p.tables e below (T2.setTop (mkF m 41 #[.val (.ref a1), .val (.int 3)] [(.int 255), (.int p5)])) _
    refine XS.iand X2.here hx rfl (hb hby d19_41) rfl ?_
    refine st10 _ ?_
    refine XS.ishl X10.here hx rfl (hb hby d19_45) rfl ?_
    refine XS.aloadN X10.here hx rfl (hb hby d19_46) rfl rfl ?_
    refine XS.iloadN X10.here hx rfl (hb hby d19_47) rfl ?_
    refine X10.baloadBytes hx (j := (3 : Int32)) (v := (.int p6)) (by rw [e10]; exact Ar8.1) (State.isArrayOf_alike hZ.alike Ar8.2.1) Ar8.2.2 hin11 (Has.at Hs8 hin11 rfl) (g := (mkF m 48 #[.val (.ref a1), .val (.int 3)] [(.int 3), (.ref a1), (.int ((p5 &&& (255 : Int32)) <<< ((0 : Int32) &&& 31)))])) rfl rfl (hb hby d19_48) _ ?_
    refine XS.sipush X10.here hx rfl (hb hby d19_49) ?_
    refine XS.iand X10.here hx rfl (hb hby d19_52) rfl ?_
    refine st12 _ ?_
    refine XS.ishl X12.here hx rfl (hb hby d19_56) rfl ?_
    refine XS.ior X12.here hx rfl (hb hby d19_57) rfl ?_
    refine XS.i2c X12.here hx rfl (hb hby d19_58) rfl ?_
    show Steps p.tables e below (T12.setTop (mkF m 59 #[.val (.ref a1), .val (.int 3)] [(.int ((((p5 &&& (255 : Int32)) <<< ((0 : Int32) &&& 31)) ||| ((p6 &&& (255 : Int32)) <<< ((8 : Int32) &&& 31))).toUInt32.toUInt16.toUInt32.toInt32))])) _
    exact retN X12 hx (t := .char) hret (by simp) (hb hby d19_59) hr
-- java/lang/StringUTF16.compress([CI[BII)I
abbrev Rm32 : Room := { frames := 0, cells := 0, slots := 0, locals := 0 }
def Q32 (Z : State) (a1 : Addr) (a2 : Addr) (p3 : Int32) (p4 : Int32) (k5 : ClassId) (k9 : ClassId) (h0 : Heap) (n0 : Nat) (v : Option Value) (h : Heap) (L : List Loc) : Prop := v = some (.int 2) ∧ Fr n0 L ∧ Keep h0 h [a2] ∧ Exa Z h a2 "[B" ∧ Arv Z h a2 k9 .byte (2 : Int32) [(.int (nar .byte (p3.toInt8.toInt32))), (.int (nar .byte (p4.toInt8.toInt32)))] (.int 0)
-- ef_28bd7f
theorem rm32 (l : Launch) (Z : State) (a0 : Array Value) (hw : ∀ d ∈ tables_1, d.before a0 Z = true) (ws : List Jvm.Cond) (a1 : Addr) (a2 : Addr) (p3 : Int32) (p4 : Int32) (k5 : ClassId) (k9 : ClassId) (h0 : Heap) (n0 : Nat) (Z0 : n0 ≤ h0.size) (V_a1 : Arv Z h0 a1 k5 .char (2 : Int32) [(.int p3), (.int p4)] (.int 0)) (c8 : ¬ ((255 : Int32) < p3)) (V_a2 : Arv Z h0 a2 k9 .byte (2 : Int32) [(.int 0), (.int 0)] (.int 0)) (g_a2 : n0 ≤ a2) (ne_a1_a2 : a1 ≠ a2) (c16 : ¬ ((255 : Int32) < p4)) (E_a2 : Exa Z h0 a2 "[B") :
    OwnMet l Z y_0 jdk_52_method_21_code 7 (some .int) ws Rm32 #[(.ref a1), (.int 0), (.ref a2), (.int 0), (.int 2)] h0 (Q32 Z a1 a2 p3 p4 k5 k9 h0 n0) := by
  refine own_body (plainFor_of_name pn_0) (ef_28bd7f a1 a2) ?_
  intro p e s m below meth c s₁ hx hby hml hown hnm hret hZ X0 e0
  have N0 := Fr.nil n0
  obtain ⟨cl6, Ar6, q6, S6, M6, Hs6, G6⟩ := id V_a1
  have hin7 : ¬ ((0 : Int32) < 0 ∨ cl6.slots.size ≤ ((0 : Int32)).toNatClampNeg) := inb_of S6 ⟨(by decide : ¬ ((0 : Int32) < (0 : Int32))), (by decide : (0 : Int32) < (2 : Int32))⟩
  obtain ⟨cl10, Ar10, q10, S10, M10, Hs10, G10⟩ := id V_a2
  have hin11 : ¬ ((0 : Int32) < 0 ∨ cl10.slots.size ≤ ((0 : Int32)).toNatClampNeg) := inb_of S10 ⟨(by decide : ¬ ((0 : Int32) < (0 : Int32))), (by decide : (0 : Int32) < (2 : Int32))⟩
  obtain ⟨T12, h12, X12, e12, W12, st12⟩ := stB X0 hx hZ e0 Ar10 (j := (0 : Int32)) hin11 (g := (mkF m 31 #[.val (.ref a1), .val (.int 0), .val (.ref a2), .val (.int 0), .val (.int 2), .val (.int 0), .val (.int p3)] [(.int (p3.toInt8.toInt32)), (.int 0), (.ref a2)])) rfl rfl (hb hby d5_31)
  have s0 := (Keep.of_wr W12).1
  have N12 := Fr.snoc X12 N0 g_a2
  have Vs12 : Arv Z h12 a2 k9 .byte (2 : Int32) [(.int (nar .byte (p3.toInt8.toInt32))), (.int 0)] (.int 0) := Arv.set Ar10 q10 S10 M10 Hs10 G10 (fits_nar_byte _) W12 0 rfl (Nat.le_of_ble_eq_true rfl)
  have Va13 := (V_a1.other W12 ne_a1_a2)
  obtain ⟨cl14, Ar14, q14, S14, M14, Hs14, G14⟩ := id Va13
  have hin15 : ¬ ((1 : Int32) < 0 ∨ cl14.slots.size ≤ ((1 : Int32)).toNatClampNeg) := inb_of S14 ⟨(by decide : ¬ ((1 : Int32) < (0 : Int32))), (by decide : (1 : Int32) < (2 : Int32))⟩
  obtain ⟨cl17, Ar17, q17, S17, M17, Hs17, G17⟩ := id Vs12
  have hin18 : ¬ ((1 : Int32) < 0 ∨ cl17.slots.size ≤ ((1 : Int32)).toNatClampNeg) := inb_of S17 ⟨(by decide : ¬ ((1 : Int32) < (0 : Int32))), (by decide : (1 : Int32) < (2 : Int32))⟩
  obtain ⟨T19, h19, X19, e19, W19, st19⟩ := stB X12 hx hZ e12 Ar17 (j := (1 : Int32)) hin18 (g := (mkF m 31 #[.val (.ref a1), .val (.int 1), .val (.ref a2), .val (.int 1), .val (.int 2), .val (.int 1), .val (.int p4)] [(.int (p4.toInt8.toInt32)), (.int 1), (.ref a2)])) rfl rfl (hb hby d5_31)
  have s1 := (Keep.of_wr W19).1
  have N19 := Fr.snoc X19 N12 g_a2
  have Vs19 : Arv Z h19 a2 k9 .byte (2 : Int32) [(.int (nar .byte (p3.toInt8.toInt32))), (.int (nar .byte (p4.toInt8.toInt32)))] (.int 0) := Arv.set Ar17 q17 S17 M17 Hs17 G17 (fits_nar_byte _) W19 1 rfl (Nat.le_of_ble_eq_true rfl)
  have Ex20 := ((E_a2.wr W12).wr W19)
  have Kp0 : Keep h0 h12 [a2] := (Keep.refl h0 [a2]).wr W12 (Or.inl (List.mem_of_getElem? (i := 0) rfl))
  have Kp1 : Keep h0 h19 [a2] := Kp0.wr W19 (Or.inl (List.mem_of_getElem? (i := 0) rfl))
  refine ⟨T19, _, _, _, (some (.int 2)), X19, nofun, by decide, by decide, ?_, fun fs hr => ?_⟩
  · rw [e19]
    exact ⟨rfl, N19, Kp1, Ex20, Vs19⟩
  · refine XS.iconst X0.here hx rfl (hb hby d5_0) ?_
    refine XS.istore X0.here hx rfl (hb hby d5_1) rfl (l' := #[.val (.ref a1), .val (.int 0), .val (.ref a2), .val (.int 0), .val (.int 2), .val (.int 0), .unset]) rfl ?_
    refine XS.iload X0.here hx rfl (hb hby d5_3) rfl ?_
    refine XS.iload X0.here hx rfl (hb hby d5_5) rfl ?_
    refine XS.icmpNo X0.here hx rfl (hb hby d5_7) rfl (tlt ((by decide : (0 : Int32) < (2 : Int32)) : (0 : Int32) < (2 : Int32))).2.1 ?_
    refine XS.aloadN X0.here hx rfl (hb hby d5_10) rfl rfl ?_
    refine XS.iloadN X0.here hx rfl (hb hby d5_11) rfl ?_
    refine X0.caload hx (j := (0 : Int32)) (v := (.int p3)) (by rw [e0]; exact Ar6.1) (State.isArrayOf_alike hZ.alike Ar6.2.1) Ar6.2.2 hin7 (Has.at Hs6 hin7 rfl) (g := (mkF m 12 #[.val (.ref a1), .val (.int 0), .val (.ref a2), .val (.int 0), .val (.int 2), .val (.int 0), .unset] [(.int 0), (.ref a1)])) rfl rfl (hb hby d5_12) _ ?_
    refine XS.istore X0.here hx rfl (hb hby d5_13) rfl (l' := #[.val (.ref a1), .val (.int 0), .val (.ref a2), .val (.int 0), .val (.int 2), .val (.int 0), .val (.int p3)]) rfl ?_
    refine XS.iload X0.here hx rfl (hb hby d5_15) rfl ?_
    refine XS.sipush X0.here hx rfl (hb hby d5_17) ?_
    show Steps p.tables e below (s₁.setTop (mkF m 20 #[.val (.ref a1), .val (.int 0), .val (.ref a2), .val (.int 0), .val (.int 2), .val (.int 0), .val (.int p3)] [(.int 255), (.int p3)])) _
    refine XS.icmpYes X0.here hx rfl (pc0 := 20) (pc' := 26) rfl (hb hby d5_20) rfl (flt (c8 : ¬ ((255 : Int32) < p3))).2.2.2 (by decide) (by decide) ?_
    refine XS.aloadN X0.here hx rfl (hb hby d5_26) rfl rfl ?_
    refine XS.iloadN X0.here hx rfl (hb hby d5_27) rfl ?_
    refine XS.iload X0.here hx rfl (hb hby d5_28) rfl ?_
    refine XS.i2b X0.here hx rfl (hb hby d5_30) rfl ?_
    refine st12 _ ?_
    refine XS.iinc X12.here hx rfl (hb hby d5_32) rfl (l' := #[.val (.ref a1), .val (.int 1), .val (.ref a2), .val (.int 0), .val (.int 2), .val (.int 0), .val (.int p3)]) rfl ?_
    refine XS.iinc X12.here hx rfl (hb hby d5_35) rfl (l' := #[.val (.ref a1), .val (.int 1), .val (.ref a2), .val (.int 1), .val (.int 2), .val (.int 0), .val (.int p3)]) rfl ?_
    refine XS.iinc X12.here hx rfl (hb hby d5_38) rfl (l' := #[.val (.ref a1), .val (.int 1), .val (.ref a2), .val (.int 1), .val (.int 2), .val (.int 1), .val (.int p3)]) rfl ?_
    refine XS.goto X12.here hx rfl (pc0 := 41) (pc' := 3) rfl (hb hby d5_41) (by decide) (by decide) ?_
    refine XS.iload X12.here hx rfl (hb hby d5_3) rfl ?_
    refine XS.iload X12.here hx rfl (hb hby d5_5) rfl ?_
    show Steps p.tables e below (T12.setTop (mkF m 7 #[.val (.ref a1), .val (.int 1), .val (.ref a2), .val (.int 1), .val (.int 2), .val (.int 1), .val (.int p3)] [(.int 2), (.int 1)])) _
    refine XS.icmpNo X12.here hx rfl (hb hby d5_7) rfl (tlt ((by decide : (1 : Int32) < (2 : Int32)) : (1 : Int32) < (2 : Int32))).2.1 ?_
    refine XS.aloadN X12.here hx rfl (hb hby d5_10) rfl rfl ?_
    refine XS.iloadN X12.here hx rfl (hb hby d5_11) rfl ?_
    refine X12.caload hx (j := (1 : Int32)) (v := (.int p4)) (by rw [e12]; exact Ar14.1) (State.isArrayOf_alike hZ.alike Ar14.2.1) Ar14.2.2 hin15 (Has.at Hs14 hin15 rfl) (g := (mkF m 12 #[.val (.ref a1), .val (.int 1), .val (.ref a2), .val (.int 1), .val (.int 2), .val (.int 1), .val (.int p3)] [(.int 1), (.ref a1)])) rfl rfl (hb hby d5_12) _ ?_
    refine XS.istore X12.here hx rfl (hb hby d5_13) rfl (l' := #[.val (.ref a1), .val (.int 1), .val (.ref a2), .val (.int 1), .val (.int 2), .val (.int 1), .val (.int p4)]) rfl ?_
    refine XS.iload X12.here hx rfl (hb hby d5_15) rfl ?_
    refine XS.sipush X12.here hx rfl (hb hby d5_17) ?_
    refine XS.icmpYes X12.here hx rfl (pc0 := 20) (pc' := 26) rfl (hb hby d5_20) rfl (flt (c16 : ¬ ((255 : Int32) < p4))).2.2.2 (by decide) (by decide) ?_
    refine XS.aloadN X12.here hx rfl (hb hby d5_26) rfl rfl ?_
    refine XS.iloadN X12.here hx rfl (hb hby d5_27) rfl ?_
    refine XS.iload X12.here hx rfl (hb hby d5_28) rfl ?_
    refine XS.i2b X12.here hx rfl (hb hby d5_30) rfl ?_
    show Steps p.tables e below (T12.setTop (mkF m 31 #[.val (.ref a1), .val (.int 1), .val (.ref a2), .val (.int 1), .val (.int 2), .val (.int 1), .val (.int p4)] [(.int (p4.toInt8.toInt32)), (.int 1), (.ref a2)])) _
    refine st19 _ ?_
    refine XS.iinc X19.here hx rfl (hb hby d5_32) rfl (l' := #[.val (.ref a1), .val (.int 2), .val (.ref a2), .val (.int 1), .val (.int 2), .val (.int 1), .val (.int p4)]) rfl ?_
    refine XS.iinc X19.here hx rfl (hb hby d5_35) rfl (l' := #[.val (.ref a1), .val (.int 2), .val (.ref a2), .val (.int 2), .val (.int 2), .val (.int 1), .val (.int p4)]) rfl ?_
    refine XS.iinc X19.here hx rfl (hb hby d5_38) rfl (l' := #[.val (.ref a1), .val (.int 2), .val (.ref a2), .val (.int 2), .val (.int 2), .val (.int 2), .val (.int p4)]) rfl ?_
    refine XS.goto X19.here hx rfl (pc0 := 41) (pc' := 3) rfl (hb hby d5_41) (by decide) (by decide) ?_
    refine XS.iload X19.here hx rfl (hb hby d5_3) rfl ?_
    refine XS.iload X19.here hx rfl (hb hby d5_5) rfl ?_
    refine XS.icmpYes X19.here hx rfl (pc0 := 7) (pc' := 44) rfl (hb hby d5_7) rfl (flt ((by decide : ¬ ((2 : Int32) < (2 : Int32))) : ¬ ((2 : Int32) < (2 : Int32)))).2.1 (by decide) (by decide) ?_
    refine XS.iload X19.here hx rfl (hb hby d5_44) rfl ?_
    exact retI X19 hx hret (hb hby d5_46) hr
theorem ef_1ab08b (a1 : Addr) (m : MethodId) : entryFrame m #[(.ref a1), (.int 0), (.int 2)] 6 = mkF m 0 #[.val (.ref a1), .val (.int 0), .val (.int 2), .unset, .unset, .unset] [] := by first | (simp [entryFrame, mkF, argsToLocals, Value.category]; done) | rfl
-- java/lang/StringUTF16.compress([CII)[B
abbrev Rm33 : Room := { frames := 3, cells := 2, slots := 6, locals := 40 }
def Q33 (Z : State) (a1 : Addr) (p3 : Int32) (p4 : Int32) (k5 : ClassId) (h0 : Heap) (n0 : Nat) (v : Option Value) (h : Heap) (L : List Loc) : Prop := ∃ m0 : Addr, ∃ kk1 : ClassId, ∃ uu2 : List Value, v = some (.ref m0) ∧ Fr n0 L ∧ Keep h0 h [] ∧ h0.size ≤ m0 ∧ Exa Z h m0 "[B" ∧ Arv Z h m0 kk1 .byte (if (255 : Int32) < p3 then (4 : Int32) else (if (255 : Int32) < p4 then (4 : Int32) else (2 : Int32))) uu2 (.int 0)
-- ef_1ab08b
theorem rm33_0 (l : Launch) (Z : State) (a0 : Array Value) (hw : ∀ d ∈ tables_1, d.before a0 Z = true) (ws : List Jvm.Cond) (a1 : Addr) (p3 : Int32) (p4 : Int32) (k5 : ClassId) (h0 : Heap) (n0 : Nat) (Z0 : n0 ≤ h0.size) (V_a1 : Arv Z h0 a1 k5 .char (2 : Int32) [(.int p3), (.int p4)] (.int 0)) (S__assertionsDisabled : Sta Z Z.heap "java/lang/StringUTF16" "$assertionsDisabled" "Z" (.int 1)) (Od0 : Old Z n0 h0) (S_HI_BYTE_SHIFT : Sta Z Z.heap "java/lang/StringUTF16" "HI_BYTE_SHIFT" "I" (.int 0)) (S_LO_BYTE_SHIFT : Sta Z Z.heap "java/lang/StringUTF16" "LO_BYTE_SHIFT" "I" (.int 8)) (c12 : ¬ (p3 < (0 : Int32))) (c13 : ¬ ((65535 : Int32) < p3)) (c23 : ¬ (p4 < (0 : Int32))) (c24 : ¬ ((65535 : Int32) < p4)) (cc1 : (255 : Int32) < p3) :
    OwnMet l Z y_6 jdk_52_method_16_code 6 (some (.array .byte)) ws Rm33 #[(.ref a1), (.int 0), (.int 2)] h0 (Q33 Z a1 p3 p4 k5 h0 n0) := by
  refine own_body (plainFor_of_name pn_0) (ef_1ab08b a1) ?_
  intro p e s m below meth c s₁ hx hby hml hown hnm hret hZ X0 e0
  have N0 := Fr.nil n0
  obtain ⟨T7, h7, k7, X7, e7, E7, A7, B7, st7⟩ := newPE (aty := .byte) X0 hx hZ (w_20 hw) e0 (g := (mkF m 1 #[.val (.ref a1), .val (.int 0), .val (.int 2), .unset, .unset, .unset] [(.int 2)])) rfl (hb hby d4_1) rfl (by decide) (cap := 2) (by decide) (by decide) (by decide) (by decide) (ad := "[B") (by decide)
  obtain ⟨b7, g7⟩ : ∃ z, z = h0.size := ⟨_, rfl⟩
  rw [← g7] at A7 B7 st7
  have s0 := E7.1
  have Vn7 : Arv Z h7 b7 k7 .byte (2 : Int32) [(.int 0), (.int 0)] (.int 0) := (Arv.new A7 (by decide)).pad (pad_rep [] (.int 0) 2)
  have Va8 := (V_a1.ext E7)
  have z1 := Nat.le_trans Z0 s0
  obtain ⟨_, T9, L9, X9, hQ9, st9⟩ := own_callS X7 hx hZ hown (y := y_0) (w_21 hw) (w_22 hw) (w_18 hw) (w_23 hw) (rm23 l Z a0 hw [] a1 b7 p3 p4 k5 h7 n0 z1 Va8 cc1) e7 (Ls := #[.val (.ref a1), .val (.int 0), .val (.int 2), .val (.ref b7), .unset, .unset]) (by rw [hml]; rfl) (argsL := [(.ref a1), (.int 0), (.ref b7), (.int 0), (.int 2)]) (rest := []) (lenOf pd_0 rfl) (hb hby d4_9) (W := 0)
  obtain ⟨rfl, Nq9, e9⟩ := hQ9
  have N9 := Fr.app N0 Nq9
  have Od1 : Old Z n0 h7 := Od0.ext E7
  obtain ⟨_, T10, L10, X10, hQ10, st10⟩ := own_callS X9 hx hZ hown (y := y_4) (w_67 hw) (w_68 hw) (w_18 hw) (w_69 hw) (rm28 l Z a0 hw [] a1 p3 p4 k5 h7 n0 z1 Va8 S__assertionsDisabled Od1 S_HI_BYTE_SHIFT S_LO_BYTE_SHIFT) e9 (Ls := #[.val (.ref a1), .val (.int 0), .val (.int 2), .val (.ref b7), .val (.int 0), .unset]) (by rw [hml]; rfl) (argsL := [(.ref a1), (.int 0), (.int 2)]) (rest := []) (lenOf pd_4 rfl) (hb hby d4_23) (W := 0)
  obtain ⟨b10_b2_b2, k10_k2_k2, rfl, Nq10, K10, o10_0, o10_1, o10_2⟩ := hQ10
  have N10 := Fr.app N9 Nq10
  have s1 := K10.1
  have Od2 : Old Z n0 T10.heap := Od1.keep K10 all0
  have z2 := Nat.le_trans Z0 (Nat.le_trans s0 s1)
  obtain ⟨_, T11, L11, X11, hQ11, st11⟩ := own_callS X10 hx hZ hown (y := y_5) (w_83 hw) (w_84 hw) (w_18 hw) (w_85 hw) (rm29 l Z a0 hw [] b10_b2_b2 (nar .byte ((p3 >>> ((0 : Int32) &&& 31)).toInt8.toInt32)) (nar .byte ((p3 >>> ((8 : Int32) &&& 31)).toInt8.toInt32)) (nar .byte ((p4 >>> ((0 : Int32) &&& 31)).toInt8.toInt32)) (nar .byte ((p4 >>> ((8 : Int32) &&& 31)).toInt8.toInt32)) k10_k2_k2 T10.heap n0 z2 S__assertionsDisabled Od2 o10_2 S_HI_BYTE_SHIFT S_LO_BYTE_SHIFT) rfl (Ls := #[.val (.ref a1), .val (.int 0), .val (.int 2), .val (.ref b7), .val (.int 0), .val (.ref b10_b2_b2)]) (by rw [hml]; rfl) (argsL := [(.ref b10_b2_b2), (.int 0)]) (rest := []) (lenOf pd_5 rfl) (hb hby d4_32) (W := 0)
  obtain ⟨rfl, Nq11, e11⟩ := hQ11
  have N11 := Fr.app N10 Nq11
  have cd14 : (255 : Int32) < (nar .char (((((nar .byte ((p3 >>> ((0 : Int32) &&& 31)).toInt8.toInt32)) &&& (255 : Int32)) <<< ((0 : Int32) &&& 31)) ||| (((nar .byte ((p3 >>> ((8 : Int32) &&& 31)).toInt8.toInt32)) &&& (255 : Int32)) <<< ((8 : Int32) &&& 31))).toUInt32.toUInt16.toUInt32.toInt32)) := (by rw [own_rcN p3 c12 c13]; exact cc1)
  have sz_b10_b2_b2 : h0.size ≤ b10_b2_b2 := Nat.le_trans s0 o10_0
  have Kp0 : Keep h0 h7 [] := (Keep.refl h0 []).ext E7
  have Kp1 : Keep h0 T10.heap [] := Kp0.trans K10 all0
  refine ⟨T11, _, _, _, (some (.ref b10_b2_b2)), X11, nofun, by decide, by decide, ?_, fun fs hr => ?_⟩
  · rw [e11]
    unfold Q33
    rw [show (if (255 : Int32) < p3 then (4 : Int32) else (if (255 : Int32) < p4 then (4 : Int32) else (2 : Int32))) = (4 : Int32) from by rw [if_pos cc1]]
    exact ⟨b10_b2_b2, k10_k2_k2, [(.int (nar .byte ((p3 >>> ((0 : Int32) &&& 31)).toInt8.toInt32))), (.int (nar .byte ((p3 >>> ((8 : Int32) &&& 31)).toInt8.toInt32))), (.int (nar .byte ((p4 >>> ((0 : Int32) &&& 31)).toInt8.toInt32))), (.int (nar .byte ((p4 >>> ((8 : Int32) &&& 31)).toInt8.toInt32)))], rfl, N11, Kp1, sz_b10_b2_b2, o10_1, o10_2⟩
  · refine XS.iloadN X0.here hx rfl (hb hby d4_0) rfl ?_
    refine st7 _ ?_
    refine XS.astoreN X7.here hx rfl (hb hby d4_3) rfl rfl (l' := #[.val (.ref a1), .val (.int 0), .val (.int 2), .val (.ref b7), .unset, .unset]) rfl ?_
    refine XS.aloadN X7.here hx rfl (hb hby d4_4) rfl rfl ?_
    refine XS.iloadN X7.here hx rfl (hb hby d4_5) rfl ?_
    refine XS.aloadN X7.here hx rfl (hb hby d4_6) rfl rfl ?_
    refine XS.iconst X7.here hx rfl (hb hby d4_7) ?_
    refine XS.iloadN X7.here hx rfl (hb hby d4_8) rfl ?_
    refine st9 _ ?_
    refine XS.istore X9.here hx rfl (hb hby d4_12) rfl (l' := #[.val (.ref a1), .val (.int 0), .val (.int 2), .val (.ref b7), .val (.int 0), .unset]) rfl ?_
    refine XS.iload X9.here hx rfl (hb hby d4_14) rfl ?_
    show Steps p.tables e below (T9.setTop (mkF m 16 #[.val (.ref a1), .val (.int 0), .val (.int 2), .val (.ref b7), .val (.int 0), .unset] [(.int 0)])) _
    refine XS.iloadN X9.here hx rfl (hb hby d4_16) rfl ?_
    refine XS.icmpNo X9.here hx rfl (hb hby d4_17) rfl (feq ((by decide : ¬ ((0 : Int32) = (2 : Int32))) : ¬ ((0 : Int32) = (2 : Int32)))).1 ?_
    refine XS.aloadN X9.here hx rfl (hb hby d4_20) rfl rfl ?_
    refine XS.iloadN X9.here hx rfl (hb hby d4_21) rfl ?_
    refine XS.iloadN X9.here hx rfl (hb hby d4_22) rfl ?_
    refine st10 _ ?_
    refine XS.astore X10.here hx rfl (hb hby d4_26) rfl rfl (l' := #[.val (.ref a1), .val (.int 0), .val (.int 2), .val (.ref b7), .val (.int 0), .val (.ref b10_b2_b2)]) rfl ?_
    refine XS.aload X10.here hx rfl (hb hby d4_28) rfl rfl ?_
    refine XS.iload X10.here hx rfl (hb hby d4_30) rfl ?_
    refine st11 _ ?_
    refine XS.sipush X11.here hx rfl (hb hby d4_35) ?_
    refine XS.icmpYes X11.here hx rfl (pc0 := 38) (pc' := 54) rfl (hb hby d4_38) rfl (tlt (cd14 : (255 : Int32) < (nar .char (((((nar .byte ((p3 >>> ((0 : Int32) &&& 31)).toInt8.toInt32)) &&& (255 : Int32)) <<< ((0 : Int32) &&& 31)) ||| (((nar .byte ((p3 >>> ((8 : Int32) &&& 31)).toInt8.toInt32)) &&& (255 : Int32)) <<< ((8 : Int32) &&& 31))).toUInt32.toUInt16.toUInt32.toInt32)))).2.2.1 (by decide) (by decide) ?_
    show Steps p.tables e below (T11.setTop (mkF m 54 #[.val (.ref a1), .val (.int 0), .val (.int 2), .val (.ref b7), .val (.int 0), .val (.ref b10_b2_b2)] [])) _
    refine XS.aload X11.here hx rfl (hb hby d4_54) rfl rfl ?_
    exact retOut X11 hx hret rfl (Or.inr (Or.inr (Or.inr (Or.inr ⟨rfl, rfl, rfl⟩)))) (hb hby d4_56) hr
theorem rm33_1 (l : Launch) (Z : State) (a0 : Array Value) (hw : ∀ d ∈ tables_1, d.before a0 Z = true) (ws : List Jvm.Cond) (a1 : Addr) (p3 : Int32) (p4 : Int32) (k5 : ClassId) (h0 : Heap) (n0 : Nat) (Z0 : n0 ≤ h0.size) (V_a1 : Arv Z h0 a1 k5 .char (2 : Int32) [(.int p3), (.int p4)] (.int 0)) (S__assertionsDisabled : Sta Z Z.heap "java/lang/StringUTF16" "$assertionsDisabled" "Z" (.int 1)) (Od0 : Old Z n0 h0) (S_HI_BYTE_SHIFT : Sta Z Z.heap "java/lang/StringUTF16" "HI_BYTE_SHIFT" "I" (.int 0)) (S_LO_BYTE_SHIFT : Sta Z Z.heap "java/lang/StringUTF16" "LO_BYTE_SHIFT" "I" (.int 8)) (c12 : ¬ (p3 < (0 : Int32))) (c13 : ¬ ((65535 : Int32) < p3)) (c23 : ¬ (p4 < (0 : Int32))) (c24 : ¬ ((65535 : Int32) < p4)) (cc1 : ¬ ((255 : Int32) < p3)) (cc2 : (255 : Int32) < p4) :
    OwnMet l Z y_6 jdk_52_method_16_code 6 (some (.array .byte)) ws Rm33 #[(.ref a1), (.int 0), (.int 2)] h0 (Q33 Z a1 p3 p4 k5 h0 n0) := by
  refine own_body (plainFor_of_name pn_0) (ef_1ab08b a1) ?_
  intro p e s m below meth c s₁ hx hby hml hown hnm hret hZ X0 e0
  have N0 := Fr.nil n0
  obtain ⟨T17, h17, k17, X17, e17, E17, A17, B17, st17⟩ := newPE (aty := .byte) X0 hx hZ (w_20 hw) e0 (g := (mkF m 1 #[.val (.ref a1), .val (.int 0), .val (.int 2), .unset, .unset, .unset] [(.int 2)])) rfl (hb hby d4_1) rfl (by decide) (cap := 2) (by decide) (by decide) (by decide) (by decide) (ad := "[B") (by decide)
  obtain ⟨b17, g17⟩ : ∃ z, z = h0.size := ⟨_, rfl⟩
  rw [← g17] at A17 B17 st17
  have s0 := E17.1
  have Vn17 : Arv Z h17 b17 k17 .byte (2 : Int32) [(.int 0), (.int 0)] (.int 0) := (Arv.new A17 (by decide)).pad (pad_rep [] (.int 0) 2)
  have Va18 := (V_a1.ext E17)
  have g_b17 : n0 ≤ b17 := Nat.le_trans Z0 (Nat.le_of_eq g17.symm)
  have ne_a1_b17 := Nat.ne_of_lt (Nat.lt_of_lt_of_le V_a1.lt (Nat.le_of_eq g17.symm))
  have z1 := Nat.le_trans Z0 s0
  obtain ⟨_, T19, L19, X19, hQ19, st19⟩ := own_callS X17 hx hZ hown (y := y_0) (w_21 hw) (w_22 hw) (w_18 hw) (w_23 hw) (rm30 l Z a0 hw [] a1 b17 p3 p4 k5 k17 h17 n0 z1 Va18 cc1 Vn17 g_b17 ne_a1_b17 cc2 B17) e17 (Ls := #[.val (.ref a1), .val (.int 0), .val (.int 2), .val (.ref b17), .unset, .unset]) (by rw [hml]; rfl) (argsL := [(.ref a1), (.int 0), (.ref b17), (.int 0), (.int 2)]) (rest := []) (lenOf pd_0 rfl) (hb hby d4_9) (W := 0)
  obtain ⟨rfl, Nq19, K19, o19_0, o19_1⟩ := hQ19
  have N19 := Fr.app N0 Nq19
  have s1 := K19.1
  have Va20 := (Va18.keep K19 (ninS ne_a1_b17 nin0))
  have Od1 : Old Z n0 h17 := Od0.ext E17
  have Od2 : Old Z n0 T19.heap := Od1.keep K19 (allS g_b17 all0)
  have z2 := Nat.le_trans Z0 (Nat.le_trans s0 s1)
  obtain ⟨_, T21, L21, X21, hQ21, st21⟩ := own_callS X19 hx hZ hown (y := y_4) (w_67 hw) (w_68 hw) (w_18 hw) (w_69 hw) (rm28 l Z a0 hw [] a1 p3 p4 k5 T19.heap n0 z2 Va20 S__assertionsDisabled Od2 S_HI_BYTE_SHIFT S_LO_BYTE_SHIFT) rfl (Ls := #[.val (.ref a1), .val (.int 0), .val (.int 2), .val (.ref b17), .val (.int 1), .unset]) (by rw [hml]; rfl) (argsL := [(.ref a1), (.int 0), (.int 2)]) (rest := []) (lenOf pd_4 rfl) (hb hby d4_23) (W := 0)
  obtain ⟨b21_b2_b2, k21_k2_k2, rfl, Nq21, K21, o21_0, o21_1, o21_2⟩ := hQ21
  have N21 := Fr.app N19 Nq21
  have s2 := K21.1
  have Od3 : Old Z n0 T21.heap := Od2.keep K21 all0
  have z3 := Nat.le_trans Z0 (Nat.le_trans (Nat.le_trans s0 s1) s2)
  obtain ⟨_, T22, L22, X22, hQ22, st22⟩ := own_callS X21 hx hZ hown (y := y_5) (w_83 hw) (w_84 hw) (w_18 hw) (w_85 hw) (rm31 l Z a0 hw [] b21_b2_b2 (nar .byte ((p3 >>> ((0 : Int32) &&& 31)).toInt8.toInt32)) (nar .byte ((p3 >>> ((8 : Int32) &&& 31)).toInt8.toInt32)) (nar .byte ((p4 >>> ((0 : Int32) &&& 31)).toInt8.toInt32)) (nar .byte ((p4 >>> ((8 : Int32) &&& 31)).toInt8.toInt32)) k21_k2_k2 T21.heap n0 z3 S__assertionsDisabled Od3 o21_2 S_HI_BYTE_SHIFT S_LO_BYTE_SHIFT) rfl (Ls := #[.val (.ref a1), .val (.int 0), .val (.int 2), .val (.ref b17), .val (.int 1), .val (.ref b21_b2_b2)]) (by rw [hml]; rfl) (argsL := [(.ref b21_b2_b2), (.int 1)]) (rest := []) (lenOf pd_5 rfl) (hb hby d4_32) (W := 0)
  obtain ⟨rfl, Nq22, e22⟩ := hQ22
  have N22 := Fr.app N21 Nq22
  have cd25 : (255 : Int32) < (nar .char (((((nar .byte ((p4 >>> ((0 : Int32) &&& 31)).toInt8.toInt32)) &&& (255 : Int32)) <<< ((0 : Int32) &&& 31)) ||| (((nar .byte ((p4 >>> ((8 : Int32) &&& 31)).toInt8.toInt32)) &&& (255 : Int32)) <<< ((8 : Int32) &&& 31))).toUInt32.toUInt16.toUInt32.toInt32)) := (by rw [own_rcN p4 c23 c24]; exact cc2)
  have sz_b21_b2_b2 : h0.size ≤ b21_b2_b2 := Nat.le_trans (Nat.le_trans s0 s1) o21_0
  have Kp0 : Keep h0 h17 [] := (Keep.refl h0 []).ext E17
  have sz_b17 : h0.size ≤ b17 := (Nat.le_of_eq g17.symm)
  have Kp1 : Keep h0 T19.heap [] := Kp0.trans K19 (allS (Or.inr sz_b17) all0)
  have Kp2 : Keep h0 T21.heap [] := Kp1.trans K21 all0
  refine ⟨T22, _, _, _, (some (.ref b21_b2_b2)), X22, nofun, by decide, by decide, ?_, fun fs hr => ?_⟩
  · rw [e22]
    unfold Q33
    rw [show (if (255 : Int32) < p3 then (4 : Int32) else (if (255 : Int32) < p4 then (4 : Int32) else (2 : Int32))) = (4 : Int32) from by rw [if_neg cc1, if_pos cc2]]
    exact ⟨b21_b2_b2, k21_k2_k2, [(.int (nar .byte ((p3 >>> ((0 : Int32) &&& 31)).toInt8.toInt32))), (.int (nar .byte ((p3 >>> ((8 : Int32) &&& 31)).toInt8.toInt32))), (.int (nar .byte ((p4 >>> ((0 : Int32) &&& 31)).toInt8.toInt32))), (.int (nar .byte ((p4 >>> ((8 : Int32) &&& 31)).toInt8.toInt32)))], rfl, N22, Kp2, sz_b21_b2_b2, o21_1, o21_2⟩
  · refine XS.iloadN X0.here hx rfl (hb hby d4_0) rfl ?_
    refine st17 _ ?_
    refine XS.astoreN X17.here hx rfl (hb hby d4_3) rfl rfl (l' := #[.val (.ref a1), .val (.int 0), .val (.int 2), .val (.ref b17), .unset, .unset]) rfl ?_
    refine XS.aloadN X17.here hx rfl (hb hby d4_4) rfl rfl ?_
    refine XS.iloadN X17.here hx rfl (hb hby d4_5) rfl ?_
    refine XS.aloadN X17.here hx rfl (hb hby d4_6) rfl rfl ?_
    refine XS.iconst X17.here hx rfl (hb hby d4_7) ?_
    refine XS.iloadN X17.here hx rfl (hb hby d4_8) rfl ?_
    refine st19 _ ?_
    refine XS.istore X19.here hx rfl (hb hby d4_12) rfl (l' := #[.val (.ref a1), .val (.int 0), .val (.int 2), .val (.ref b17), .val (.int 1), .unset]) rfl ?_
    refine XS.iload X19.here hx rfl (hb hby d4_14) rfl ?_
    show Steps p.tables e below (T19.setTop (mkF m 16 #[.val (.ref a1), .val (.int 0), .val (.int 2), .val (.ref b17), .val (.int 1), .unset] [(.int 1)])) _
    refine XS.iloadN X19.here hx rfl (hb hby d4_16) rfl ?_
    refine XS.icmpNo X19.here hx rfl (hb hby d4_17) rfl (feq ((by decide : ¬ ((1 : Int32) = (2 : Int32))) : ¬ ((1 : Int32) = (2 : Int32)))).1 ?_
    refine XS.aloadN X19.here hx rfl (hb hby d4_20) rfl rfl ?_
    refine XS.iloadN X19.here hx rfl (hb hby d4_21) rfl ?_
    refine XS.iloadN X19.here hx rfl (hb hby d4_22) rfl ?_
    refine st21 _ ?_
    refine XS.astore X21.here hx rfl (hb hby d4_26) rfl rfl (l' := #[.val (.ref a1), .val (.int 0), .val (.int 2), .val (.ref b17), .val (.int 1), .val (.ref b21_b2_b2)]) rfl ?_
    refine XS.aload X21.here hx rfl (hb hby d4_28) rfl rfl ?_
    refine XS.iload X21.here hx rfl (hb hby d4_30) rfl ?_
    refine st22 _ ?_
    refine XS.sipush X22.here hx rfl (hb hby d4_35) ?_
    refine XS.icmpYes X22.here hx rfl (pc0 := 38) (pc' := 54) rfl (hb hby d4_38) rfl (tlt (cd25 : (255 : Int32) < (nar .char (((((nar .byte ((p4 >>> ((0 : Int32) &&& 31)).toInt8.toInt32)) &&& (255 : Int32)) <<< ((0 : Int32) &&& 31)) ||| (((nar .byte ((p4 >>> ((8 : Int32) &&& 31)).toInt8.toInt32)) &&& (255 : Int32)) <<< ((8 : Int32) &&& 31))).toUInt32.toUInt16.toUInt32.toInt32)))).2.2.1 (by decide) (by decide) ?_
    show Steps p.tables e below (T22.setTop (mkF m 54 #[.val (.ref a1), .val (.int 0), .val (.int 2), .val (.ref b17), .val (.int 1), .val (.ref b21_b2_b2)] [])) _
    refine XS.aload X22.here hx rfl (hb hby d4_54) rfl rfl ?_
    exact retOut X22 hx hret rfl (Or.inr (Or.inr (Or.inr (Or.inr ⟨rfl, rfl, rfl⟩)))) (hb hby d4_56) hr
theorem rm33_2 (l : Launch) (Z : State) (a0 : Array Value) (hw : ∀ d ∈ tables_1, d.before a0 Z = true) (ws : List Jvm.Cond) (a1 : Addr) (p3 : Int32) (p4 : Int32) (k5 : ClassId) (h0 : Heap) (n0 : Nat) (Z0 : n0 ≤ h0.size) (V_a1 : Arv Z h0 a1 k5 .char (2 : Int32) [(.int p3), (.int p4)] (.int 0)) (S__assertionsDisabled : Sta Z Z.heap "java/lang/StringUTF16" "$assertionsDisabled" "Z" (.int 1)) (Od0 : Old Z n0 h0) (S_HI_BYTE_SHIFT : Sta Z Z.heap "java/lang/StringUTF16" "HI_BYTE_SHIFT" "I" (.int 0)) (S_LO_BYTE_SHIFT : Sta Z Z.heap "java/lang/StringUTF16" "LO_BYTE_SHIFT" "I" (.int 8)) (c12 : ¬ (p3 < (0 : Int32))) (c13 : ¬ ((65535 : Int32) < p3)) (c23 : ¬ (p4 < (0 : Int32))) (c24 : ¬ ((65535 : Int32) < p4)) (cc1 : ¬ ((255 : Int32) < p3)) (cc2 : ¬ ((255 : Int32) < p4)) :
    OwnMet l Z y_6 jdk_52_method_16_code 6 (some (.array .byte)) ws Rm33 #[(.ref a1), (.int 0), (.int 2)] h0 (Q33 Z a1 p3 p4 k5 h0 n0) := by
  refine own_body (plainFor_of_name pn_0) (ef_1ab08b a1) ?_
  intro p e s m below meth c s₁ hx hby hml hown hnm hret hZ X0 e0
  have N0 := Fr.nil n0
  obtain ⟨T26, h26, k26, X26, e26, E26, A26, B26, st26⟩ := newPE (aty := .byte) X0 hx hZ (w_20 hw) e0 (g := (mkF m 1 #[.val (.ref a1), .val (.int 0), .val (.int 2), .unset, .unset, .unset] [(.int 2)])) rfl (hb hby d4_1) rfl (by decide) (cap := 2) (by decide) (by decide) (by decide) (by decide) (ad := "[B") (by decide)
  obtain ⟨b26, g26⟩ : ∃ z, z = h0.size := ⟨_, rfl⟩
  rw [← g26] at A26 B26 st26
  have s0 := E26.1
  have Vn26 : Arv Z h26 b26 k26 .byte (2 : Int32) [(.int 0), (.int 0)] (.int 0) := (Arv.new A26 (by decide)).pad (pad_rep [] (.int 0) 2)
  have Va27 := (V_a1.ext E26)
  have g_b26 : n0 ≤ b26 := Nat.le_trans Z0 (Nat.le_of_eq g26.symm)
  have ne_a1_b26 := Nat.ne_of_lt (Nat.lt_of_lt_of_le V_a1.lt (Nat.le_of_eq g26.symm))
  have z1 := Nat.le_trans Z0 s0
  obtain ⟨_, T28, L28, X28, hQ28, st28⟩ := own_callS X26 hx hZ hown (y := y_0) (w_21 hw) (w_22 hw) (w_18 hw) (w_23 hw) (rm32 l Z a0 hw [] a1 b26 p3 p4 k5 k26 h26 n0 z1 Va27 cc1 Vn26 g_b26 ne_a1_b26 cc2 B26) e26 (Ls := #[.val (.ref a1), .val (.int 0), .val (.int 2), .val (.ref b26), .unset, .unset]) (by rw [hml]; rfl) (argsL := [(.ref a1), (.int 0), (.ref b26), (.int 0), (.int 2)]) (rest := []) (lenOf pd_0 rfl) (hb hby d4_9) (W := 0)
  obtain ⟨rfl, Nq28, K28, o28_0, o28_1⟩ := hQ28
  have N28 := Fr.app N0 Nq28
  have s1 := K28.1
  have sz_b26 : h0.size ≤ b26 := (Nat.le_of_eq g26.symm)
  have Kp0 : Keep h0 h26 [] := (Keep.refl h0 []).ext E26
  have Kp1 : Keep h0 T28.heap [] := Kp0.trans K28 (allS (Or.inr sz_b26) all0)
  refine ⟨T28, _, _, _, (some (.ref b26)), X28, nofun, by decide, by decide, ?_, fun fs hr => ?_⟩
  · unfold Q33
    rw [show (if (255 : Int32) < p3 then (4 : Int32) else (if (255 : Int32) < p4 then (4 : Int32) else (2 : Int32))) = (2 : Int32) from by rw [if_neg cc1, if_neg cc2]]
    exact ⟨b26, k26, [(.int (nar .byte (p3.toInt8.toInt32))), (.int (nar .byte (p4.toInt8.toInt32)))], rfl, N28, Kp1, sz_b26, o28_0, o28_1⟩
  · refine XS.iloadN X0.here hx rfl (hb hby d4_0) rfl ?_
    refine st26 _ ?_
    refine XS.astoreN X26.here hx rfl (hb hby d4_3) rfl rfl (l' := #[.val (.ref a1), .val (.int 0), .val (.int 2), .val (.ref b26), .unset, .unset]) rfl ?_
    refine XS.aloadN X26.here hx rfl (hb hby d4_4) rfl rfl ?_
    refine XS.iloadN X26.here hx rfl (hb hby d4_5) rfl ?_
    refine XS.aloadN X26.here hx rfl (hb hby d4_6) rfl rfl ?_
    refine XS.iconst X26.here hx rfl (hb hby d4_7) ?_
    refine XS.iloadN X26.here hx rfl (hb hby d4_8) rfl ?_
    refine st28 _ ?_
    refine XS.istore X28.here hx rfl (hb hby d4_12) rfl (l' := #[.val (.ref a1), .val (.int 0), .val (.int 2), .val (.ref b26), .val (.int 2), .unset]) rfl ?_
    refine XS.iload X28.here hx rfl (hb hby d4_14) rfl ?_
    show Steps p.tables e below (T28.setTop (mkF m 16 #[.val (.ref a1), .val (.int 0), .val (.int 2), .val (.ref b26), .val (.int 2), .unset] [(.int 2)])) _
    refine XS.iloadN X28.here hx rfl (hb hby d4_16) rfl ?_
    refine XS.icmpYes X28.here hx rfl (pc0 := 17) (pc' := 57) rfl (hb hby d4_17) rfl (teq ((by decide : (2 : Int32) = (2 : Int32)) : (2 : Int32) = (2 : Int32))).1 (by decide) (by decide) ?_
    refine XS.aloadN X28.here hx rfl (hb hby d4_57) rfl rfl ?_
    exact retOut X28 hx hret rfl (Or.inr (Or.inr (Or.inr (Or.inr ⟨rfl, rfl, rfl⟩)))) (hb hby d4_58) hr
theorem rm33 (l : Launch) (Z : State) (a0 : Array Value) (hw : ∀ d ∈ tables_1, d.before a0 Z = true) (ws : List Jvm.Cond) (a1 : Addr) (p3 : Int32) (p4 : Int32) (k5 : ClassId) (h0 : Heap) (n0 : Nat) (Z0 : n0 ≤ h0.size) (V_a1 : Arv Z h0 a1 k5 .char (2 : Int32) [(.int p3), (.int p4)] (.int 0)) (S__assertionsDisabled : Sta Z Z.heap "java/lang/StringUTF16" "$assertionsDisabled" "Z" (.int 1)) (Od0 : Old Z n0 h0) (S_HI_BYTE_SHIFT : Sta Z Z.heap "java/lang/StringUTF16" "HI_BYTE_SHIFT" "I" (.int 0)) (S_LO_BYTE_SHIFT : Sta Z Z.heap "java/lang/StringUTF16" "LO_BYTE_SHIFT" "I" (.int 8)) (c12 : ¬ (p3 < (0 : Int32))) (c13 : ¬ ((65535 : Int32) < p3)) (c23 : ¬ (p4 < (0 : Int32))) (c24 : ¬ ((65535 : Int32) < p4)) :
    OwnMet l Z y_6 jdk_52_method_16_code 6 (some (.array .byte)) ws Rm33 #[(.ref a1), (.int 0), (.int 2)] h0 (Q33 Z a1 p3 p4 k5 h0 n0) := by
  by_cases cc1 : (255 : Int32) < p3
  · exact rm33_0 l Z a0 hw ws a1 p3 p4 k5 h0 n0 Z0 V_a1 S__assertionsDisabled Od0 S_HI_BYTE_SHIFT S_LO_BYTE_SHIFT c12 c13 c23 c24 cc1
  · by_cases cc2 : (255 : Int32) < p4
    · exact rm33_1 l Z a0 hw ws a1 p3 p4 k5 h0 n0 Z0 V_a1 S__assertionsDisabled Od0 S_HI_BYTE_SHIFT S_LO_BYTE_SHIFT c12 c13 c23 c24 cc1 cc2
    · exact rm33_2 l Z a0 hw ws a1 p3 p4 k5 h0 n0 Z0 V_a1 S__assertionsDisabled Od0 S_HI_BYTE_SHIFT S_LO_BYTE_SHIFT c12 c13 c23 c24 cc1 cc2
theorem ef_60b4a0 (a1 : Addr) (m : MethodId) : entryFrame m #[(.ref a1), (.int 2)] 2 = mkF m 0 #[.val (.ref a1), .val (.int 2)] [] := by first | (simp [entryFrame, mkF, argsToLocals, Value.category]; done) | rfl
-- java/lang/StringUTF16.coderFromArrayLen([BI)B
abbrev Rm34 : Room := { frames := 0, cells := 0, slots := 0, locals := 0 }
def Q34 (Z : State) (a1 : Addr) (u2 : List Value) (k3 : ClassId) (p4 : Int32) (h0 : Heap) (n0 : Nat) (v : Option Value) (h : Heap) (L : List Loc) : Prop := v = some (.int (nar .byte (((((2 : Int32) - p4).toUInt32 >>> ((31 : Int32) &&& 31).toUInt32).toInt32).toInt8.toInt32))) ∧ Fr n0 L ∧ h = h0
-- ef_60b4a0
theorem rm34 (l : Launch) (Z : State) (a0 : Array Value) (hw : ∀ d ∈ tables_1, d.before a0 Z = true) (ws : List Jvm.Cond) (a1 : Addr) (u2 : List Value) (k3 : ClassId) (p4 : Int32) (h0 : Heap) (n0 : Nat) (Z0 : n0 ≤ h0.size) (V_a1 : Arv Z h0 a1 k3 .byte p4 u2 (.int 0)) :
    OwnMet l Z y_7 jdk_52_method_15_code 2 (some .byte) ws Rm34 #[(.ref a1), (.int 2)] h0 (Q34 Z a1 u2 k3 p4 h0 n0) := by
  refine own_body (plainFor_of_name pn_0) (ef_60b4a0 a1) ?_
  intro p e s m below meth c s₁ hx hby hml hown hnm hret hZ X0 e0
  have N0 := Fr.nil n0
  obtain ⟨cl5, Ar5, q5, S5, M5, Hs5, G5⟩ := id V_a1
  refine ⟨s₁, _, _, _, (some (.int (nar .byte (((((2 : Int32) - p4).toUInt32 >>> ((31 : Int32) &&& 31).toUInt32).toInt32).toInt8.toInt32)))), X0, nofun, by decide, by decide, ?_, fun fs hr => ?_⟩
  · rw [e0]
    exact ⟨rfl, N0, rfl⟩
  · refine XS.iloadN X0.here hx rfl (hb hby d6_0) rfl ?_
    refine XS.aloadN X0.here hx rfl (hb hby d6_1) rfl rfl ?_
    refine X0.arraylength hx (by rw [e0]; exact Ar5.1) (State.isArrayOf_alike hZ.alike Ar5.2.1) (g := (mkF m 2 #[.val (.ref a1), .val (.int 2)] [(.ref a1), (.int 2)])) rfl rfl (hb hby d6_2) _ ?_
    show Steps p.tables e below (s₁.setTop (mkF m 3 #[.val (.ref a1), .val (.int 2)] [(.int cl5.slots.size.toInt32), (.int 2)])) _
    rw [len_of S5 M5]
    refine XS.isub X0.here hx rfl (hb hby d6_3) rfl ?_
    refine XS.bipush X0.here hx rfl (hb hby d6_4) ?_
    refine XS.iushr X0.here hx rfl (hb hby d6_6) rfl ?_
    refine XS.i2b X0.here hx rfl (hb hby d6_7) rfl ?_
    exact retN X0 hx (t := .byte) hret (by simp) (hb hby d6_8) hr
theorem ef_512eb5 (a1 : Addr) (a2 : Addr) (m : MethodId) : entryFrame m #[(.ref a1), (.ref a2), (.int 0), (.int 2), .null] 6 = mkF m 0 #[.val (.ref a1), .val (.ref a2), .val (.int 0), .val (.int 2), .val .null, .unset] [] := by first | (simp [entryFrame, mkF, argsToLocals, Value.category]; done) | rfl
-- java/lang/String.<init>([CIILjava/lang/Void;)V
abbrev Rm35 : Room := { frames := 4, cells := 2, slots := 6, locals := 57 }
def Q35 (Z : State) (a1 : Addr) (a2 : Addr) (p4 : Int32) (p7 : Int32) (p8 : Int32) (k9 : ClassId) (h0 : Heap) (n0 : Nat) (v : Option Value) (h : Heap) (L : List Loc) : Prop := ∃ b14_m0 : Addr, ∃ k14_kk1 : ClassId, ∃ u14_uu2 : List Value, v = none ∧ Fr n0 L ∧ Keep h0 h [a1] ∧ Exa Z h a1 "java/lang/String" ∧ Fld Z h a1 "java/lang/String" "coder" "B" (.int (nar .byte (nar .byte (((((2 : Int32) - (if (255 : Int32) < p7 then (4 : Int32) else (if (255 : Int32) < p8 then (4 : Int32) else (2 : Int32)))).toUInt32 >>> ((31 : Int32) &&& 31).toUInt32).toInt32).toInt8.toInt32)))) ∧ Fld Z h a1 "java/lang/String" "value" "[B" (.ref b14_m0) ∧ h0.size ≤ b14_m0 ∧ Exa Z h b14_m0 "[B" ∧ Arv Z h b14_m0 k14_kk1 .byte (if (255 : Int32) < p7 then (4 : Int32) else (if (255 : Int32) < p8 then (4 : Int32) else (2 : Int32))) u14_uu2 (.int 0)
-- ef_512eb5
theorem rm35 (l : Launch) (Z : State) (a0 : Array Value) (hw : ∀ d ∈ tables_1, d.before a0 Z = true) (ws : List Jvm.Cond) (a1 : Addr) (a2 : Addr) (p4 : Int32) (p7 : Int32) (p8 : Int32) (k9 : ClassId) (h0 : Heap) (n0 : Nat) (Z0 : n0 ≤ h0.size) (S_COMPACT_STRINGS : Sta Z Z.heap "java/lang/String" "COMPACT_STRINGS" "Z" (.int p4)) (Od0 : Old Z n0 h0) (c6 : ¬ (p4 = (0 : Int32))) (V_a2 : Arv Z h0 a2 k9 .char (2 : Int32) [(.int p7), (.int p8)] (.int 0)) (S__assertionsDisabled : Sta Z Z.heap "java/lang/StringUTF16" "$assertionsDisabled" "Z" (.int 1)) (S_HI_BYTE_SHIFT : Sta Z Z.heap "java/lang/StringUTF16" "HI_BYTE_SHIFT" "I" (.int 0)) (S_LO_BYTE_SHIFT : Sta Z Z.heap "java/lang/StringUTF16" "LO_BYTE_SHIFT" "I" (.int 8)) (c10 : ¬ (p7 < (0 : Int32))) (c11 : ¬ ((65535 : Int32) < p7)) (c12 : ¬ (p8 < (0 : Int32))) (c13 : ¬ ((65535 : Int32) < p8)) (F_coder_a1 : Fld Z h0 a1 "java/lang/String" "coder" "B" (.int 0)) (E_a1 : Exa Z h0 a1 "java/lang/String") (g_a1 : n0 ≤ a1) (F_value_a1 : Fld Z h0 a1 "java/lang/String" "value" "[B" .null) :
    OwnMet l Z y_8 jdk_42_method_149_code 6 none ws Rm35 #[(.ref a1), (.ref a2), (.int 0), (.int 2), .null] h0 (Q35 Z a1 a2 p4 p7 p8 k9 h0 n0) := by
  refine own_body (plainFor_of_name pn_1) (ef_512eb5 a1 a2) ?_
  intro p e s m below meth c s₁ hx hby hml hown hnm hret hZ X0 e0
  have N0 := Fr.nil n0
  obtain ⟨T3, X3, e3, st3⟩ := initO X0 hx hZ hown (w_12 hw) (w_13 hw) (w_14 hw) e0 (g := (mkF m 1 #[.val (.ref a1), .val (.ref a2), .val (.int 0), .val (.int 2), .val .null, .unset] [(.ref a1)])) rfl (by rw [hml]; rfl) rfl (hb hby d2_1) (by decide) (W := 0) (by show 2 * 0 + _ ≤ _; exact Nat.le_of_eq rfl) (by decide)
  obtain ⟨T5, X5, e5, st5⟩ := getS2 X3 hx hZ hown (host := "") (Or.inl (w_15 hw)) Via.refl e3 (S_COMPACT_STRINGS.ext Od0.2) (g := (mkF m 27 #[.val (.ref a1), .val (.ref a2), .val (.int 0), .val (.int 2), .val .null, .unset] [])) rfl (hb hby d2_27)
  obtain ⟨_, T14, L14, X14, hQ14, st14⟩ := own_callS X5 hx hZ hown (y := y_6) (w_16 hw) (w_17 hw) (w_18 hw) (w_19 hw) (rm33 l Z a0 hw [] a2 p7 p8 k9 h0 n0 Z0 V_a2 S__assertionsDisabled Od0 S_HI_BYTE_SHIFT S_LO_BYTE_SHIFT c10 c11 c12 c13) e5 (Ls := #[.val (.ref a1), .val (.ref a2), .val (.int 0), .val (.int 2), .val .null, .unset]) (by rw [hml]; rfl) (argsL := [(.ref a2), (.int 0), (.int 2)]) (rest := []) (lenOf pd_4 rfl) (hb hby d2_36) (W := 0)
  obtain ⟨b14_m0, k14_kk1, u14_uu2, rfl, Nq14, K14, o14_0, o14_1, o14_2⟩ := hQ14
  have N14 := Fr.app N0 Nq14
  have s0 := K14.1
  obtain ⟨x15, ex15⟩ : ∃ z, z = (if (255 : Int32) < p7 then (4 : Int32) else (if (255 : Int32) < p8 then (4 : Int32) else (2 : Int32))) := ⟨_, rfl⟩
  have o14_2' : Arv Z T14.heap b14_m0 k14_kk1 .byte x15 u14_uu2 (.int 0) := by rw [ex15]; exact o14_2
  have z1 := Nat.le_trans Z0 s0
  obtain ⟨_, T16, L16, X16, hQ16, st16⟩ := own_callS X14 hx hZ hown (y := y_7) (w_24 hw) (w_25 hw) (w_18 hw) (w_26 hw) (rm34 l Z a0 hw [] b14_m0 u14_uu2 k14_kk1 x15 T14.heap n0 z1 o14_2') rfl (Ls := #[.val (.ref a1), .val (.ref a2), .val (.int 0), .val (.int 2), .val .null, .val (.ref b14_m0)]) (by rw [hml]; rfl) (argsL := [(.ref b14_m0), (.int 2)]) (rest := [(.ref a1)]) (lenOf pd_6 rfl) (hb hby d2_45) (W := 1)
  obtain ⟨rfl, Nq16, e16⟩ := hQ16
  have N16 := Fr.app N14 Nq16
  have Fl17 := (F_coder_a1.keep K14 nin0)
  have Ex18 := (E_a1.keep K14)
  obtain ⟨T19, h19, X19, e19, W19, st19⟩ := putFN X16 hx hZ hown (w_27 hw) Via.refl e16 Fl17 Ex18 (Or.inr ⟨(w_28 hw), rfl, hnm⟩) (w_2 hw) (ty := .byte) (v' := (.int (nar .byte (nar .byte (((((2 : Int32) - x15).toUInt32 >>> ((31 : Int32) &&& 31).toUInt32).toInt32).toInt8.toInt32))))) (by decide) rfl (fits_nar_byte _) (g := (mkF m 48 #[.val (.ref a1), .val (.ref a2), .val (.int 0), .val (.int 2), .val .null, .val (.ref b14_m0)] [(.int (nar .byte (((((2 : Int32) - x15).toUInt32 >>> ((31 : Int32) &&& 31).toUInt32).toInt32).toInt8.toInt32))), (.ref a1)])) rfl rfl (hb hby d2_48)
  have s1 := (Keep.of_wr W19).1
  have N19 := Fr.snoc X19 N16 g_a1
  have Fw19 : Fld Z h19 a1 "java/lang/String" "coder" "B" (.int (nar .byte (nar .byte (((((2 : Int32) - x15).toUInt32 >>> ((31 : Int32) &&& 31).toUInt32).toInt32).toInt8.toInt32)))) := Fl17.same W19
  have Ex20 := (Ex18.wr W19)
  have Fl21 := ((F_value_a1.keep K14 nin0).other W19 (Or.inr (slot_ne (Or.inr (w_30 hw)) (Or.inr (w_28 hw)) (by decide) (t := (.array .byte)) (t' := .byte) (by decide) (by decide))))
  obtain ⟨T22, h22, X22, e22, W22, st22⟩ := putF X19 hx hZ hown (host := "") (Or.inl (w_29 hw)) Via.refl e19 Fl21 Ex20 (Or.inr ⟨(w_30 hw), rfl, hnm⟩) (w_2 hw) (ty := (.array .byte)) (by decide) rfl rfl (g := (mkF m 54 #[.val (.ref a1), .val (.ref a2), .val (.int 0), .val (.int 2), .val .null, .val (.ref b14_m0)] [(.ref b14_m0), (.ref a1)])) rfl rfl (hb hby d2_54)
  have s2 := (Keep.of_wr W22).1
  have N22 := Fr.snoc X22 N19 g_a1
  have Fw22 : Fld Z h22 a1 "java/lang/String" "value" "[B" (.ref b14_m0) := Fl21.same W22
  have Ex23 := (Ex20.wr W22)
  have Fl24 := (Fw19.other W22 (Or.inr (slot_ne (Or.inr (w_28 hw)) (Or.inr (w_30 hw)) (by decide) (t := .byte) (t' := (.array .byte)) (by decide) (by decide))))
  have sz_b14_m0 : h0.size ≤ b14_m0 := o14_0
  have Ex25 := ((o14_1.wr W19).wr W22)
  have ne_a1_b14_m0 := Nat.ne_of_lt (Nat.lt_of_lt_of_le F_value_a1.lt o14_0)
  have Va26 := ((o14_2'.other W19 (Ne.symm ne_a1_b14_m0)).other W22 (Ne.symm ne_a1_b14_m0))
  have Kp0 : Keep h0 T14.heap [a1] := (Keep.refl h0 [a1]).trans K14 all0
  have Kp1 : Keep h0 h19 [a1] := Kp0.wr W19 (Or.inl (List.mem_of_getElem? (i := 0) rfl))
  have Kp2 : Keep h0 h22 [a1] := Kp1.wr W22 (Or.inl (List.mem_of_getElem? (i := 0) rfl))
  refine ⟨T22, _, _, _, none, X22, (fun _ => rfl), by decide, by decide, ?_, fun fs hr => ?_⟩
  · rw [e22]
    subst ex15
    exact ⟨b14_m0, k14_kk1, u14_uu2, rfl, N22, Kp2, Ex23, Fl24, Fw22, sz_b14_m0, Ex25, Va26⟩
  · refine XS.aloadN X0.here hx rfl (hb hby d2_0) rfl rfl ?_
    refine st3 _ ?_
    refine XS.iloadN X3.here hx rfl (hb hby d2_4) rfl ?_
    refine XS.ifYes X3.here hx rfl (pc0 := 5) (pc' := 27) rfl (hb hby d2_5) rfl ((if0 _ _).trans (feq ((by decide : ¬ ((2 : Int32) = (0 : Int32))) : ¬ ((2 : Int32) = (0 : Int32)))).2) (by decide) (by decide) ?_
    refine st5 _ ?_
    refine XS.ifNo X5.here hx rfl (hb hby d2_30) rfl ((if0 _ _).trans (feq (c6 : ¬ (p4 = (0 : Int32)))).1) ?_
    refine XS.aloadN X5.here hx rfl (hb hby d2_33) rfl rfl ?_
    refine XS.iloadN X5.here hx rfl (hb hby d2_34) rfl ?_
    refine XS.iloadN X5.here hx rfl (hb hby d2_35) rfl ?_
    refine st14 _ ?_
    refine XS.astore X14.here hx rfl (hb hby d2_39) rfl rfl (l' := #[.val (.ref a1), .val (.ref a2), .val (.int 0), .val (.int 2), .val .null, .val (.ref b14_m0)]) rfl ?_
    show Steps p.tables e below (T14.setTop (mkF m 41 #[.val (.ref a1), .val (.ref a2), .val (.int 0), .val (.int 2), .val .null, .val (.ref b14_m0)] [])) _
    refine XS.aloadN X14.here hx rfl (hb hby d2_41) rfl rfl ?_
    refine XS.aload X14.here hx rfl (hb hby d2_42) rfl rfl ?_
    refine XS.iloadN X14.here hx rfl (hb hby d2_44) rfl ?_
    refine st16 _ ?_
    refine st19 _ ?_
    refine XS.aloadN X19.here hx rfl (hb hby d2_51) rfl rfl ?_
    refine XS.aload X19.here hx rfl (hb hby d2_52) rfl rfl ?_
    refine st22 _ ?_
    exact X22.returnOut hx hret (hb hby d2_57) hr
-- java/lang/String.<init>([C)V
abbrev Rm36 : Room := { frames := 5, cells := 2, slots := 6, locals := 74 }
def Q36 (Z : State) (a1 : Addr) (a2 : Addr) (p3 : Int32) (p4 : Int32) (k5 : ClassId) (p7 : Int32) (h0 : Heap) (n0 : Nat) (v : Option Value) (h : Heap) (L : List Loc) : Prop := ∃ b13_b14_m0 : Addr, ∃ k13_k14_kk1 : ClassId, ∃ u13_u14_uu2 : List Value, v = none ∧ Fr n0 L ∧ Keep h0 h [a1] ∧ Exa Z h a1 "java/lang/String" ∧ Fld Z h a1 "java/lang/String" "coder" "B" (.int (nar .byte (nar .byte (((((2 : Int32) - (if (255 : Int32) < p3 then (4 : Int32) else (if (255 : Int32) < p4 then (4 : Int32) else (2 : Int32)))).toUInt32 >>> ((31 : Int32) &&& 31).toUInt32).toInt32).toInt8.toInt32)))) ∧ Fld Z h a1 "java/lang/String" "value" "[B" (.ref b13_b14_m0) ∧ h0.size ≤ b13_b14_m0 ∧ Exa Z h b13_b14_m0 "[B" ∧ Arv Z h b13_b14_m0 k13_k14_kk1 .byte (if (255 : Int32) < p3 then (4 : Int32) else (if (255 : Int32) < p4 then (4 : Int32) else (2 : Int32))) u13_u14_uu2 (.int 0)
-- ef_463e93
theorem rm36 (l : Launch) (Z : State) (a0 : Array Value) (hw : ∀ d ∈ tables_1, d.before a0 Z = true) (ws : List Jvm.Cond) (a1 : Addr) (a2 : Addr) (p3 : Int32) (p4 : Int32) (k5 : ClassId) (p7 : Int32) (h0 : Heap) (n0 : Nat) (Z0 : n0 ≤ h0.size) (V_a2 : Arv Z h0 a2 k5 .char (2 : Int32) [(.int p3), (.int p4)] (.int 0)) (S_COMPACT_STRINGS : Sta Z Z.heap "java/lang/String" "COMPACT_STRINGS" "Z" (.int p7)) (Od0 : Old Z n0 h0) (c8 : ¬ (p7 = (0 : Int32))) (S__assertionsDisabled : Sta Z Z.heap "java/lang/StringUTF16" "$assertionsDisabled" "Z" (.int 1)) (S_HI_BYTE_SHIFT : Sta Z Z.heap "java/lang/StringUTF16" "HI_BYTE_SHIFT" "I" (.int 0)) (S_LO_BYTE_SHIFT : Sta Z Z.heap "java/lang/StringUTF16" "LO_BYTE_SHIFT" "I" (.int 8)) (c9 : ¬ (p3 < (0 : Int32))) (c10 : ¬ ((65535 : Int32) < p3)) (c11 : ¬ (p4 < (0 : Int32))) (c12 : ¬ ((65535 : Int32) < p4)) (F_coder_a1 : Fld Z h0 a1 "java/lang/String" "coder" "B" (.int 0)) (E_a1 : Exa Z h0 a1 "java/lang/String") (g_a1 : n0 ≤ a1) (F_value_a1 : Fld Z h0 a1 "java/lang/String" "value" "[B" .null) :
    OwnMet l Z y_9 jdk_42_method_3_code 2 none ws Rm36 #[(.ref a1), (.ref a2)] h0 (Q36 Z a1 a2 p3 p4 k5 p7 h0 n0) := by
  refine own_body (plainFor_of_name pn_1) (ef_463e93 a1 a2) ?_
  intro p e s m below meth c s₁ hx hby hml hown hnm hret hZ X0 e0
  have N0 := Fr.nil n0
  obtain ⟨cl6, Ar6, q6, S6, M6, Hs6, G6⟩ := id V_a2
  obtain ⟨_, T13, L13, X13, hQ13, st13⟩ := own_special X0 hx hZ hown (y := y_8) (a := a1) (w_8 hw) (w_9 hw) (w_3 hw) (w_11 hw) (rm35 l Z a0 hw [] a1 a2 p7 p3 p4 k5 h0 n0 Z0 S_COMPACT_STRINGS Od0 c8 V_a2 S__assertionsDisabled S_HI_BYTE_SHIFT S_LO_BYTE_SHIFT c9 c10 c11 c12 F_coder_a1 E_a1 g_a1 F_value_a1) e0 (Ls := #[.val (.ref a1), .val (.ref a2)]) (by rw [hml]; rfl) (argsL := [(.ref a2), (.int 0), (.int 2), .null]) (rest := []) (lenOf pd_7 rfl) (hb hby d1_6) (W := 0)
  obtain ⟨b13_b14_m0, k13_k14_kk1, u13_u14_uu2, rfl, Nq13, K13, o13_0, o13_1, o13_2, o13_3, o13_4, o13_5⟩ := hQ13
  have N13 := Fr.app N0 Nq13
  have s0 := K13.1
  obtain ⟨x14, ex14⟩ : ∃ z, z = (if (255 : Int32) < p3 then (4 : Int32) else (if (255 : Int32) < p4 then (4 : Int32) else (2 : Int32))) := ⟨_, rfl⟩
  have o13_5' : Arv Z T13.heap b13_b14_m0 k13_k14_kk1 .byte x14 u13_u14_uu2 (.int 0) := by rw [ex14]; exact o13_5
  have sz_b13_b14_m0 : h0.size ≤ b13_b14_m0 := o13_3
  have Kp0 : Keep h0 T13.heap [a1] := (Keep.refl h0 [a1]).trans K13 (allS (Or.inl (List.mem_of_getElem? (i := 0) rfl)) all0)
  refine ⟨T13, _, _, _, none, X13, (fun _ => rfl), by decide, by decide, ?_, fun fs hr => ?_⟩
  · subst ex14
    exact ⟨b13_b14_m0, k13_k14_kk1, u13_u14_uu2, rfl, N13, Kp0, o13_0, o13_1, o13_2, sz_b13_b14_m0, o13_4, o13_5'⟩
  · refine XS.aloadN X0.here hx rfl (hb hby d1_0) rfl rfl ?_
    refine XS.aloadN X0.here hx rfl (hb hby d1_1) rfl rfl ?_
    refine XS.iconst X0.here hx rfl (hb hby d1_2) ?_
    refine XS.aloadN X0.here hx rfl (hb hby d1_3) rfl rfl ?_
    refine X0.arraylength hx (by rw [e0]; exact Ar6.1) (State.isArrayOf_alike hZ.alike Ar6.2.1) (g := (mkF m 4 #[.val (.ref a1), .val (.ref a2)] [(.ref a2), (.int 0), (.ref a2), (.ref a1)])) rfl rfl (hb hby d1_4) _ ?_
    show Steps p.tables e below (s₁.setTop (mkF m 5 #[.val (.ref a1), .val (.ref a2)] [(.int cl6.slots.size.toInt32), (.int 0), (.ref a2), (.ref a1)])) _
    rw [len_of S6 M6]
    refine XS.aconstNull X0.here hx rfl (hb hby d1_5) ?_
    refine st13 _ ?_
    exact X13.returnOut hx hret (hb hby d1_9) hr
theorem rm0_2 (l : Launch) (Z : State) (a0 : Array Value) (hw : ∀ d ∈ tables_1, d.before a0 Z = true) (ws : List Jvm.Cond) (p1 : Int32) (p2 : Int32) (p3 : Int32) (p4 : Int32) (p5 : Int32) (p6 : Int32) (sr1 : Value) (si2 : Int32) (h0 : Heap) (n0 : Nat) (Z0 : n0 ≤ h0.size) (Od0 : Old Z n0 h0) (R_sr1 : sr1.isRef = true) (nc6 : ¬ (si2 = (0 : Int32))) (S7_SIOOBE_FORMATTER : Sta Z Z.heap "jdk/internal/util/Preconditions" "SIOOBE_FORMATTER" "Ljava/util/function/BiFunction;" sr1) (S8_COMPACT_STRINGS : Sta Z Z.heap "java/lang/String" "COMPACT_STRINGS" "Z" (.int si2)) (S9__assertionsDisabled : Sta Z Z.heap "java/lang/StringUTF16" "$assertionsDisabled" "Z" (.int 1)) (S10_HI_BYTE_SHIFT : Sta Z Z.heap "java/lang/StringUTF16" "HI_BYTE_SHIFT" "I" (.int 0)) (S11_LO_BYTE_SHIFT : Sta Z Z.heap "java/lang/StringUTF16" "LO_BYTE_SHIFT" "I" (.int 8)) (hk : (p1 &&& (3 : Int32)) = (1 : Int32)) (cc1 : (p6 &&& (1 : Int32)) = (0 : Int32)) :
    OwnMet l Z x code maxLocals ret ws room_1 #[(.int p1), (.int p2), (.int p3), (.int p4), (.int p5), (.int p6)] h0 (Q0 n0) := by
  refine own_body (plainFor_of_name pn_4) (ef0 p1 p2 p3 p4 p5 p6) ?_
  intro p e s m below meth c s₁ hx hby hml hown hnm hret hZ X0 e0
  have N0 := Fr.nil n0
  obtain ⟨x1, ex1⟩ : ∃ z, z = ((p2 &&& (65535 : Int32)).toUInt32.toUInt16.toUInt32.toInt32) := ⟨_, rfl⟩
  obtain ⟨x2, ex2⟩ : ∃ z, z = ((p3 &&& (65535 : Int32)).toUInt32.toUInt16.toUInt32.toInt32) := ⟨_, rfl⟩
  obtain ⟨x3, ex3⟩ : ∃ z, z = ((p4 &&& (65535 : Int32)).toUInt32.toUInt16.toUInt32.toInt32) := ⟨_, rfl⟩
  obtain ⟨x4, ex4⟩ : ∃ z, z = ((p5 &&& (65535 : Int32)).toUInt32.toUInt16.toUInt32.toInt32) := ⟨_, rfl⟩
  obtain ⟨T5, h5, X5, e5, E5, A5, D5, -, st5⟩ := newO X0 hx hZ hown (w_1 hw) (w_2 hw) (w_3 hw) e0 (g := (mkF m 68 #[.val (.int p1), .val (.int p2), .val (.int p3), .val (.int p4), .val (.int p5), .val (.int p6), .val (.int x1), .val (.int x2), .val (.int x3), .val (.int x4), .val (.int 2), .unset, .unset, .unset] [])) rfl (hb hby at_68) (by decide) (by decide)
  obtain ⟨b5, g5⟩ : ∃ z, z = h0.size := ⟨_, rfl⟩
  rw [← g5] at A5 D5 st5
  have s0 := E5.1
  have Fn5_coder : Fld Z h5 b5 "java/lang/String" "coder" "B" (.int 0) := D5 (Or.inr (w_28 hw)) (ty := .byte) (by decide)
  have Fn5_value : Fld Z h5 b5 "java/lang/String" "value" "[B" .null := D5 (Or.inr (w_30 hw)) (ty := (.array .byte)) (by decide)
  obtain ⟨T6, h6, k6, X6, e6, E6, A6, B6, st6⟩ := newPE (aty := .char) X5 hx hZ (w_4 hw) e5 (g := (mkF m 73 #[.val (.int p1), .val (.int p2), .val (.int p3), .val (.int p4), .val (.int p5), .val (.int p6), .val (.int x1), .val (.int x2), .val (.int x3), .val (.int x4), .val (.int 2), .unset, .unset, .unset] [(.int 2), (.ref b5), (.ref b5)])) rfl (hb hby at_73) rfl (by decide) (cap := 2) (by decide) (by decide) (by decide) (by decide) (ad := "[C") (by decide)
  obtain ⟨b6, g6⟩ : ∃ z, z = h5.size := ⟨_, rfl⟩
  rw [← g6] at A6 B6 st6
  have s1 := E6.1
  have Vn6 : Arv Z h6 b6 k6 .char (2 : Int32) [(.int 0), (.int 0)] (.int 0) := (Arv.new A6 (by decide)).pad (pad_rep [] (.int 0) 2)
  obtain ⟨cl7, Ar7, q7, S7, M7, Hs7, G7⟩ := id Vn6
  have hin8 : ¬ ((0 : Int32) < 0 ∨ cl7.slots.size ≤ ((0 : Int32)).toNatClampNeg) := inb_of S7 ⟨(by decide : ¬ ((0 : Int32) < (0 : Int32))), (by decide : (0 : Int32) < (2 : Int32))⟩
  obtain ⟨T9, h9, X9, e9, W9, st9⟩ := stC X6 hx hZ e6 Ar7 (j := (0 : Int32)) hin8 (g := (mkF m 79 #[.val (.int p1), .val (.int p2), .val (.int p3), .val (.int p4), .val (.int p5), .val (.int p6), .val (.int x1), .val (.int x2), .val (.int x3), .val (.int x4), .val (.int 2), .unset, .unset, .unset] [(.int x1), (.int 0), (.ref b6), (.ref b6), (.ref b5), (.ref b5)])) rfl rfl (hb hby at_79)
  have s2 := (Keep.of_wr W9).1
  have z1 := Nat.le_trans Z0 s0
  have g_b6 : n0 ≤ b6 := Nat.le_trans z1 (Nat.le_of_eq g6.symm)
  have N9 := Fr.snoc X9 N0 g_b6
  have Vs9 : Arv Z h9 b6 k6 .char (2 : Int32) [(.int (nar .char x1)), (.int 0)] (.int 0) := Arv.set Ar7 q7 S7 M7 Hs7 G7 (fits_nar_char _) W9 0 rfl (Nat.le_of_ble_eq_true rfl)
  obtain ⟨cl10, Ar10, q10, S10, M10, Hs10, G10⟩ := id Vs9
  have hin11 : ¬ ((1 : Int32) < 0 ∨ cl10.slots.size ≤ ((1 : Int32)).toNatClampNeg) := inb_of S10 ⟨(by decide : ¬ ((1 : Int32) < (0 : Int32))), (by decide : (1 : Int32) < (2 : Int32))⟩
  obtain ⟨T12, h12, X12, e12, W12, st12⟩ := stC X9 hx hZ e9 Ar10 (j := (1 : Int32)) hin11 (g := (mkF m 84 #[.val (.int p1), .val (.int p2), .val (.int p3), .val (.int p4), .val (.int p5), .val (.int p6), .val (.int x1), .val (.int x2), .val (.int x3), .val (.int x4), .val (.int 2), .unset, .unset, .unset] [(.int x2), (.int 1), (.ref b6), (.ref b6), (.ref b5), (.ref b5)])) rfl rfl (hb hby at_84)
  have s3 := (Keep.of_wr W12).1
  have N12 := Fr.snoc X12 N9 g_b6
  have Vs12 : Arv Z h12 b6 k6 .char (2 : Int32) [(.int (nar .char x1)), (.int (nar .char x2))] (.int 0) := Arv.set Ar10 q10 S10 M10 Hs10 G10 (fits_nar_char _) W12 1 rfl (Nat.le_of_ble_eq_true rfl)
  have Od1 : Old Z n0 h5 := Od0.ext E5
  have Od2 : Old Z n0 h6 := Od1.ext E6
  have Od3 : Old Z n0 h9 := Od2.wr W9 g_b6
  have Od4 : Old Z n0 h12 := Od3.wr W12 g_b6
  have cd13 : ¬ ((nar .char ((p2 &&& (65535 : Int32)).toUInt32.toUInt16.toUInt32.toInt32)) < (0 : Int32)) := (by rw [Int32.lt_iff_toInt_lt]; have := rng32 (nar .char ((p2 &&& (65535 : Int32)).toUInt32.toUInt16.toUInt32.toInt32)); have := rng32 ((p2 &&& (65535 : Int32)).toUInt32.toUInt16.toUInt32.toInt32); have := rng32 (p2 &&& (65535 : Int32)); have := rng32 p2; have := own_mask p2 (65535 : Int32) 16 (by decide) (by decide) 65536 (by decide); have := c_i2c (p2 &&& (65535 : Int32)); have := own_c_nar_char ((p2 &&& (65535 : Int32)).toUInt32.toUInt16.toUInt32.toInt32); have : ((0 : Int32)).toInt = 0 := (by decide); omega)
  have cd14 : ¬ ((65535 : Int32) < (nar .char ((p2 &&& (65535 : Int32)).toUInt32.toUInt16.toUInt32.toInt32))) := (by rw [Int32.lt_iff_toInt_lt]; have : ((65535 : Int32)).toInt = 65535 := (by decide); have := rng32 (nar .char ((p2 &&& (65535 : Int32)).toUInt32.toUInt16.toUInt32.toInt32)); have := rng32 ((p2 &&& (65535 : Int32)).toUInt32.toUInt16.toUInt32.toInt32); have := rng32 (p2 &&& (65535 : Int32)); have := rng32 p2; have := own_mask p2 (65535 : Int32) 16 (by decide) (by decide) 65536 (by decide); have := c_i2c (p2 &&& (65535 : Int32)); have := own_c_nar_char ((p2 &&& (65535 : Int32)).toUInt32.toUInt16.toUInt32.toInt32); omega)
  have cd15 : ¬ ((nar .char ((p3 &&& (65535 : Int32)).toUInt32.toUInt16.toUInt32.toInt32)) < (0 : Int32)) := (by rw [Int32.lt_iff_toInt_lt]; have := rng32 (nar .char ((p3 &&& (65535 : Int32)).toUInt32.toUInt16.toUInt32.toInt32)); have := rng32 ((p3 &&& (65535 : Int32)).toUInt32.toUInt16.toUInt32.toInt32); have := rng32 (p3 &&& (65535 : Int32)); have := rng32 p3; have := own_mask p3 (65535 : Int32) 16 (by decide) (by decide) 65536 (by decide); have := c_i2c (p3 &&& (65535 : Int32)); have := own_c_nar_char ((p3 &&& (65535 : Int32)).toUInt32.toUInt16.toUInt32.toInt32); have : ((0 : Int32)).toInt = 0 := (by decide); omega)
  have cd16 : ¬ ((65535 : Int32) < (nar .char ((p3 &&& (65535 : Int32)).toUInt32.toUInt16.toUInt32.toInt32))) := (by rw [Int32.lt_iff_toInt_lt]; have : ((65535 : Int32)).toInt = 65535 := (by decide); have := rng32 (nar .char ((p3 &&& (65535 : Int32)).toUInt32.toUInt16.toUInt32.toInt32)); have := rng32 ((p3 &&& (65535 : Int32)).toUInt32.toUInt16.toUInt32.toInt32); have := rng32 (p3 &&& (65535 : Int32)); have := rng32 p3; have := own_mask p3 (65535 : Int32) 16 (by decide) (by decide) 65536 (by decide); have := c_i2c (p3 &&& (65535 : Int32)); have := own_c_nar_char ((p3 &&& (65535 : Int32)).toUInt32.toUInt16.toUInt32.toInt32); omega)
  have ne_b5_b6 := Nat.ne_of_lt (Nat.lt_of_lt_of_le Fn5_value.lt (Nat.le_of_eq g6.symm))
  have Fl17 := (((Fn5_coder.ext E6).other W9 (Or.inl ne_b5_b6)).other W12 (Or.inl ne_b5_b6))
  have Ex18 := (((A5.ext E6).wr W9).wr W12)
  have g_b5 : n0 ≤ b5 := Nat.le_trans Z0 (Nat.le_of_eq g5.symm)
  have Fl19 := (((Fn5_value.ext E6).other W9 (Or.inl ne_b5_b6)).other W12 (Or.inl ne_b5_b6))
  have z4 := Nat.le_trans Z0 (Nat.le_trans (Nat.le_trans (Nat.le_trans s0 s1) s2) s3)
  obtain ⟨_, T20, L20, X20, hQ20, st20⟩ := own_special X12 hx hZ hown (y := y_9) (a := b5) (w_5 hw) (w_6 hw) (w_3 hw) (w_7 hw) (rm36 l Z a0 hw [] b5 b6 (nar .char x1) (nar .char x2) k6 si2 h12 n0 z4 Vs12 S8_COMPACT_STRINGS Od4 nc6 S9__assertionsDisabled S10_HI_BYTE_SHIFT S11_LO_BYTE_SHIFT (by rw [ex1]; exact cd13) (by rw [ex1]; exact cd14) (by rw [ex2]; exact cd15) (by rw [ex2]; exact cd16) Fl17 Ex18 g_b5 Fl19) e12 (Ls := #[.val (.int p1), .val (.int p2), .val (.int p3), .val (.int p4), .val (.int p5), .val (.int p6), .val (.int x1), .val (.int x2), .val (.int x3), .val (.int x4), .val (.int 2), .unset, .unset, .unset]) (by rw [hml]; rfl) (argsL := [(.ref b6)]) (rest := [(.ref b5)]) (lenOf pd_8 rfl) (hb hby at_85) (W := 1)
  obtain ⟨b20_b13_b14_m0, k20_k13_k14_kk1, u20_u13_u14_uu2, rfl, Nq20, K20, o20_0, o20_1, o20_2, o20_3, o20_4, o20_5⟩ := hQ20
  have N20 := Fr.app N12 Nq20
  have s4 := K20.1
  obtain ⟨x21, ex21⟩ : ∃ z, z = (if (255 : Int32) < (nar .char x1) then (4 : Int32) else (if (255 : Int32) < (nar .char x2) then (4 : Int32) else (2 : Int32))) := ⟨_, rfl⟩
  have o20_5' : Arv Z T20.heap b20_b13_b14_m0 k20_k13_k14_kk1 .byte x21 u20_u13_u14_uu2 (.int 0) := by rw [ex21]; exact o20_5
  obtain ⟨x22, ex22⟩ : ∃ z, z = ((p6.toUInt32 >>> ((1 : Int32) &&& 31).toUInt32).toInt32) := ⟨_, rfl⟩
  obtain ⟨x23, ex23⟩ : ∃ z, z = (x22 &&& (65535 : Int32)) := ⟨_, rfl⟩
  obtain ⟨x24, ex24⟩ : ∃ z, z = (x23.toUInt32.toUInt16.toUInt32.toInt32) := ⟨_, rfl⟩
  have Od5 : Old Z n0 T20.heap := Od4.keep K20 (allS g_b5 all0)
  have z5 := Nat.le_trans Z0 (Nat.le_trans (Nat.le_trans (Nat.le_trans (Nat.le_trans s0 s1) s2) s3) s4)
  obtain ⟨_, T25, L25, X25, hQ25, st25⟩ := own_callS X20 hx hZ hown (y := y_14) (w_53 hw) (w_54 hw) (w_3 hw) (w_55 hw) (rm18 l Z a0 hw [] x24 si2 T20.heap n0 z5 S8_COMPACT_STRINGS Od5 nc6 S9__assertionsDisabled S10_HI_BYTE_SHIFT S11_LO_BYTE_SHIFT) rfl (Ls := #[.val (.int p1), .val (.int p2), .val (.int p3), .val (.int p4), .val (.int p5), .val (.int p6), .val (.int x1), .val (.int x2), .val (.int x3), .val (.int x4), .val (.int 2), .val (.ref b5), .unset, .unset]) (by rw [hml]; rfl) (argsL := [(.int x24)]) (rest := []) (lenOf pd_12 rfl) (hb hby at_183) (W := 0)
  obtain ⟨b25_m0, b25_m1, k25_kk2, u25_uu3, rfl, Nq25, K25, o25_0, o25_1, o25_2, o25_3, o25_4, o25_5, o25_6, o25_7⟩ := hQ25
  have N25 := Fr.app N20 Nq25
  have s5 := K25.1
  obtain ⟨x26, ex26⟩ : ∃ z, z = (if (255 : Int32) < x24 then (1 : Int32) else (0 : Int32)) := ⟨_, rfl⟩
  have o25_2' : Fld Z T25.heap b25_m0 "java/lang/String" "coder" "B" (.int x26) := by rw [ex26]; exact o25_2
  obtain ⟨x27, ex27⟩ : ∃ z, z = (if (255 : Int32) < x24 then (2 : Int32) else (1 : Int32)) := ⟨_, rfl⟩
  have o25_6' : Arv Z T25.heap b25_m1 k25_kk2 .byte x27 u25_uu3 (.int 0) := by rw [ex27]; exact o25_6
  have Ex28 := (o20_0.keep K25)
  have Fl29 := (o20_2.keep K25 nin0)
  have Va30 := (o20_5'.keep K25 nin0)
  have cd31 : ¬ ((if (255 : Int32) < (nar .char ((p2 &&& (65535 : Int32)).toUInt32.toUInt16.toUInt32.toInt32)) then (4 : Int32) else (if (255 : Int32) < (nar .char ((p3 &&& (65535 : Int32)).toUInt32.toUInt16.toUInt32.toInt32)) then (4 : Int32) else (2 : Int32))) = (0 : Int32)) := (by by_cases hi0 : (255 : Int32) < (nar .char ((p2 &&& (65535 : Int32)).toUInt32.toUInt16.toUInt32.toInt32)); exact (by simp only [if_pos hi0]; decide); exact (by simp only [if_neg hi0]; by_cases hi1 : (255 : Int32) < (nar .char ((p3 &&& (65535 : Int32)).toUInt32.toUInt16.toUInt32.toInt32)); exact (by simp only [if_pos hi1]; decide); exact (by simp only [if_neg hi1]; decide)))
  have z6 := Nat.le_trans Z0 (Nat.le_trans (Nat.le_trans (Nat.le_trans (Nat.le_trans (Nat.le_trans s0 s1) s2) s3) s4) s5)
  obtain ⟨_, T32, L32, X32, hQ32, st32⟩ := own_callS X25 hx hZ hown (y := y_16) (w_34 hw) (w_35 hw) (w_36 hw) (w_37 hw) (rm20 l Z a0 hw [] b5 b25_m0 b20_b13_b14_m0 u20_u13_u14_uu2 k20_k13_k14_kk1 x21 T25.heap n0 z6 Ex28 Fl29 Va30 (by rw [ex21, ex2, ex1]; exact cd31)) rfl (Ls := #[.val (.int p1), .val (.int p2), .val (.int p3), .val (.int p4), .val (.int p5), .val (.int p6), .val (.int x1), .val (.int x2), .val (.int x3), .val (.int x4), .val (.int 2), .val (.ref b5), .val (.ref b25_m0), .unset]) (by rw [hml]; rfl) (argsL := [(.ref b5), (.ref b25_m0)]) (rest := []) (lenOf pd_14 rfl) (hb hby at_192) (W := 0)
  obtain ⟨rfl, Nq32, e32⟩ := hQ32
  have N32 := Fr.app N25 Nq32
  have Od6 : Old Z n0 T25.heap := Od5.keep K25 all0
  have Fl33 := (o20_1.keep K25 nin0)
  obtain ⟨_, T34, L34, X34, hQ34, st34⟩ := own_virtual X32 hx hZ hown (y := y_18) (z := y_18) Ex28 (w_43 hw) (w_44 hw) (notFace_of_selects (args := #[]) (mvT hZ (w_46 hw))) (w_46 hw) (w_45 hw) (w_3 hw) (w_47 hw) (rm22 l Z a0 hw [] b5 b20_b13_b14_m0 u20_u13_u14_uu2 k20_k13_k14_kk1 x21 si2 (nar .byte (nar .byte (((((2 : Int32) - (if (255 : Int32) < (nar .char x1) then (4 : Int32) else (if (255 : Int32) < (nar .char x2) then (4 : Int32) else (2 : Int32)))).toUInt32 >>> ((31 : Int32) &&& 31).toUInt32).toInt32).toInt8.toInt32))) T25.heap n0 z6 Fl29 Va30 Ex28 S8_COMPACT_STRINGS Od6 nc6 Fl33) e32 (Ls := #[.val (.int p1), .val (.int p2), .val (.int p3), .val (.int p4), .val (.int p5), .val (.int p6), .val (.int x1), .val (.int x2), .val (.int x3), .val (.int x4), .val (.int 2), .val (.ref b5), .val (.ref b25_m0), .val (.ref b5)]) (by rw [hml]; rfl) (argsL := []) (rest := []) (lenOf pd_16 rfl) (hb hby at_206) (W := 0)
  obtain ⟨rfl, Nq34, e34⟩ := hQ34
  have N34 := Fr.app N32 Nq34
  obtain ⟨x35, ex35⟩ : ∃ z, z = (x21 >>> ((nar .byte (nar .byte (nar .byte (((((2 : Int32) - (if (255 : Int32) < (nar .char x1) then (4 : Int32) else (if (255 : Int32) < (nar .char x2) then (4 : Int32) else (2 : Int32)))).toUInt32 >>> ((31 : Int32) &&& 31).toUInt32).toInt32).toInt8.toInt32)))) &&& 31)) := ⟨_, rfl⟩
  have cd36 : ((if (255 : Int32) < (nar .char ((p2 &&& (65535 : Int32)).toUInt32.toUInt16.toUInt32.toInt32)) then (4 : Int32) else (if (255 : Int32) < (nar .char ((p3 &&& (65535 : Int32)).toUInt32.toUInt16.toUInt32.toInt32)) then (4 : Int32) else (2 : Int32))) >>> ((nar .byte (nar .byte (nar .byte (((((2 : Int32) - (if (255 : Int32) < (nar .char ((p2 &&& (65535 : Int32)).toUInt32.toUInt16.toUInt32.toInt32)) then (4 : Int32) else (if (255 : Int32) < (nar .char ((p3 &&& (65535 : Int32)).toUInt32.toUInt16.toUInt32.toInt32)) then (4 : Int32) else (2 : Int32)))).toUInt32 >>> ((31 : Int32) &&& 31).toUInt32).toInt32).toInt8.toInt32)))) &&& 31)) = (2 : Int32) := (by by_cases hi0 : (255 : Int32) < (nar .char ((p2 &&& (65535 : Int32)).toUInt32.toUInt16.toUInt32.toInt32)); exact (by simp only [if_pos hi0]; decide); exact (by simp only [if_neg hi0]; by_cases hi1 : (255 : Int32) < (nar .char ((p3 &&& (65535 : Int32)).toUInt32.toUInt16.toUInt32.toInt32)); exact (by simp only [if_pos hi1]; decide); exact (by simp only [if_neg hi1]; decide)))
  refine ⟨T34, _, _, _, (some (.int 1)), X34, nofun, by decide, by decide, ?_, fun fs hr => ?_⟩
  · show Q0 n0 _ T34.heap _
    rw [e34]
    subst ex35
    subst ex27
    subst ex26
    subst ex24
    subst ex23
    subst ex22
    subst ex21
    subst ex4
    subst ex3
    subst ex2
    subst ex1
    exact ⟨rfl, N34⟩
  · refine XS.iloadN X0.here hx rfl (hb hby at_0) rfl ?_
    refine X0.ldcInt hx hown (mvT hZ (w_0 hw)) (g := (mkF m 1 #[.val (.int p1), .val (.int p2), .val (.int p3), .val (.int p4), .val (.int p5), .val (.int p6), .unset, .unset, .unset, .unset, .unset, .unset, .unset, .unset] [(.int p2)])) rfl (hb hby at_1) _ ?_
    refine XS.iand X0.here hx rfl (hb hby at_3) rfl ?_
    refine XS.i2c X0.here hx rfl (hb hby at_4) rfl ?_
    show Steps p.tables e below (s₁.setTop (mkF m 5 #[.val (.int p1), .val (.int p2), .val (.int p3), .val (.int p4), .val (.int p5), .val (.int p6), .unset, .unset, .unset, .unset, .unset, .unset, .unset, .unset] [(.int ((p2 &&& (65535 : Int32)).toUInt32.toUInt16.toUInt32.toInt32))])) _
    rw [← ex1]
    refine XS.istore X0.here hx rfl (hb hby at_5) rfl (l' := #[.val (.int p1), .val (.int p2), .val (.int p3), .val (.int p4), .val (.int p5), .val (.int p6), .val (.int x1), .unset, .unset, .unset, .unset, .unset, .unset, .unset]) rfl ?_
    refine XS.iloadN X0.here hx rfl (hb hby at_7) rfl ?_
    refine X0.ldcInt hx hown (mvT hZ (w_0 hw)) (g := (mkF m 8 #[.val (.int p1), .val (.int p2), .val (.int p3), .val (.int p4), .val (.int p5), .val (.int p6), .val (.int x1), .unset, .unset, .unset, .unset, .unset, .unset, .unset] [(.int p3)])) rfl (hb hby at_8) _ ?_
    refine XS.iand X0.here hx rfl (hb hby at_10) rfl ?_
    refine XS.i2c X0.here hx rfl (hb hby at_11) rfl ?_
    show Steps p.tables e below (s₁.setTop (mkF m 12 #[.val (.int p1), .val (.int p2), .val (.int p3), .val (.int p4), .val (.int p5), .val (.int p6), .val (.int x1), .unset, .unset, .unset, .unset, .unset, .unset, .unset] [(.int ((p3 &&& (65535 : Int32)).toUInt32.toUInt16.toUInt32.toInt32))])) _
    rw [← ex2]
    refine XS.istore X0.here hx rfl (hb hby at_12) rfl (l' := #[.val (.int p1), .val (.int p2), .val (.int p3), .val (.int p4), .val (.int p5), .val (.int p6), .val (.int x1), .val (.int x2), .unset, .unset, .unset, .unset, .unset, .unset]) rfl ?_
    refine XS.iloadN X0.here hx rfl (hb hby at_14) rfl ?_
    refine X0.ldcInt hx hown (mvT hZ (w_0 hw)) (g := (mkF m 15 #[.val (.int p1), .val (.int p2), .val (.int p3), .val (.int p4), .val (.int p5), .val (.int p6), .val (.int x1), .val (.int x2), .unset, .unset, .unset, .unset, .unset, .unset] [(.int p4)])) rfl (hb hby at_15) _ ?_
    refine XS.iand X0.here hx rfl (hb hby at_17) rfl ?_
    refine XS.i2c X0.here hx rfl (hb hby at_18) rfl ?_
    show Steps p.tables e below (s₁.setTop (mkF m 19 #[.val (.int p1), .val (.int p2), .val (.int p3), .val (.int p4), .val (.int p5), .val (.int p6), .val (.int x1), .val (.int x2), .unset, .unset, .unset, .unset, .unset, .unset] [(.int ((p4 &&& (65535 : Int32)).toUInt32.toUInt16.toUInt32.toInt32))])) _
    rw [← ex3]
    refine XS.istore X0.here hx rfl (hb hby at_19) rfl (l' := #[.val (.int p1), .val (.int p2), .val (.int p3), .val (.int p4), .val (.int p5), .val (.int p6), .val (.int x1), .val (.int x2), .val (.int x3), .unset, .unset, .unset, .unset, .unset]) rfl ?_
    refine XS.iload X0.here hx rfl (hb hby at_21) rfl ?_
    refine X0.ldcInt hx hown (mvT hZ (w_0 hw)) (g := (mkF m 23 #[.val (.int p1), .val (.int p2), .val (.int p3), .val (.int p4), .val (.int p5), .val (.int p6), .val (.int x1), .val (.int x2), .val (.int x3), .unset, .unset, .unset, .unset, .unset] [(.int p5)])) rfl (hb hby at_23) _ ?_
    refine XS.iand X0.here hx rfl (hb hby at_25) rfl ?_
    refine XS.i2c X0.here hx rfl (hb hby at_26) rfl ?_
    show Steps p.tables e below (s₁.setTop (mkF m 27 #[.val (.int p1), .val (.int p2), .val (.int p3), .val (.int p4), .val (.int p5), .val (.int p6), .val (.int x1), .val (.int x2), .val (.int x3), .unset, .unset, .unset, .unset, .unset] [(.int ((p5 &&& (65535 : Int32)).toUInt32.toUInt16.toUInt32.toInt32))])) _
    rw [← ex4]
    refine XS.istore X0.here hx rfl (hb hby at_27) rfl (l' := #[.val (.int p1), .val (.int p2), .val (.int p3), .val (.int p4), .val (.int p5), .val (.int p6), .val (.int x1), .val (.int x2), .val (.int x3), .val (.int x4), .unset, .unset, .unset, .unset]) rfl ?_
    refine XS.iloadN X0.here hx rfl (hb hby at_29) rfl ?_
    refine XS.iconst X0.here hx rfl (hb hby at_30) ?_
    refine XS.iand X0.here hx rfl (hb hby at_31) rfl ?_
    show Steps p.tables e below (s₁.setTop (mkF m 32 #[.val (.int p1), .val (.int p2), .val (.int p3), .val (.int p4), .val (.int p5), .val (.int p6), .val (.int x1), .val (.int x2), .val (.int x3), .val (.int x4), .unset, .unset, .unset, .unset] [(.int (p1 &&& (3 : Int32)))])) _
    rw [hk]
    refine XS.iconst X0.here hx rfl (hb hby at_32) ?_
    refine XS.iadd X0.here hx rfl (hb hby at_33) rfl ?_
    refine XS.istore X0.here hx rfl (hb hby at_34) rfl (l' := #[.val (.int p1), .val (.int p2), .val (.int p3), .val (.int p4), .val (.int p5), .val (.int p6), .val (.int x1), .val (.int x2), .val (.int x3), .val (.int x4), .val (.int 2), .unset, .unset, .unset]) rfl ?_
    refine XS.iload X0.here hx rfl (hb hby at_36) rfl ?_
    refine XS.iconst X0.here hx rfl (hb hby at_38) ?_
    refine XS.icmpYes X0.here hx rfl (pc0 := 39) (pc' := 62) rfl (hb hby at_39) rfl (feq ((by decide : ¬ ((2 : Int32) = (1 : Int32))) : ¬ ((2 : Int32) = (1 : Int32)))).2 (by decide) (by decide) ?_
    refine XS.iload X0.here hx rfl (hb hby at_62) rfl ?_
    refine XS.iconst X0.here hx rfl (hb hby at_64) ?_
    refine XS.icmpNo X0.here hx rfl (hb hby at_65) rfl (teq ((by decide : (2 : Int32) = (2 : Int32)) : (2 : Int32) = (2 : Int32))).2 ?_
    refine st5 _ ?_
    refine XS.dup X5.here hx rfl (hb hby at_71) rfl rfl ?_
    show Steps p.tables e below (T5.setTop (mkF m 72 #[.val (.int p1), .val (.int p2), .val (.int p3), .val (.int p4), .val (.int p5), .val (.int p6), .val (.int x1), .val (.int x2), .val (.int x3), .val (.int x4), .val (.int 2), .unset, .unset, .unset] [(.ref b5), (.ref b5)])) _
    refine XS.iconst X5.here hx rfl (hb hby at_72) ?_
    refine st6 _ ?_
    refine XS.dup X6.here hx rfl (hb hby at_75) rfl rfl ?_
    refine XS.iconst X6.here hx rfl (hb hby at_76) ?_
    refine XS.iload X6.here hx rfl (hb hby at_77) rfl ?_
    refine st9 _ ?_
    refine XS.dup X9.here hx rfl (hb hby at_80) rfl rfl ?_
    refine XS.iconst X9.here hx rfl (hb hby at_81) ?_
    refine XS.iload X9.here hx rfl (hb hby at_82) rfl ?_
    refine st12 _ ?_
    refine st20 _ ?_
    refine XS.astore X20.here hx rfl (hb hby at_88) rfl rfl (l' := #[.val (.int p1), .val (.int p2), .val (.int p3), .val (.int p4), .val (.int p5), .val (.int p6), .val (.int x1), .val (.int x2), .val (.int x3), .val (.int x4), .val (.int 2), .val (.ref b5), .unset, .unset]) rfl ?_
    show Steps p.tables e below (T20.setTop (mkF m 90 #[.val (.int p1), .val (.int p2), .val (.int p3), .val (.int p4), .val (.int p5), .val (.int p6), .val (.int x1), .val (.int x2), .val (.int x3), .val (.int x4), .val (.int 2), .val (.ref b5), .unset, .unset] [])) _
    refine XS.goto X20.here hx rfl (pc0 := 90) (pc' := 161) rfl (hb hby at_90) (by decide) (by decide) ?_
    refine XS.iload X20.here hx rfl (hb hby at_161) rfl ?_
    refine XS.iconst X20.here hx rfl (hb hby at_163) ?_
    refine XS.iand X20.here hx rfl (hb hby at_164) rfl ?_
    refine XS.ifYes X20.here hx rfl (pc0 := 165) (pc' := 175) rfl (hb hby at_165) rfl ((if0 _ _).trans (teq (cc1 : (p6 &&& (1 : Int32)) = (0 : Int32))).1) (by decide) (by decide) ?_
    refine XS.iload X20.here hx rfl (hb hby at_175) rfl ?_
    refine XS.iconst X20.here hx rfl (hb hby at_177) ?_
    refine XS.iushr X20.here hx rfl (hb hby at_178) rfl ?_
    show Steps p.tables e below (T20.setTop (mkF m 179 #[.val (.int p1), .val (.int p2), .val (.int p3), .val (.int p4), .val (.int p5), .val (.int p6), .val (.int x1), .val (.int x2), .val (.int x3), .val (.int x4), .val (.int 2), .val (.ref b5), .unset, .unset] [(.int ((p6.toUInt32 >>> ((1 : Int32) &&& 31).toUInt32).toInt32))])) _
    rw [← ex22]
    refine X20.ldcInt hx hown (mvT hZ (w_0 hw)) (g := (mkF m 179 #[.val (.int p1), .val (.int p2), .val (.int p3), .val (.int p4), .val (.int p5), .val (.int p6), .val (.int x1), .val (.int x2), .val (.int x3), .val (.int x4), .val (.int 2), .val (.ref b5), .unset, .unset] [(.int x22)])) rfl (hb hby at_179) _ ?_
    refine XS.iand X20.here hx rfl (hb hby at_181) rfl ?_
    show Steps p.tables e below (T20.setTop (mkF m 182 #[.val (.int p1), .val (.int p2), .val (.int p3), .val (.int p4), .val (.int p5), .val (.int p6), .val (.int x1), .val (.int x2), .val (.int x3), .val (.int x4), .val (.int 2), .val (.ref b5), .unset, .unset] [(.int (x22 &&& (65535 : Int32)))])) _
    rw [← ex23]
    refine XS.i2c X20.here hx rfl (hb hby at_182) rfl ?_
    show Steps p.tables e below (T20.setTop (mkF m 183 #[.val (.int p1), .val (.int p2), .val (.int p3), .val (.int p4), .val (.int p5), .val (.int p6), .val (.int x1), .val (.int x2), .val (.int x3), .val (.int x4), .val (.int 2), .val (.ref b5), .unset, .unset] [(.int (x23.toUInt32.toUInt16.toUInt32.toInt32))])) _
    rw [← ex24]
    refine st25 _ ?_
    refine XS.astore X25.here hx rfl (hb hby at_186) rfl rfl (l' := #[.val (.int p1), .val (.int p2), .val (.int p3), .val (.int p4), .val (.int p5), .val (.int p6), .val (.int x1), .val (.int x2), .val (.int x3), .val (.int x4), .val (.int 2), .val (.ref b5), .val (.ref b25_m0), .unset]) rfl ?_
    refine XS.aload X25.here hx rfl (hb hby at_188) rfl rfl ?_
    refine XS.aload X25.here hx rfl (hb hby at_190) rfl rfl ?_
    refine st32 _ ?_
    refine XS.astore X32.here hx rfl (hb hby at_195) rfl rfl (l' := #[.val (.int p1), .val (.int p2), .val (.int p3), .val (.int p4), .val (.int p5), .val (.int p6), .val (.int x1), .val (.int x2), .val (.int x3), .val (.int x4), .val (.int 2), .val (.ref b5), .val (.ref b25_m0), .val (.ref b5)]) rfl ?_
    refine XS.aload X32.here hx rfl (hb hby at_197) rfl rfl ?_
    refine XS.aload X32.here hx rfl (hb hby at_199) rfl rfl ?_
    refine Jvm.RoadKit.acmp (g := (mkF m 201 #[.val (.int p1), .val (.int p2), .val (.int p3), .val (.int p4), .val (.int p5), .val (.int p6), .val (.int x1), .val (.int x2), .val (.int x3), .val (.int x4), .val (.int 2), .val (.ref b5), .val (.ref b25_m0), .val (.ref b5)] [(.ref b5), (.ref b5)])) X32 hx rfl rfl rfl (pc0 := 201) (pc' := 204) (same := true) rfl (hb hby at_201) rfl (decide_eq_true rfl) (by decide) (by decide) ?_
    refine XS.aload X32.here hx rfl (hb hby at_204) rfl rfl ?_
    refine st34 _ ?_
    show Steps p.tables e below (T34.setTop (mkF m 209 #[.val (.int p1), .val (.int p2), .val (.int p3), .val (.int p4), .val (.int p5), .val (.int p6), .val (.int x1), .val (.int x2), .val (.int x3), .val (.int x4), .val (.int 2), .val (.ref b5), .val (.ref b25_m0), .val (.ref b5)] [(.int (x21 >>> ((nar .byte (nar .byte (nar .byte (((((2 : Int32) - (if (255 : Int32) < (nar .char x1) then (4 : Int32) else (if (255 : Int32) < (nar .char x2) then (4 : Int32) else (2 : Int32)))).toUInt32 >>> ((31 : Int32) &&& 31).toUInt32).toInt32).toInt8.toInt32)))) &&& 31)))])) _
    rw [← ex35]
    refine XS.iload X34.here hx rfl (hb hby at_209) rfl ?_
    refine XS.icmpNo X34.here hx rfl (hb hby at_211) rfl (teq ((by rw [ex35, ex21, ex2, ex1]; exact cd36) : x35 = (2 : Int32))).2 ?_
    refine XS.iconst X34.here hx rfl (hb hby at_214) ?_
    refine XS.goto X34.here hx rfl (pc0 := 215) (pc' := 219) rfl (hb hby at_215) (by decide) (by decide) ?_
    exact retN X34 hx (t := .boolean) hret (by simp) (hb hby at_219) hr
theorem rm0_3 (l : Launch) (Z : State) (a0 : Array Value) (hw : ∀ d ∈ tables_1, d.before a0 Z = true) (ws : List Jvm.Cond) (p1 : Int32) (p2 : Int32) (p3 : Int32) (p4 : Int32) (p5 : Int32) (p6 : Int32) (sr1 : Value) (si2 : Int32) (h0 : Heap) (n0 : Nat) (Z0 : n0 ≤ h0.size) (Od0 : Old Z n0 h0) (R_sr1 : sr1.isRef = true) (nc6 : ¬ (si2 = (0 : Int32))) (S7_SIOOBE_FORMATTER : Sta Z Z.heap "jdk/internal/util/Preconditions" "SIOOBE_FORMATTER" "Ljava/util/function/BiFunction;" sr1) (S8_COMPACT_STRINGS : Sta Z Z.heap "java/lang/String" "COMPACT_STRINGS" "Z" (.int si2)) (S9__assertionsDisabled : Sta Z Z.heap "java/lang/StringUTF16" "$assertionsDisabled" "Z" (.int 1)) (S10_HI_BYTE_SHIFT : Sta Z Z.heap "java/lang/StringUTF16" "HI_BYTE_SHIFT" "I" (.int 0)) (S11_LO_BYTE_SHIFT : Sta Z Z.heap "java/lang/StringUTF16" "LO_BYTE_SHIFT" "I" (.int 8)) (hk : (p1 &&& (3 : Int32)) = (1 : Int32)) (cc1 : ¬ ((p6 &&& (1 : Int32)) = (0 : Int32))) :
    OwnMetW l Z x code maxLocals ret ws room_1 #[(.int p1), (.int p2), (.int p3), (.int p4), (.int p5), (.int p6)] h0 (Q0 n0) := by
  refine own_bodyW (plainFor_of_name pn_4) (ef0 p1 p2 p3 p4 p5 p6) ?_
  intro p e s m below meth c s₁ hx hby hml hown hnm hret hZ hs0 hIB X0 e0
  have N0 := Fr.nil n0
  obtain ⟨x1, ex1⟩ : ∃ z, z = ((p2 &&& (65535 : Int32)).toUInt32.toUInt16.toUInt32.toInt32) := ⟨_, rfl⟩
  obtain ⟨x2, ex2⟩ : ∃ z, z = ((p3 &&& (65535 : Int32)).toUInt32.toUInt16.toUInt32.toInt32) := ⟨_, rfl⟩
  obtain ⟨x3, ex3⟩ : ∃ z, z = ((p4 &&& (65535 : Int32)).toUInt32.toUInt16.toUInt32.toInt32) := ⟨_, rfl⟩
  obtain ⟨x4, ex4⟩ : ∃ z, z = ((p5 &&& (65535 : Int32)).toUInt32.toUInt16.toUInt32.toInt32) := ⟨_, rfl⟩
  obtain ⟨T5, h5, X5, e5, E5, A5, D5, -, st5⟩ := newO X0 hx hZ hown (w_1 hw) (w_2 hw) (w_3 hw) e0 (g := (mkF m 68 #[.val (.int p1), .val (.int p2), .val (.int p3), .val (.int p4), .val (.int p5), .val (.int p6), .val (.int x1), .val (.int x2), .val (.int x3), .val (.int x4), .val (.int 2), .unset, .unset, .unset] [])) rfl (hb hby at_68) (by decide) (by decide)
  obtain ⟨b5, g5⟩ : ∃ z, z = h0.size := ⟨_, rfl⟩
  rw [← g5] at A5 D5 st5
  have s0 := E5.1
  have Fn5_coder : Fld Z h5 b5 "java/lang/String" "coder" "B" (.int 0) := D5 (Or.inr (w_28 hw)) (ty := .byte) (by decide)
  have Fn5_value : Fld Z h5 b5 "java/lang/String" "value" "[B" .null := D5 (Or.inr (w_30 hw)) (ty := (.array .byte)) (by decide)
  obtain ⟨T6, h6, k6, X6, e6, E6, A6, B6, st6⟩ := newPE (aty := .char) X5 hx hZ (w_4 hw) e5 (g := (mkF m 73 #[.val (.int p1), .val (.int p2), .val (.int p3), .val (.int p4), .val (.int p5), .val (.int p6), .val (.int x1), .val (.int x2), .val (.int x3), .val (.int x4), .val (.int 2), .unset, .unset, .unset] [(.int 2), (.ref b5), (.ref b5)])) rfl (hb hby at_73) rfl (by decide) (cap := 2) (by decide) (by decide) (by decide) (by decide) (ad := "[C") (by decide)
  obtain ⟨b6, g6⟩ : ∃ z, z = h5.size := ⟨_, rfl⟩
  rw [← g6] at A6 B6 st6
  have s1 := E6.1
  have Vn6 : Arv Z h6 b6 k6 .char (2 : Int32) [(.int 0), (.int 0)] (.int 0) := (Arv.new A6 (by decide)).pad (pad_rep [] (.int 0) 2)
  obtain ⟨cl7, Ar7, q7, S7, M7, Hs7, G7⟩ := id Vn6
  have hin8 : ¬ ((0 : Int32) < 0 ∨ cl7.slots.size ≤ ((0 : Int32)).toNatClampNeg) := inb_of S7 ⟨(by decide : ¬ ((0 : Int32) < (0 : Int32))), (by decide : (0 : Int32) < (2 : Int32))⟩
  obtain ⟨T9, h9, X9, e9, W9, st9⟩ := stC X6 hx hZ e6 Ar7 (j := (0 : Int32)) hin8 (g := (mkF m 79 #[.val (.int p1), .val (.int p2), .val (.int p3), .val (.int p4), .val (.int p5), .val (.int p6), .val (.int x1), .val (.int x2), .val (.int x3), .val (.int x4), .val (.int 2), .unset, .unset, .unset] [(.int x1), (.int 0), (.ref b6), (.ref b6), (.ref b5), (.ref b5)])) rfl rfl (hb hby at_79)
  have s2 := (Keep.of_wr W9).1
  have z1 := Nat.le_trans Z0 s0
  have g_b6 : n0 ≤ b6 := Nat.le_trans z1 (Nat.le_of_eq g6.symm)
  have N9 := Fr.snoc X9 N0 g_b6
  have Vs9 : Arv Z h9 b6 k6 .char (2 : Int32) [(.int (nar .char x1)), (.int 0)] (.int 0) := Arv.set Ar7 q7 S7 M7 Hs7 G7 (fits_nar_char _) W9 0 rfl (Nat.le_of_ble_eq_true rfl)
  obtain ⟨cl10, Ar10, q10, S10, M10, Hs10, G10⟩ := id Vs9
  have hin11 : ¬ ((1 : Int32) < 0 ∨ cl10.slots.size ≤ ((1 : Int32)).toNatClampNeg) := inb_of S10 ⟨(by decide : ¬ ((1 : Int32) < (0 : Int32))), (by decide : (1 : Int32) < (2 : Int32))⟩
  obtain ⟨T12, h12, X12, e12, W12, st12⟩ := stC X9 hx hZ e9 Ar10 (j := (1 : Int32)) hin11 (g := (mkF m 84 #[.val (.int p1), .val (.int p2), .val (.int p3), .val (.int p4), .val (.int p5), .val (.int p6), .val (.int x1), .val (.int x2), .val (.int x3), .val (.int x4), .val (.int 2), .unset, .unset, .unset] [(.int x2), (.int 1), (.ref b6), (.ref b6), (.ref b5), (.ref b5)])) rfl rfl (hb hby at_84)
  have s3 := (Keep.of_wr W12).1
  have N12 := Fr.snoc X12 N9 g_b6
  have Vs12 : Arv Z h12 b6 k6 .char (2 : Int32) [(.int (nar .char x1)), (.int (nar .char x2))] (.int 0) := Arv.set Ar10 q10 S10 M10 Hs10 G10 (fits_nar_char _) W12 1 rfl (Nat.le_of_ble_eq_true rfl)
  have Od1 : Old Z n0 h5 := Od0.ext E5
  have Od2 : Old Z n0 h6 := Od1.ext E6
  have Od3 : Old Z n0 h9 := Od2.wr W9 g_b6
  have Od4 : Old Z n0 h12 := Od3.wr W12 g_b6
  have cd13 : ¬ ((nar .char ((p2 &&& (65535 : Int32)).toUInt32.toUInt16.toUInt32.toInt32)) < (0 : Int32)) := (by rw [Int32.lt_iff_toInt_lt]; have := rng32 (nar .char ((p2 &&& (65535 : Int32)).toUInt32.toUInt16.toUInt32.toInt32)); have := rng32 ((p2 &&& (65535 : Int32)).toUInt32.toUInt16.toUInt32.toInt32); have := rng32 (p2 &&& (65535 : Int32)); have := rng32 p2; have := own_mask p2 (65535 : Int32) 16 (by decide) (by decide) 65536 (by decide); have := c_i2c (p2 &&& (65535 : Int32)); have := own_c_nar_char ((p2 &&& (65535 : Int32)).toUInt32.toUInt16.toUInt32.toInt32); have : ((0 : Int32)).toInt = 0 := (by decide); omega)
  have cd14 : ¬ ((65535 : Int32) < (nar .char ((p2 &&& (65535 : Int32)).toUInt32.toUInt16.toUInt32.toInt32))) := (by rw [Int32.lt_iff_toInt_lt]; have : ((65535 : Int32)).toInt = 65535 := (by decide); have := rng32 (nar .char ((p2 &&& (65535 : Int32)).toUInt32.toUInt16.toUInt32.toInt32)); have := rng32 ((p2 &&& (65535 : Int32)).toUInt32.toUInt16.toUInt32.toInt32); have := rng32 (p2 &&& (65535 : Int32)); have := rng32 p2; have := own_mask p2 (65535 : Int32) 16 (by decide) (by decide) 65536 (by decide); have := c_i2c (p2 &&& (65535 : Int32)); have := own_c_nar_char ((p2 &&& (65535 : Int32)).toUInt32.toUInt16.toUInt32.toInt32); omega)
  have cd15 : ¬ ((nar .char ((p3 &&& (65535 : Int32)).toUInt32.toUInt16.toUInt32.toInt32)) < (0 : Int32)) := (by rw [Int32.lt_iff_toInt_lt]; have := rng32 (nar .char ((p3 &&& (65535 : Int32)).toUInt32.toUInt16.toUInt32.toInt32)); have := rng32 ((p3 &&& (65535 : Int32)).toUInt32.toUInt16.toUInt32.toInt32); have := rng32 (p3 &&& (65535 : Int32)); have := rng32 p3; have := own_mask p3 (65535 : Int32) 16 (by decide) (by decide) 65536 (by decide); have := c_i2c (p3 &&& (65535 : Int32)); have := own_c_nar_char ((p3 &&& (65535 : Int32)).toUInt32.toUInt16.toUInt32.toInt32); have : ((0 : Int32)).toInt = 0 := (by decide); omega)
  have cd16 : ¬ ((65535 : Int32) < (nar .char ((p3 &&& (65535 : Int32)).toUInt32.toUInt16.toUInt32.toInt32))) := (by rw [Int32.lt_iff_toInt_lt]; have : ((65535 : Int32)).toInt = 65535 := (by decide); have := rng32 (nar .char ((p3 &&& (65535 : Int32)).toUInt32.toUInt16.toUInt32.toInt32)); have := rng32 ((p3 &&& (65535 : Int32)).toUInt32.toUInt16.toUInt32.toInt32); have := rng32 (p3 &&& (65535 : Int32)); have := rng32 p3; have := own_mask p3 (65535 : Int32) 16 (by decide) (by decide) 65536 (by decide); have := c_i2c (p3 &&& (65535 : Int32)); have := own_c_nar_char ((p3 &&& (65535 : Int32)).toUInt32.toUInt16.toUInt32.toInt32); omega)
  have ne_b5_b6 := Nat.ne_of_lt (Nat.lt_of_lt_of_le Fn5_value.lt (Nat.le_of_eq g6.symm))
  have Fl17 := (((Fn5_coder.ext E6).other W9 (Or.inl ne_b5_b6)).other W12 (Or.inl ne_b5_b6))
  have Ex18 := (((A5.ext E6).wr W9).wr W12)
  have g_b5 : n0 ≤ b5 := Nat.le_trans Z0 (Nat.le_of_eq g5.symm)
  have Fl19 := (((Fn5_value.ext E6).other W9 (Or.inl ne_b5_b6)).other W12 (Or.inl ne_b5_b6))
  have z4 := Nat.le_trans Z0 (Nat.le_trans (Nat.le_trans (Nat.le_trans s0 s1) s2) s3)
  obtain ⟨_, T20, L20, X20, hQ20, st20⟩ := own_special X12 hx hZ hown (y := y_9) (a := b5) (w_5 hw) (w_6 hw) (w_3 hw) (w_7 hw) (rm36 l Z a0 hw [] b5 b6 (nar .char x1) (nar .char x2) k6 si2 h12 n0 z4 Vs12 S8_COMPACT_STRINGS Od4 nc6 S9__assertionsDisabled S10_HI_BYTE_SHIFT S11_LO_BYTE_SHIFT (by rw [ex1]; exact cd13) (by rw [ex1]; exact cd14) (by rw [ex2]; exact cd15) (by rw [ex2]; exact cd16) Fl17 Ex18 g_b5 Fl19) e12 (Ls := #[.val (.int p1), .val (.int p2), .val (.int p3), .val (.int p4), .val (.int p5), .val (.int p6), .val (.int x1), .val (.int x2), .val (.int x3), .val (.int x4), .val (.int 2), .unset, .unset, .unset]) (by rw [hml]; rfl) (argsL := [(.ref b6)]) (rest := [(.ref b5)]) (lenOf pd_8 rfl) (hb hby at_85) (W := 1)
  obtain ⟨b20_b13_b14_m0, k20_k13_k14_kk1, u20_u13_u14_uu2, rfl, Nq20, K20, o20_0, o20_1, o20_2, o20_3, o20_4, o20_5⟩ := hQ20
  have N20 := Fr.app N12 Nq20
  have s4 := K20.1
  obtain ⟨x21, ex21⟩ : ∃ z, z = (if (255 : Int32) < (nar .char x1) then (4 : Int32) else (if (255 : Int32) < (nar .char x2) then (4 : Int32) else (2 : Int32))) := ⟨_, rfl⟩
  have o20_5' : Arv Z T20.heap b20_b13_b14_m0 k20_k13_k14_kk1 .byte x21 u20_u13_u14_uu2 (.int 0) := by rw [ex21]; exact o20_5
  obtain ⟨a22, T22, h22, kn22, X22, e22, E22, Sn22, kl22, hZ22, hown22, st22⟩ := ldcS (s := s) (vm0 := s.vm) X20 hx hZ hown (w_31 hw) (own_wS hw) rfl (own_since s) (by rw [hs0]; exact (Nat.le_trans (Nat.le_trans (Nat.le_trans (Nat.le_trans s0 s1) s2) s3) s4)) (g := (mkF m 168 #[.val (.int p1), .val (.int p2), .val (.int p3), .val (.int p4), .val (.int p5), .val (.int p6), .val (.int x1), .val (.int x2), .val (.int x3), .val (.int x4), .val (.int 2), .val (.ref b5), .unset, .unset] [])) rfl (hb hby at_168) (n := 0) (by decide) (by decide) (by decide) (by decide)
  have s5 := E22.1
  have Ex23 := (o20_0.ext E22)
  have Fl24 := (o20_2.ext E22)
  have Va25 := (o20_5'.ext E22)
  have cd26 : ¬ ((if (255 : Int32) < (nar .char ((p2 &&& (65535 : Int32)).toUInt32.toUInt16.toUInt32.toInt32)) then (4 : Int32) else (if (255 : Int32) < (nar .char ((p3 &&& (65535 : Int32)).toUInt32.toUInt16.toUInt32.toInt32)) then (4 : Int32) else (2 : Int32))) = (0 : Int32)) := (by by_cases hi0 : (255 : Int32) < (nar .char ((p2 &&& (65535 : Int32)).toUInt32.toUInt16.toUInt32.toInt32)); exact (by simp only [if_pos hi0]; decide); exact (by simp only [if_neg hi0]; by_cases hi1 : (255 : Int32) < (nar .char ((p3 &&& (65535 : Int32)).toUInt32.toUInt16.toUInt32.toInt32)); exact (by simp only [if_pos hi1]; decide); exact (by simp only [if_neg hi1]; decide)))
  have z6 := Nat.le_trans Z0 (Nat.le_trans (Nat.le_trans (Nat.le_trans (Nat.le_trans (Nat.le_trans s0 s1) s2) s3) s4) s5)
  obtain ⟨_, T27, L27, X27, hQ27, st27⟩ := own_callS X22 hx hZ22 hown22 (y := y_16) (w_34 hw) (w_35 hw) (w_36 hw) (w_37 hw) (rm20 l Z a0 hw [] b5 a22 b20_b13_b14_m0 u20_u13_u14_uu2 k20_k13_k14_kk1 x21 h22 n0 z6 Ex23 Fl24 Va25 (by rw [ex21, ex2, ex1]; exact cd26)) e22 (Ls := #[.val (.int p1), .val (.int p2), .val (.int p3), .val (.int p4), .val (.int p5), .val (.int p6), .val (.int x1), .val (.int x2), .val (.int x3), .val (.int x4), .val (.int 2), .val (.ref b5), .val (.ref a22), .unset]) (by rw [hml]; rfl) (argsL := [(.ref b5), (.ref a22)]) (rest := []) (lenOf pd_14 rfl) (hb hby at_192) (W := 0)
  obtain ⟨rfl, Nq27, e27⟩ := hQ27
  have N27 := Fr.app N20 Nq27
  have Od5 : Old Z n0 T20.heap := Od4.keep K20 (allS g_b5 all0)
  have Od6 : Old Z n0 h22 := Od5.ext E22
  have Fl28 := (o20_1.ext E22)
  obtain ⟨_, T29, L29, X29, hQ29, st29⟩ := own_virtual X27 hx hZ22 hown22 (y := y_18) (z := y_18) Ex23 (w_43 hw) (w_44 hw) (notFace_of_selects (args := #[]) (mvT hZ22 (w_46 hw))) (w_46 hw) (w_45 hw) (w_3 hw) (w_47 hw) (rm22 l Z a0 hw [] b5 b20_b13_b14_m0 u20_u13_u14_uu2 k20_k13_k14_kk1 x21 si2 (nar .byte (nar .byte (((((2 : Int32) - (if (255 : Int32) < (nar .char x1) then (4 : Int32) else (if (255 : Int32) < (nar .char x2) then (4 : Int32) else (2 : Int32)))).toUInt32 >>> ((31 : Int32) &&& 31).toUInt32).toInt32).toInt8.toInt32))) h22 n0 z6 Fl24 Va25 Ex23 S8_COMPACT_STRINGS Od6 nc6 Fl28) e27 (Ls := #[.val (.int p1), .val (.int p2), .val (.int p3), .val (.int p4), .val (.int p5), .val (.int p6), .val (.int x1), .val (.int x2), .val (.int x3), .val (.int x4), .val (.int 2), .val (.ref b5), .val (.ref a22), .val (.ref b5)]) (by rw [hml]; rfl) (argsL := []) (rest := []) (lenOf pd_16 rfl) (hb hby at_206) (W := 0)
  obtain ⟨rfl, Nq29, e29⟩ := hQ29
  have N29 := Fr.app N27 Nq29
  obtain ⟨x30, ex30⟩ : ∃ z, z = (x21 >>> ((nar .byte (nar .byte (nar .byte (((((2 : Int32) - (if (255 : Int32) < (nar .char x1) then (4 : Int32) else (if (255 : Int32) < (nar .char x2) then (4 : Int32) else (2 : Int32)))).toUInt32 >>> ((31 : Int32) &&& 31).toUInt32).toInt32).toInt8.toInt32)))) &&& 31)) := ⟨_, rfl⟩
  have cd31 : ((if (255 : Int32) < (nar .char ((p2 &&& (65535 : Int32)).toUInt32.toUInt16.toUInt32.toInt32)) then (4 : Int32) else (if (255 : Int32) < (nar .char ((p3 &&& (65535 : Int32)).toUInt32.toUInt16.toUInt32.toInt32)) then (4 : Int32) else (2 : Int32))) >>> ((nar .byte (nar .byte (nar .byte (((((2 : Int32) - (if (255 : Int32) < (nar .char ((p2 &&& (65535 : Int32)).toUInt32.toUInt16.toUInt32.toInt32)) then (4 : Int32) else (if (255 : Int32) < (nar .char ((p3 &&& (65535 : Int32)).toUInt32.toUInt16.toUInt32.toInt32)) then (4 : Int32) else (2 : Int32)))).toUInt32 >>> ((31 : Int32) &&& 31).toUInt32).toInt32).toInt8.toInt32)))) &&& 31)) = (2 : Int32) := (by by_cases hi0 : (255 : Int32) < (nar .char ((p2 &&& (65535 : Int32)).toUInt32.toUInt16.toUInt32.toInt32)); exact (by simp only [if_pos hi0]; decide); exact (by simp only [if_neg hi0]; by_cases hi1 : (255 : Int32) < (nar .char ((p3 &&& (65535 : Int32)).toUInt32.toUInt16.toUInt32.toInt32)); exact (by simp only [if_pos hi1]; decide); exact (by simp only [if_neg hi1]; decide)))
  refine ⟨T29, _, _, _, (some (.int 1)), T22.vm, kn22, X29, Sn22, (by rw [e29]; exact Nat.le_trans kl22 (Nat.le_refl _)), nofun, by decide, by decide, ?_, fun fs hr => ?_⟩
  · show Q0 n0 _ T29.heap _
    rw [e29]
    subst ex30
    subst ex21
    subst ex4
    subst ex3
    subst ex2
    subst ex1
    exact ⟨rfl, N29⟩
  · refine XS.iloadN X0.here hx rfl (hb hby at_0) rfl ?_
    refine X0.ldcInt hx hown (mvT hZ (w_0 hw)) (g := (mkF m 1 #[.val (.int p1), .val (.int p2), .val (.int p3), .val (.int p4), .val (.int p5), .val (.int p6), .unset, .unset, .unset, .unset, .unset, .unset, .unset, .unset] [(.int p2)])) rfl (hb hby at_1) _ ?_
    refine XS.iand X0.here hx rfl (hb hby at_3) rfl ?_
    refine XS.i2c X0.here hx rfl (hb hby at_4) rfl ?_
    show Steps p.tables e below (s₁.setTop (mkF m 5 #[.val (.int p1), .val (.int p2), .val (.int p3), .val (.int p4), .val (.int p5), .val (.int p6), .unset, .unset, .unset, .unset, .unset, .unset, .unset, .unset] [(.int ((p2 &&& (65535 : Int32)).toUInt32.toUInt16.toUInt32.toInt32))])) _
    rw [← ex1]
    refine XS.istore X0.here hx rfl (hb hby at_5) rfl (l' := #[.val (.int p1), .val (.int p2), .val (.int p3), .val (.int p4), .val (.int p5), .val (.int p6), .val (.int x1), .unset, .unset, .unset, .unset, .unset, .unset, .unset]) rfl ?_
    refine XS.iloadN X0.here hx rfl (hb hby at_7) rfl ?_
    refine X0.ldcInt hx hown (mvT hZ (w_0 hw)) (g := (mkF m 8 #[.val (.int p1), .val (.int p2), .val (.int p3), .val (.int p4), .val (.int p5), .val (.int p6), .val (.int x1), .unset, .unset, .unset, .unset, .unset, .unset, .unset] [(.int p3)])) rfl (hb hby at_8) _ ?_
    refine XS.iand X0.here hx rfl (hb hby at_10) rfl ?_
    refine XS.i2c X0.here hx rfl (hb hby at_11) rfl ?_
    show Steps p.tables e below (s₁.setTop (mkF m 12 #[.val (.int p1), .val (.int p2), .val (.int p3), .val (.int p4), .val (.int p5), .val (.int p6), .val (.int x1), .unset, .unset, .unset, .unset, .unset, .unset, .unset] [(.int ((p3 &&& (65535 : Int32)).toUInt32.toUInt16.toUInt32.toInt32))])) _
    rw [← ex2]
    refine XS.istore X0.here hx rfl (hb hby at_12) rfl (l' := #[.val (.int p1), .val (.int p2), .val (.int p3), .val (.int p4), .val (.int p5), .val (.int p6), .val (.int x1), .val (.int x2), .unset, .unset, .unset, .unset, .unset, .unset]) rfl ?_
    refine XS.iloadN X0.here hx rfl (hb hby at_14) rfl ?_
    refine X0.ldcInt hx hown (mvT hZ (w_0 hw)) (g := (mkF m 15 #[.val (.int p1), .val (.int p2), .val (.int p3), .val (.int p4), .val (.int p5), .val (.int p6), .val (.int x1), .val (.int x2), .unset, .unset, .unset, .unset, .unset, .unset] [(.int p4)])) rfl (hb hby at_15) _ ?_
    refine XS.iand X0.here hx rfl (hb hby at_17) rfl ?_
    refine XS.i2c X0.here hx rfl (hb hby at_18) rfl ?_
    show Steps p.tables e below (s₁.setTop (mkF m 19 #[.val (.int p1), .val (.int p2), .val (.int p3), .val (.int p4), .val (.int p5), .val (.int p6), .val (.int x1), .val (.int x2), .unset, .unset, .unset, .unset, .unset, .unset] [(.int ((p4 &&& (65535 : Int32)).toUInt32.toUInt16.toUInt32.toInt32))])) _
    rw [← ex3]
    refine XS.istore X0.here hx rfl (hb hby at_19) rfl (l' := #[.val (.int p1), .val (.int p2), .val (.int p3), .val (.int p4), .val (.int p5), .val (.int p6), .val (.int x1), .val (.int x2), .val (.int x3), .unset, .unset, .unset, .unset, .unset]) rfl ?_
    refine XS.iload X0.here hx rfl (hb hby at_21) rfl ?_
    refine X0.ldcInt hx hown (mvT hZ (w_0 hw)) (g := (mkF m 23 #[.val (.int p1), .val (.int p2), .val (.int p3), .val (.int p4), .val (.int p5), .val (.int p6), .val (.int x1), .val (.int x2), .val (.int x3), .unset, .unset, .unset, .unset, .unset] [(.int p5)])) rfl (hb hby at_23) _ ?_
    refine XS.iand X0.here hx rfl (hb hby at_25) rfl ?_
    refine XS.i2c X0.here hx rfl (hb hby at_26) rfl ?_
    show Steps p.tables e below (s₁.setTop (mkF m 27 #[.val (.int p1), .val (.int p2), .val (.int p3), .val (.int p4), .val (.int p5), .val (.int p6), .val (.int x1), .val (.int x2), .val (.int x3), .unset, .unset, .unset, .unset, .unset] [(.int ((p5 &&& (65535 : Int32)).toUInt32.toUInt16.toUInt32.toInt32))])) _
    rw [← ex4]
    refine XS.istore X0.here hx rfl (hb hby at_27) rfl (l' := #[.val (.int p1), .val (.int p2), .val (.int p3), .val (.int p4), .val (.int p5), .val (.int p6), .val (.int x1), .val (.int x2), .val (.int x3), .val (.int x4), .unset, .unset, .unset, .unset]) rfl ?_
    refine XS.iloadN X0.here hx rfl (hb hby at_29) rfl ?_
    refine XS.iconst X0.here hx rfl (hb hby at_30) ?_
    refine XS.iand X0.here hx rfl (hb hby at_31) rfl ?_
    show Steps p.tables e below (s₁.setTop (mkF m 32 #[.val (.int p1), .val (.int p2), .val (.int p3), .val (.int p4), .val (.int p5), .val (.int p6), .val (.int x1), .val (.int x2), .val (.int x3), .val (.int x4), .unset, .unset, .unset, .unset] [(.int (p1 &&& (3 : Int32)))])) _
    rw [hk]
    refine XS.iconst X0.here hx rfl (hb hby at_32) ?_
    refine XS.iadd X0.here hx rfl (hb hby at_33) rfl ?_
    refine XS.istore X0.here hx rfl (hb hby at_34) rfl (l' := #[.val (.int p1), .val (.int p2), .val (.int p3), .val (.int p4), .val (.int p5), .val (.int p6), .val (.int x1), .val (.int x2), .val (.int x3), .val (.int x4), .val (.int 2), .unset, .unset, .unset]) rfl ?_
    refine XS.iload X0.here hx rfl (hb hby at_36) rfl ?_
    refine XS.iconst X0.here hx rfl (hb hby at_38) ?_
    refine XS.icmpYes X0.here hx rfl (pc0 := 39) (pc' := 62) rfl (hb hby at_39) rfl (feq ((by decide : ¬ ((2 : Int32) = (1 : Int32))) : ¬ ((2 : Int32) = (1 : Int32)))).2 (by decide) (by decide) ?_
    refine XS.iload X0.here hx rfl (hb hby at_62) rfl ?_
    refine XS.iconst X0.here hx rfl (hb hby at_64) ?_
    refine XS.icmpNo X0.here hx rfl (hb hby at_65) rfl (teq ((by decide : (2 : Int32) = (2 : Int32)) : (2 : Int32) = (2 : Int32))).2 ?_
    refine st5 _ ?_
    refine XS.dup X5.here hx rfl (hb hby at_71) rfl rfl ?_
    show Steps p.tables e below (T5.setTop (mkF m 72 #[.val (.int p1), .val (.int p2), .val (.int p3), .val (.int p4), .val (.int p5), .val (.int p6), .val (.int x1), .val (.int x2), .val (.int x3), .val (.int x4), .val (.int 2), .unset, .unset, .unset] [(.ref b5), (.ref b5)])) _
    refine XS.iconst X5.here hx rfl (hb hby at_72) ?_
    refine st6 _ ?_
    refine XS.dup X6.here hx rfl (hb hby at_75) rfl rfl ?_
    refine XS.iconst X6.here hx rfl (hb hby at_76) ?_
    refine XS.iload X6.here hx rfl (hb hby at_77) rfl ?_
    refine st9 _ ?_
    refine XS.dup X9.here hx rfl (hb hby at_80) rfl rfl ?_
    refine XS.iconst X9.here hx rfl (hb hby at_81) ?_
    refine XS.iload X9.here hx rfl (hb hby at_82) rfl ?_
    refine st12 _ ?_
    refine st20 _ ?_
    refine XS.astore X20.here hx rfl (hb hby at_88) rfl rfl (l' := #[.val (.int p1), .val (.int p2), .val (.int p3), .val (.int p4), .val (.int p5), .val (.int p6), .val (.int x1), .val (.int x2), .val (.int x3), .val (.int x4), .val (.int 2), .val (.ref b5), .unset, .unset]) rfl ?_
    show Steps p.tables e below (T20.setTop (mkF m 90 #[.val (.int p1), .val (.int p2), .val (.int p3), .val (.int p4), .val (.int p5), .val (.int p6), .val (.int x1), .val (.int x2), .val (.int x3), .val (.int x4), .val (.int 2), .val (.ref b5), .unset, .unset] [])) _
    refine XS.goto X20.here hx rfl (pc0 := 90) (pc' := 161) rfl (hb hby at_90) (by decide) (by decide) ?_
    refine XS.iload X20.here hx rfl (hb hby at_161) rfl ?_
    refine XS.iconst X20.here hx rfl (hb hby at_163) ?_
    refine XS.iand X20.here hx rfl (hb hby at_164) rfl ?_
    refine XS.ifNo X20.here hx rfl (hb hby at_165) rfl ((if0 _ _).trans (feq (cc1 : ¬ ((p6 &&& (1 : Int32)) = (0 : Int32)))).1) ?_
    refine st22 _ ?_
    refine XS.astore X22.here hx rfl (hb hby at_170) rfl rfl (l' := #[.val (.int p1), .val (.int p2), .val (.int p3), .val (.int p4), .val (.int p5), .val (.int p6), .val (.int x1), .val (.int x2), .val (.int x3), .val (.int x4), .val (.int 2), .val (.ref b5), .val (.ref a22), .unset]) rfl ?_
    refine XS.goto X22.here hx rfl (pc0 := 172) (pc' := 188) rfl (hb hby at_172) (by decide) (by decide) ?_
    refine XS.aload X22.here hx rfl (hb hby at_188) rfl rfl ?_
    refine XS.aload X22.here hx rfl (hb hby at_190) rfl rfl ?_
    refine st27 _ ?_
    refine XS.astore X27.here hx rfl (hb hby at_195) rfl rfl (l' := #[.val (.int p1), .val (.int p2), .val (.int p3), .val (.int p4), .val (.int p5), .val (.int p6), .val (.int x1), .val (.int x2), .val (.int x3), .val (.int x4), .val (.int 2), .val (.ref b5), .val (.ref a22), .val (.ref b5)]) rfl ?_
    show Steps p.tables e below (T27.setTop (mkF m 197 #[.val (.int p1), .val (.int p2), .val (.int p3), .val (.int p4), .val (.int p5), .val (.int p6), .val (.int x1), .val (.int x2), .val (.int x3), .val (.int x4), .val (.int 2), .val (.ref b5), .val (.ref a22), .val (.ref b5)] [])) _
    refine XS.aload X27.here hx rfl (hb hby at_197) rfl rfl ?_
    refine XS.aload X27.here hx rfl (hb hby at_199) rfl rfl ?_
    refine Jvm.RoadKit.acmp (g := (mkF m 201 #[.val (.int p1), .val (.int p2), .val (.int p3), .val (.int p4), .val (.int p5), .val (.int p6), .val (.int x1), .val (.int x2), .val (.int x3), .val (.int x4), .val (.int 2), .val (.ref b5), .val (.ref a22), .val (.ref b5)] [(.ref b5), (.ref b5)])) X27 hx rfl rfl rfl (pc0 := 201) (pc' := 204) (same := true) rfl (hb hby at_201) rfl (decide_eq_true rfl) (by decide) (by decide) ?_
    refine XS.aload X27.here hx rfl (hb hby at_204) rfl rfl ?_
    refine st29 _ ?_
    show Steps p.tables e below (T29.setTop (mkF m 209 #[.val (.int p1), .val (.int p2), .val (.int p3), .val (.int p4), .val (.int p5), .val (.int p6), .val (.int x1), .val (.int x2), .val (.int x3), .val (.int x4), .val (.int 2), .val (.ref b5), .val (.ref a22), .val (.ref b5)] [(.int (x21 >>> ((nar .byte (nar .byte (nar .byte (((((2 : Int32) - (if (255 : Int32) < (nar .char x1) then (4 : Int32) else (if (255 : Int32) < (nar .char x2) then (4 : Int32) else (2 : Int32)))).toUInt32 >>> ((31 : Int32) &&& 31).toUInt32).toInt32).toInt8.toInt32)))) &&& 31)))])) _
    rw [← ex30]
    refine XS.iload X29.here hx rfl (hb hby at_209) rfl ?_
    refine XS.icmpNo X29.here hx rfl (hb hby at_211) rfl (teq ((by rw [ex30, ex21, ex2, ex1]; exact cd31) : x30 = (2 : Int32))).2 ?_
    refine XS.iconst X29.here hx rfl (hb hby at_214) ?_
    refine XS.goto X29.here hx rfl (pc0 := 215) (pc' := 219) rfl (hb hby at_215) (by decide) (by decide) ?_
    exact retN X29 hx (t := .boolean) hret (by simp) (hb hby at_219) hr
theorem ef_ff2d24 (a1 : Addr) (a2 : Addr) (m : MethodId) : entryFrame m #[(.ref a1), (.int 0), (.ref a2), (.int 0), (.int 3)] 7 = mkF m 0 #[.val (.ref a1), .val (.int 0), .val (.ref a2), .val (.int 0), .val (.int 3), .unset, .unset] [] := by first | (simp [entryFrame, mkF, argsToLocals, Value.category]; done) | rfl
-- java/lang/StringUTF16.compress([CI[BII)I
abbrev Rm37 : Room := { frames := 0, cells := 0, slots := 0, locals := 0 }
def Q37 (Z : State) (a1 : Addr) (a2 : Addr) (p3 : Int32) (p4 : Int32) (p5 : Int32) (k6 : ClassId) (h0 : Heap) (n0 : Nat) (v : Option Value) (h : Heap) (L : List Loc) : Prop := v = some (.int 0) ∧ Fr n0 L ∧ h = h0
-- ef_ff2d24
theorem rm37 (l : Launch) (Z : State) (a0 : Array Value) (hw : ∀ d ∈ tables_1, d.before a0 Z = true) (ws : List Jvm.Cond) (a1 : Addr) (a2 : Addr) (p3 : Int32) (p4 : Int32) (p5 : Int32) (k6 : ClassId) (h0 : Heap) (n0 : Nat) (Z0 : n0 ≤ h0.size) (V_a1 : Arv Z h0 a1 k6 .char (3 : Int32) [(.int p3), (.int p4), (.int p5)] (.int 0)) (c9 : (255 : Int32) < p3) :
    OwnMet l Z y_0 jdk_52_method_21_code 7 (some .int) ws Rm37 #[(.ref a1), (.int 0), (.ref a2), (.int 0), (.int 3)] h0 (Q37 Z a1 a2 p3 p4 p5 k6 h0 n0) := by
  refine own_body (plainFor_of_name pn_0) (ef_ff2d24 a1 a2) ?_
  intro p e s m below meth c s₁ hx hby hml hown hnm hret hZ X0 e0
  have N0 := Fr.nil n0
  obtain ⟨cl7, Ar7, q7, S7, M7, Hs7, G7⟩ := id V_a1
  have hin8 : ¬ ((0 : Int32) < 0 ∨ cl7.slots.size ≤ ((0 : Int32)).toNatClampNeg) := inb_of S7 ⟨(by decide : ¬ ((0 : Int32) < (0 : Int32))), (by decide : (0 : Int32) < (3 : Int32))⟩
  refine ⟨s₁, _, _, _, (some (.int 0)), X0, nofun, by decide, by decide, ?_, fun fs hr => ?_⟩
  · rw [e0]
    exact ⟨rfl, N0, rfl⟩
  · refine XS.iconst X0.here hx rfl (hb hby d5_0) ?_
    refine XS.istore X0.here hx rfl (hb hby d5_1) rfl (l' := #[.val (.ref a1), .val (.int 0), .val (.ref a2), .val (.int 0), .val (.int 3), .val (.int 0), .unset]) rfl ?_
    refine XS.iload X0.here hx rfl (hb hby d5_3) rfl ?_
    refine XS.iload X0.here hx rfl (hb hby d5_5) rfl ?_
    refine XS.icmpNo X0.here hx rfl (hb hby d5_7) rfl (tlt ((by decide : (0 : Int32) < (3 : Int32)) : (0 : Int32) < (3 : Int32))).2.1 ?_
    refine XS.aloadN X0.here hx rfl (hb hby d5_10) rfl rfl ?_
    refine XS.iloadN X0.here hx rfl (hb hby d5_11) rfl ?_
    refine X0.caload hx (j := (0 : Int32)) (v := (.int p3)) (by rw [e0]; exact Ar7.1) (State.isArrayOf_alike hZ.alike Ar7.2.1) Ar7.2.2 hin8 (Has.at Hs7 hin8 rfl) (g := (mkF m 12 #[.val (.ref a1), .val (.int 0), .val (.ref a2), .val (.int 0), .val (.int 3), .val (.int 0), .unset] [(.int 0), (.ref a1)])) rfl rfl (hb hby d5_12) _ ?_
    refine XS.istore X0.here hx rfl (hb hby d5_13) rfl (l' := #[.val (.ref a1), .val (.int 0), .val (.ref a2), .val (.int 0), .val (.int 3), .val (.int 0), .val (.int p3)]) rfl ?_
    refine XS.iload X0.here hx rfl (hb hby d5_15) rfl ?_
    refine XS.sipush X0.here hx rfl (hb hby d5_17) ?_
    show Steps p.tables e below (s₁.setTop (mkF m 20 #[.val (.ref a1), .val (.int 0), .val (.ref a2), .val (.int 0), .val (.int 3), .val (.int 0), .val (.int p3)] [(.int 255), (.int p3)])) _
    refine XS.icmpNo X0.here hx rfl (hb hby d5_20) rfl (tlt (c9 : (255 : Int32) < p3)).2.2.2 ?_
    refine XS.iload X0.here hx rfl (hb hby d5_23) rfl ?_
    exact retI X0 hx hret (hb hby d5_25) hr
theorem ef_5d6f3a  (m : MethodId) : entryFrame m #[(.int 3)] 1 = mkF m 0 #[.val (.int 3)] [] := by first | (simp [entryFrame, mkF, argsToLocals, Value.category]; done) | rfl
-- java/lang/StringUTF16.newBytesLength(I)I
abbrev Rm38 : Room := { frames := 0, cells := 0, slots := 0, locals := 0 }
def Q38 (Z : State)  (h0 : Heap) (n0 : Nat) (v : Option Value) (h : Heap) (L : List Loc) : Prop := v = some (.int 6) ∧ Fr n0 L ∧ h = h0
-- ef_5d6f3a
theorem rm38 (l : Launch) (Z : State) (a0 : Array Value) (hw : ∀ d ∈ tables_1, d.before a0 Z = true) (ws : List Jvm.Cond)  (h0 : Heap) (n0 : Nat) (Z0 : n0 ≤ h0.size) :
    OwnMet l Z y_1 jdk_52_method_3_code 1 (some .int) ws Rm38 #[(.int 3)] h0 (Q38 Z  h0 n0) := by
  refine own_body (plainFor_of_name pn_0) (ef_5d6f3a) ?_
  intro p e s m below meth c s₁ hx hby hml hown hnm hret hZ X0 e0
  have N0 := Fr.nil n0
  refine ⟨s₁, _, _, _, (some (.int 6)), X0, nofun, by decide, by decide, ?_, fun fs hr => ?_⟩
  · rw [e0]
    exact ⟨rfl, N0, rfl⟩
  · refine XS.iloadN X0.here hx rfl (hb hby d17_0) rfl ?_
    refine XS.ifYes X0.here hx rfl (pc0 := 1) (pc' := 12) rfl (hb hby d17_1) rfl ((if0 _ _).trans (flt ((by decide : ¬ ((3 : Int32) < (0 : Int32))) : ¬ ((3 : Int32) < (0 : Int32)))).2.1) (by decide) (by decide) ?_
    refine XS.iloadN X0.here hx rfl (hb hby d17_12) rfl ?_
    refine X0.ldcInt hx hown (mvT hZ (w_76 hw)) (g := (mkF m 13 #[.val (.int 3)] [(.int 3)])) rfl (hb hby d17_13) _ ?_
    refine XS.icmpYes X0.here hx rfl (pc0 := 15) (pc' := 55) rfl (hb hby d17_15) rfl (tlt ((by decide : (3 : Int32) < (1073741823 : Int32)) : (3 : Int32) < (1073741823 : Int32))).1 (by decide) (by decide) ?_
    refine XS.iloadN X0.here hx rfl (hb hby d17_55) rfl ?_
    refine XS.iconst X0.here hx rfl (hb hby d17_56) ?_
    refine XS.ishl X0.here hx rfl (hb hby d17_57) rfl ?_
    exact retI X0 hx hret (hb hby d17_58) hr
-- java/lang/StringUTF16.newBytesFor(I)[B
abbrev Rm39 : Room := { frames := 1, cells := 1, slots := 6, locals := 12 }
def Q39 (Z : State)  (h0 : Heap) (n0 : Nat) (v : Option Value) (h : Heap) (L : List Loc) : Prop := ∃ b2 : Addr, ∃ k2 : ClassId, v = some (.ref b2) ∧ Fr n0 L ∧ Keep h0 h [] ∧ h0.size ≤ b2 ∧ Exa Z h b2 "[B" ∧ Arv Z h b2 k2 .byte (6 : Int32) [(.int 0), (.int 0), (.int 0), (.int 0), (.int 0), (.int 0)] (.int 0)
-- ef_5d6f3a
theorem rm39 (l : Launch) (Z : State) (a0 : Array Value) (hw : ∀ d ∈ tables_1, d.before a0 Z = true) (ws : List Jvm.Cond)  (h0 : Heap) (n0 : Nat) (Z0 : n0 ≤ h0.size) :
    OwnMet l Z y_2 jdk_52_method_2_code 1 (some (.array .byte)) ws Rm39 #[(.int 3)] h0 (Q39 Z  h0 n0) := by
  refine own_body (plainFor_of_name pn_0) (ef_5d6f3a) ?_
  intro p e s m below meth c s₁ hx hby hml hown hnm hret hZ X0 e0
  have N0 := Fr.nil n0
  obtain ⟨_, T1, L1, X1, hQ1, st1⟩ := own_callS X0 hx hZ hown (y := y_1) (w_73 hw) (w_74 hw) (w_18 hw) (w_75 hw) (rm38 l Z a0 hw []  h0 n0 Z0) e0 (Ls := #[.val (.int 3)]) (by rw [hml]; rfl) (argsL := [(.int 3)]) (rest := []) (lenOf pd_1 rfl) (hb hby d16_1) (W := 0)
  obtain ⟨rfl, Nq1, e1⟩ := hQ1
  have N1 := Fr.app N0 Nq1
  obtain ⟨T2, h2, k2, X2, e2, E2, A2, B2, st2⟩ := newPE (aty := .byte) X1 hx hZ (w_20 hw) e1 (g := (mkF m 4 #[.val (.int 3)] [(.int 6)])) rfl (hb hby d16_4) rfl (by decide) (cap := 6) (by decide) (by decide) (by decide) (by decide) (ad := "[B") (by decide)
  obtain ⟨b2, g2⟩ : ∃ z, z = h0.size := ⟨_, rfl⟩
  rw [← g2] at A2 B2 st2
  have s0 := E2.1
  have Vn2 : Arv Z h2 b2 k2 .byte (6 : Int32) [(.int 0), (.int 0), (.int 0), (.int 0), (.int 0), (.int 0)] (.int 0) := (Arv.new A2 (by decide)).pad (pad_rep [] (.int 0) 6)
  have sz_b2 : h0.size ≤ b2 := (Nat.le_of_eq g2.symm)
  have Kp0 : Keep h0 h2 [] := (Keep.refl h0 []).ext E2
  refine ⟨T2, _, _, _, (some (.ref b2)), X2, nofun, by decide, by decide, ?_, fun fs hr => ?_⟩
  · rw [e2]
    exact ⟨b2, k2, rfl, N1, Kp0, sz_b2, B2, Vn2⟩
  · refine XS.iloadN X0.here hx rfl (hb hby d16_0) rfl ?_
    refine st1 _ ?_
    refine st2 _ ?_
    exact retOut X2 hx hret rfl (Or.inr (Or.inr (Or.inr (Or.inr ⟨rfl, rfl, rfl⟩)))) (hb hby d16_6) hr
-- java/lang/StringUTF16.putChar([BII)V
abbrev Rm40 : Room := { frames := 0, cells := 0, slots := 0, locals := 0 }
def Q40 (Z : State) (a1 : Addr) (p2 : Int32) (k5 : ClassId) (h0 : Heap) (n0 : Nat) (v : Option Value) (h : Heap) (L : List Loc) : Prop := v = none ∧ Fr n0 L ∧ Keep h0 h [a1] ∧ Exa Z h a1 "[B" ∧ Arv Z h a1 k5 .byte (6 : Int32) [(.int (nar .byte ((p2 >>> ((0 : Int32) &&& 31)).toInt8.toInt32))), (.int (nar .byte ((p2 >>> ((8 : Int32) &&& 31)).toInt8.toInt32))), (.int 0), (.int 0), (.int 0), (.int 0)] (.int 0)
-- ef_6a6989
theorem rm40 (l : Launch) (Z : State) (a0 : Array Value) (hw : ∀ d ∈ tables_1, d.before a0 Z = true) (ws : List Jvm.Cond) (a1 : Addr) (p2 : Int32) (k5 : ClassId) (h0 : Heap) (n0 : Nat) (Z0 : n0 ≤ h0.size) (S__assertionsDisabled : Sta Z Z.heap "java/lang/StringUTF16" "$assertionsDisabled" "Z" (.int 1)) (Od0 : Old Z n0 h0) (S_HI_BYTE_SHIFT : Sta Z Z.heap "java/lang/StringUTF16" "HI_BYTE_SHIFT" "I" (.int 0)) (V_a1 : Arv Z h0 a1 k5 .byte (6 : Int32) [(.int 0), (.int 0), (.int 0), (.int 0), (.int 0), (.int 0)] (.int 0)) (g_a1 : n0 ≤ a1) (S_LO_BYTE_SHIFT : Sta Z Z.heap "java/lang/StringUTF16" "LO_BYTE_SHIFT" "I" (.int 8)) (E_a1 : Exa Z h0 a1 "[B") :
    OwnMet l Z y_3 jdk_52_method_4_code 3 none ws Rm40 #[(.ref a1), (.int 0), (.int p2)] h0 (Q40 Z a1 p2 k5 h0 n0) := by
  refine own_body (plainFor_of_name pn_0) (ef_6a6989 a1 p2) ?_
  intro p e s m below meth c s₁ hx hby hml hown hnm hret hZ X0 e0
  have N0 := Fr.nil n0
  obtain ⟨T3, X3, e3, st3⟩ := getS2 X0 hx hZ hown (host := "") (Or.inl (w_80 hw)) Via.refl e0 (S__assertionsDisabled.ext Od0.2) (g := (mkF m 0 #[.val (.ref a1), .val (.int 0), .val (.int p2)] [])) rfl (hb hby d18_0)
  obtain ⟨T4, X4, e4, st4⟩ := getS2 X3 hx hZ hown (host := "") (Or.inl (w_81 hw)) Via.refl e3 (S_HI_BYTE_SHIFT.ext Od0.2) (g := (mkF m 38 #[.val (.ref a1), .val (.int 1), .val (.int p2)] [(.int p2), (.int 0), (.ref a1)])) rfl (hb hby d18_38)
  obtain ⟨cl6, Ar6, q6, S6, M6, Hs6, G6⟩ := id V_a1
  have hin7 : ¬ ((0 : Int32) < 0 ∨ cl6.slots.size ≤ ((0 : Int32)).toNatClampNeg) := inb_of S6 ⟨(by decide : ¬ ((0 : Int32) < (0 : Int32))), (by decide : (0 : Int32) < (6 : Int32))⟩
  obtain ⟨T8, h8, X8, e8, W8, st8⟩ := stB X4 hx hZ e4 Ar6 (j := (0 : Int32)) hin7 (g := (mkF m 43 #[.val (.ref a1), .val (.int 1), .val (.int p2)] [(.int ((p2 >>> ((0 : Int32) &&& 31)).toInt8.toInt32)), (.int 0), (.ref a1)])) rfl rfl (hb hby d18_43)
  have s0 := (Keep.of_wr W8).1
  have N8 := Fr.snoc X8 N0 g_a1
  have Vs8 : Arv Z h8 a1 k5 .byte (6 : Int32) [(.int (nar .byte ((p2 >>> ((0 : Int32) &&& 31)).toInt8.toInt32))), (.int 0), (.int 0), (.int 0), (.int 0), (.int 0)] (.int 0) := Arv.set Ar6 q6 S6 M6 Hs6 G6 (fits_nar_byte _) W8 0 rfl (Nat.le_of_ble_eq_true rfl)
  have Od1 : Old Z n0 h8 := Od0.wr W8 g_a1
  obtain ⟨T9, X9, e9, st9⟩ := getS2 X8 hx hZ hown (host := "") (Or.inl (w_82 hw)) Via.refl e8 (S_LO_BYTE_SHIFT.ext Od1.2) (g := (mkF m 47 #[.val (.ref a1), .val (.int 1), .val (.int p2)] [(.int p2), (.int 1), (.ref a1)])) rfl (hb hby d18_47)
  obtain ⟨cl10, Ar10, q10, S10, M10, Hs10, G10⟩ := id Vs8
  have hin11 : ¬ ((1 : Int32) < 0 ∨ cl10.slots.size ≤ ((1 : Int32)).toNatClampNeg) := inb_of S10 ⟨(by decide : ¬ ((1 : Int32) < (0 : Int32))), (by decide : (1 : Int32) < (6 : Int32))⟩
  obtain ⟨T12, h12, X12, e12, W12, st12⟩ := stB X9 hx hZ e9 Ar10 (j := (1 : Int32)) hin11 (g := (mkF m 52 #[.val (.ref a1), .val (.int 1), .val (.int p2)] [(.int ((p2 >>> ((8 : Int32) &&& 31)).toInt8.toInt32)), (.int 1), (.ref a1)])) rfl rfl (hb hby d18_52)
  have s1 := (Keep.of_wr W12).1
  have N12 := Fr.snoc X12 N8 g_a1
  have Vs12 : Arv Z h12 a1 k5 .byte (6 : Int32) [(.int (nar .byte ((p2 >>> ((0 : Int32) &&& 31)).toInt8.toInt32))), (.int (nar .byte ((p2 >>> ((8 : Int32) &&& 31)).toInt8.toInt32))), (.int 0), (.int 0), (.int 0), (.int 0)] (.int 0) := Arv.set Ar10 q10 S10 M10 Hs10 G10 (fits_nar_byte _) W12 1 rfl (Nat.le_of_ble_eq_true rfl)
  have Ex13 := ((E_a1.wr W8).wr W12)
  have Kp0 : Keep h0 h8 [a1] := (Keep.refl h0 [a1]).wr W8 (Or.inl (List.mem_of_getElem? (i := 0) rfl))
  have Kp1 : Keep h0 h12 [a1] := Kp0.wr W12 (Or.inl (List.mem_of_getElem? (i := 0) rfl))
  refine ⟨T12, _, _, _, none, X12, (fun _ => rfl), by decide, by decide, ?_, fun fs hr => ?_⟩
  · rw [e12]
    exact ⟨rfl, N12, Kp1, Ex13, Vs12⟩
  · refine st3 _ ?_
    refine XS.ifYes X3.here hx rfl (pc0 := 3) (pc' := 28) rfl (hb hby d18_3) rfl ((if0 _ _).trans (feq ((by decide : ¬ ((1 : Int32) = (0 : Int32))) : ¬ ((1 : Int32) = (0 : Int32)))).2) (by decide) (by decide) ?_
    refine XS.iloadN X3.here hx rfl (hb hby d18_28) rfl ?_
    refine XS.iconst X3.here hx rfl (hb hby d18_29) ?_
    refine XS.ishl X3.here hx rfl (hb hby d18_30) rfl ?_
    refine XS.istoreN X3.here hx rfl (hb hby d18_31) rfl (l' := #[.val (.ref a1), .val (.int 0), .val (.int p2)]) rfl ?_
    refine XS.aloadN X3.here hx rfl (hb hby d18_32) rfl rfl ?_
    refine XS.iloadN X3.here hx rfl (hb hby d18_33) rfl ?_
    refine XS.iinc X3.here hx rfl (hb hby d18_34) rfl (l' := #[.val (.ref a1), .val (.int 1), .val (.int p2)]) rfl ?_
    refine XS.iloadN X3.here hx rfl (hb hby d18_37) rfl ?_
    refine st4 _ ?_
    show Steps p.tables e below (T4.setTop (mkF m 41 #[.val (.ref a1), .val (.int 1), .val (.int p2)] [(.int 0), (.int p2), (.int 0), (.ref a1)])) _
    refine XS.ishr X4.here hx rfl (hb hby d18_41) rfl ?_
    refine XS.i2b X4.here hx rfl (hb hby d18_42) rfl ?_
    refine st8 _ ?_
    refine XS.aloadN X8.here hx rfl (hb hby d18_44) rfl rfl ?_
    refine XS.iloadN X8.here hx rfl (hb hby d18_45) rfl ?_
    refine XS.iloadN X8.here hx rfl (hb hby d18_46) rfl ?_
    refine st9 _ ?_
    refine XS.ishr X9.here hx rfl (hb hby d18_50) rfl ?_
    refine XS.i2b X9.here hx rfl (hb hby d18_51) rfl ?_
    refine st12 _ ?_
    exact X12.returnOut hx hret (hb hby d18_53) hr
-- java/lang/StringUTF16.putChar([BII)V
abbrev Rm41 : Room := { frames := 0, cells := 0, slots := 0, locals := 0 }
def Q41 (Z : State) (a1 : Addr) (p2 : Int32) (p5 : Int32) (p6 : Int32) (k7 : ClassId) (h0 : Heap) (n0 : Nat) (v : Option Value) (h : Heap) (L : List Loc) : Prop := v = none ∧ Fr n0 L ∧ Keep h0 h [a1] ∧ Exa Z h a1 "[B" ∧ Arv Z h a1 k7 .byte (6 : Int32) [(.int p5), (.int p6), (.int (nar .byte ((p2 >>> ((0 : Int32) &&& 31)).toInt8.toInt32))), (.int (nar .byte ((p2 >>> ((8 : Int32) &&& 31)).toInt8.toInt32))), (.int 0), (.int 0)] (.int 0)
-- ef_93e316
theorem rm41 (l : Launch) (Z : State) (a0 : Array Value) (hw : ∀ d ∈ tables_1, d.before a0 Z = true) (ws : List Jvm.Cond) (a1 : Addr) (p2 : Int32) (p5 : Int32) (p6 : Int32) (k7 : ClassId) (h0 : Heap) (n0 : Nat) (Z0 : n0 ≤ h0.size) (S__assertionsDisabled : Sta Z Z.heap "java/lang/StringUTF16" "$assertionsDisabled" "Z" (.int 1)) (Od0 : Old Z n0 h0) (S_HI_BYTE_SHIFT : Sta Z Z.heap "java/lang/StringUTF16" "HI_BYTE_SHIFT" "I" (.int 0)) (V_a1 : Arv Z h0 a1 k7 .byte (6 : Int32) [(.int p5), (.int p6), (.int 0), (.int 0), (.int 0), (.int 0)] (.int 0)) (g_a1 : n0 ≤ a1) (S_LO_BYTE_SHIFT : Sta Z Z.heap "java/lang/StringUTF16" "LO_BYTE_SHIFT" "I" (.int 8)) (E_a1 : Exa Z h0 a1 "[B") :
    OwnMet l Z y_3 jdk_52_method_4_code 3 none ws Rm41 #[(.ref a1), (.int 1), (.int p2)] h0 (Q41 Z a1 p2 p5 p6 k7 h0 n0) := by
  refine own_body (plainFor_of_name pn_0) (ef_93e316 a1 p2) ?_
  intro p e s m below meth c s₁ hx hby hml hown hnm hret hZ X0 e0
  have N0 := Fr.nil n0
  obtain ⟨T3, X3, e3, st3⟩ := getS2 X0 hx hZ hown (host := "") (Or.inl (w_80 hw)) Via.refl e0 (S__assertionsDisabled.ext Od0.2) (g := (mkF m 0 #[.val (.ref a1), .val (.int 1), .val (.int p2)] [])) rfl (hb hby d18_0)
  obtain ⟨T4, X4, e4, st4⟩ := getS2 X3 hx hZ hown (host := "") (Or.inl (w_81 hw)) Via.refl e3 (S_HI_BYTE_SHIFT.ext Od0.2) (g := (mkF m 38 #[.val (.ref a1), .val (.int 3), .val (.int p2)] [(.int p2), (.int 2), (.ref a1)])) rfl (hb hby d18_38)
  obtain ⟨cl8, Ar8, q8, S8, M8, Hs8, G8⟩ := id V_a1
  have hin9 : ¬ ((2 : Int32) < 0 ∨ cl8.slots.size ≤ ((2 : Int32)).toNatClampNeg) := inb_of S8 ⟨(by decide : ¬ ((2 : Int32) < (0 : Int32))), (by decide : (2 : Int32) < (6 : Int32))⟩
  obtain ⟨T10, h10, X10, e10, W10, st10⟩ := stB X4 hx hZ e4 Ar8 (j := (2 : Int32)) hin9 (g := (mkF m 43 #[.val (.ref a1), .val (.int 3), .val (.int p2)] [(.int ((p2 >>> ((0 : Int32) &&& 31)).toInt8.toInt32)), (.int 2), (.ref a1)])) rfl rfl (hb hby d18_43)
  have s0 := (Keep.of_wr W10).1
  have N10 := Fr.snoc X10 N0 g_a1
  have Vs10 : Arv Z h10 a1 k7 .byte (6 : Int32) [(.int p5), (.int p6), (.int (nar .byte ((p2 >>> ((0 : Int32) &&& 31)).toInt8.toInt32))), (.int 0), (.int 0), (.int 0)] (.int 0) := Arv.set Ar8 q8 S8 M8 Hs8 G8 (fits_nar_byte _) W10 2 rfl (Nat.le_of_ble_eq_true rfl)
  have Od1 : Old Z n0 h10 := Od0.wr W10 g_a1
  obtain ⟨T11, X11, e11, st11⟩ := getS2 X10 hx hZ hown (host := "") (Or.inl (w_82 hw)) Via.refl e10 (S_LO_BYTE_SHIFT.ext Od1.2) (g := (mkF m 47 #[.val (.ref a1), .val (.int 3), .val (.int p2)] [(.int p2), (.int 3), (.ref a1)])) rfl (hb hby d18_47)
  obtain ⟨cl12, Ar12, q12, S12, M12, Hs12, G12⟩ := id Vs10
  have hin13 : ¬ ((3 : Int32) < 0 ∨ cl12.slots.size ≤ ((3 : Int32)).toNatClampNeg) := inb_of S12 ⟨(by decide : ¬ ((3 : Int32) < (0 : Int32))), (by decide : (3 : Int32) < (6 : Int32))⟩
  obtain ⟨T14, h14, X14, e14, W14, st14⟩ := stB X11 hx hZ e11 Ar12 (j := (3 : Int32)) hin13 (g := (mkF m 52 #[.val (.ref a1), .val (.int 3), .val (.int p2)] [(.int ((p2 >>> ((8 : Int32) &&& 31)).toInt8.toInt32)), (.int 3), (.ref a1)])) rfl rfl (hb hby d18_52)
  have s1 := (Keep.of_wr W14).1
  have N14 := Fr.snoc X14 N10 g_a1
  have Vs14 : Arv Z h14 a1 k7 .byte (6 : Int32) [(.int p5), (.int p6), (.int (nar .byte ((p2 >>> ((0 : Int32) &&& 31)).toInt8.toInt32))), (.int (nar .byte ((p2 >>> ((8 : Int32) &&& 31)).toInt8.toInt32))), (.int 0), (.int 0)] (.int 0) := Arv.set Ar12 q12 S12 M12 Hs12 G12 (fits_nar_byte _) W14 3 rfl (Nat.le_of_ble_eq_true rfl)
  have Ex15 := ((E_a1.wr W10).wr W14)
  have Kp0 : Keep h0 h10 [a1] := (Keep.refl h0 [a1]).wr W10 (Or.inl (List.mem_of_getElem? (i := 0) rfl))
  have Kp1 : Keep h0 h14 [a1] := Kp0.wr W14 (Or.inl (List.mem_of_getElem? (i := 0) rfl))
  refine ⟨T14, _, _, _, none, X14, (fun _ => rfl), by decide, by decide, ?_, fun fs hr => ?_⟩
  · rw [e14]
    exact ⟨rfl, N14, Kp1, Ex15, Vs14⟩
  · refine st3 _ ?_
    refine XS.ifYes X3.here hx rfl (pc0 := 3) (pc' := 28) rfl (hb hby d18_3) rfl ((if0 _ _).trans (feq ((by decide : ¬ ((1 : Int32) = (0 : Int32))) : ¬ ((1 : Int32) = (0 : Int32)))).2) (by decide) (by decide) ?_
    refine XS.iloadN X3.here hx rfl (hb hby d18_28) rfl ?_
    refine XS.iconst X3.here hx rfl (hb hby d18_29) ?_
    refine XS.ishl X3.here hx rfl (hb hby d18_30) rfl ?_
    refine XS.istoreN X3.here hx rfl (hb hby d18_31) rfl (l' := #[.val (.ref a1), .val (.int 2), .val (.int p2)]) rfl ?_
    refine XS.aloadN X3.here hx rfl (hb hby d18_32) rfl rfl ?_
    refine XS.iloadN X3.here hx rfl (hb hby d18_33) rfl ?_
    refine XS.iinc X3.here hx rfl (hb hby d18_34) rfl (l' := #[.val (.ref a1), .val (.int 3), .val (.int p2)]) rfl ?_
    refine XS.iloadN X3.here hx rfl (hb hby d18_37) rfl ?_
    refine st4 _ ?_
    show Steps p.tables e below (T4.setTop (mkF m 41 #[.val (.ref a1), .val (.int 3), .val (.int p2)] [(.int 0), (.int p2), (.int 2), (.ref a1)])) _
    refine XS.ishr X4.here hx rfl (hb hby d18_41) rfl ?_
    refine XS.i2b X4.here hx rfl (hb hby d18_42) rfl ?_
    refine st10 _ ?_
    refine XS.aloadN X10.here hx rfl (hb hby d18_44) rfl rfl ?_
    refine XS.iloadN X10.here hx rfl (hb hby d18_45) rfl ?_
    refine XS.iloadN X10.here hx rfl (hb hby d18_46) rfl ?_
    refine st11 _ ?_
    refine XS.ishr X11.here hx rfl (hb hby d18_50) rfl ?_
    refine XS.i2b X11.here hx rfl (hb hby d18_51) rfl ?_
    refine st14 _ ?_
    exact X14.returnOut hx hret (hb hby d18_53) hr
theorem ef_ea841f (a1 : Addr) (p2 : Int32) (m : MethodId) : entryFrame m #[(.ref a1), (.int 2), (.int p2)] 3 = mkF m 0 #[.val (.ref a1), .val (.int 2), .val (.int p2)] [] := by first | (simp [entryFrame, mkF, argsToLocals, Value.category]; done) | rfl
-- java/lang/StringUTF16.putChar([BII)V
abbrev Rm42 : Room := { frames := 0, cells := 0, slots := 0, locals := 0 }
def Q42 (Z : State) (a1 : Addr) (p2 : Int32) (p5 : Int32) (p6 : Int32) (p7 : Int32) (p8 : Int32) (k9 : ClassId) (h0 : Heap) (n0 : Nat) (v : Option Value) (h : Heap) (L : List Loc) : Prop := v = none ∧ Fr n0 L ∧ Keep h0 h [a1] ∧ Exa Z h a1 "[B" ∧ Arv Z h a1 k9 .byte (6 : Int32) [(.int p5), (.int p6), (.int p7), (.int p8), (.int (nar .byte ((p2 >>> ((0 : Int32) &&& 31)).toInt8.toInt32))), (.int (nar .byte ((p2 >>> ((8 : Int32) &&& 31)).toInt8.toInt32)))] (.int 0)
-- ef_ea841f
theorem rm42 (l : Launch) (Z : State) (a0 : Array Value) (hw : ∀ d ∈ tables_1, d.before a0 Z = true) (ws : List Jvm.Cond) (a1 : Addr) (p2 : Int32) (p5 : Int32) (p6 : Int32) (p7 : Int32) (p8 : Int32) (k9 : ClassId) (h0 : Heap) (n0 : Nat) (Z0 : n0 ≤ h0.size) (S__assertionsDisabled : Sta Z Z.heap "java/lang/StringUTF16" "$assertionsDisabled" "Z" (.int 1)) (Od0 : Old Z n0 h0) (S_HI_BYTE_SHIFT : Sta Z Z.heap "java/lang/StringUTF16" "HI_BYTE_SHIFT" "I" (.int 0)) (V_a1 : Arv Z h0 a1 k9 .byte (6 : Int32) [(.int p5), (.int p6), (.int p7), (.int p8), (.int 0), (.int 0)] (.int 0)) (g_a1 : n0 ≤ a1) (S_LO_BYTE_SHIFT : Sta Z Z.heap "java/lang/StringUTF16" "LO_BYTE_SHIFT" "I" (.int 8)) (E_a1 : Exa Z h0 a1 "[B") :
    OwnMet l Z y_3 jdk_52_method_4_code 3 none ws Rm42 #[(.ref a1), (.int 2), (.int p2)] h0 (Q42 Z a1 p2 p5 p6 p7 p8 k9 h0 n0) := by
  refine own_body (plainFor_of_name pn_0) (ef_ea841f a1 p2) ?_
  intro p e s m below meth c s₁ hx hby hml hown hnm hret hZ X0 e0
  have N0 := Fr.nil n0
  obtain ⟨T3, X3, e3, st3⟩ := getS2 X0 hx hZ hown (host := "") (Or.inl (w_80 hw)) Via.refl e0 (S__assertionsDisabled.ext Od0.2) (g := (mkF m 0 #[.val (.ref a1), .val (.int 2), .val (.int p2)] [])) rfl (hb hby d18_0)
  obtain ⟨T4, X4, e4, st4⟩ := getS2 X3 hx hZ hown (host := "") (Or.inl (w_81 hw)) Via.refl e3 (S_HI_BYTE_SHIFT.ext Od0.2) (g := (mkF m 38 #[.val (.ref a1), .val (.int 5), .val (.int p2)] [(.int p2), (.int 4), (.ref a1)])) rfl (hb hby d18_38)
  obtain ⟨cl10, Ar10, q10, S10, M10, Hs10, G10⟩ := id V_a1
  have hin11 : ¬ ((4 : Int32) < 0 ∨ cl10.slots.size ≤ ((4 : Int32)).toNatClampNeg) := inb_of S10 ⟨(by decide : ¬ ((4 : Int32) < (0 : Int32))), (by decide : (4 : Int32) < (6 : Int32))⟩
  obtain ⟨T12, h12, X12, e12, W12, st12⟩ := stB X4 hx hZ e4 Ar10 (j := (4 : Int32)) hin11 (g := (mkF m 43 #[.val (.ref a1), .val (.int 5), .val (.int p2)] [(.int ((p2 >>> ((0 : Int32) &&& 31)).toInt8.toInt32)), (.int 4), (.ref a1)])) rfl rfl (hb hby d18_43)
  have s0 := (Keep.of_wr W12).1
  have N12 := Fr.snoc X12 N0 g_a1
  have Vs12 : Arv Z h12 a1 k9 .byte (6 : Int32) [(.int p5), (.int p6), (.int p7), (.int p8), (.int (nar .byte ((p2 >>> ((0 : Int32) &&& 31)).toInt8.toInt32))), (.int 0)] (.int 0) := Arv.set Ar10 q10 S10 M10 Hs10 G10 (fits_nar_byte _) W12 4 rfl (Nat.le_of_ble_eq_true rfl)
  have Od1 : Old Z n0 h12 := Od0.wr W12 g_a1
  obtain ⟨T13, X13, e13, st13⟩ := getS2 X12 hx hZ hown (host := "") (Or.inl (w_82 hw)) Via.refl e12 (S_LO_BYTE_SHIFT.ext Od1.2) (g := (mkF m 47 #[.val (.ref a1), .val (.int 5), .val (.int p2)] [(.int p2), (.int 5), (.ref a1)])) rfl (hb hby d18_47)
  obtain ⟨cl14, Ar14, q14, S14, M14, Hs14, G14⟩ := id Vs12
  have hin15 : ¬ ((5 : Int32) < 0 ∨ cl14.slots.size ≤ ((5 : Int32)).toNatClampNeg) := inb_of S14 ⟨(by decide : ¬ ((5 : Int32) < (0 : Int32))), (by decide : (5 : Int32) < (6 : Int32))⟩
  obtain ⟨T16, h16, X16, e16, W16, st16⟩ := stB X13 hx hZ e13 Ar14 (j := (5 : Int32)) hin15 (g := (mkF m 52 #[.val (.ref a1), .val (.int 5), .val (.int p2)] [(.int ((p2 >>> ((8 : Int32) &&& 31)).toInt8.toInt32)), (.int 5), (.ref a1)])) rfl rfl (hb hby d18_52)
  have s1 := (Keep.of_wr W16).1
  have N16 := Fr.snoc X16 N12 g_a1
  have Vs16 : Arv Z h16 a1 k9 .byte (6 : Int32) [(.int p5), (.int p6), (.int p7), (.int p8), (.int (nar .byte ((p2 >>> ((0 : Int32) &&& 31)).toInt8.toInt32))), (.int (nar .byte ((p2 >>> ((8 : Int32) &&& 31)).toInt8.toInt32)))] (.int 0) := Arv.set Ar14 q14 S14 M14 Hs14 G14 (fits_nar_byte _) W16 5 rfl (Nat.le_of_ble_eq_true rfl)
  have Ex17 := ((E_a1.wr W12).wr W16)
  have Kp0 : Keep h0 h12 [a1] := (Keep.refl h0 [a1]).wr W12 (Or.inl (List.mem_of_getElem? (i := 0) rfl))
  have Kp1 : Keep h0 h16 [a1] := Kp0.wr W16 (Or.inl (List.mem_of_getElem? (i := 0) rfl))
  refine ⟨T16, _, _, _, none, X16, (fun _ => rfl), by decide, by decide, ?_, fun fs hr => ?_⟩
  · rw [e16]
    exact ⟨rfl, N16, Kp1, Ex17, Vs16⟩
  · refine st3 _ ?_
    refine XS.ifYes X3.here hx rfl (pc0 := 3) (pc' := 28) rfl (hb hby d18_3) rfl ((if0 _ _).trans (feq ((by decide : ¬ ((1 : Int32) = (0 : Int32))) : ¬ ((1 : Int32) = (0 : Int32)))).2) (by decide) (by decide) ?_
    refine XS.iloadN X3.here hx rfl (hb hby d18_28) rfl ?_
    refine XS.iconst X3.here hx rfl (hb hby d18_29) ?_
    refine XS.ishl X3.here hx rfl (hb hby d18_30) rfl ?_
    refine XS.istoreN X3.here hx rfl (hb hby d18_31) rfl (l' := #[.val (.ref a1), .val (.int 4), .val (.int p2)]) rfl ?_
    refine XS.aloadN X3.here hx rfl (hb hby d18_32) rfl rfl ?_
    refine XS.iloadN X3.here hx rfl (hb hby d18_33) rfl ?_
    refine XS.iinc X3.here hx rfl (hb hby d18_34) rfl (l' := #[.val (.ref a1), .val (.int 5), .val (.int p2)]) rfl ?_
    refine XS.iloadN X3.here hx rfl (hb hby d18_37) rfl ?_
    refine st4 _ ?_
    show Steps p.tables e below (T4.setTop (mkF m 41 #[.val (.ref a1), .val (.int 5), .val (.int p2)] [(.int 0), (.int p2), (.int 4), (.ref a1)])) _
    refine XS.ishr X4.here hx rfl (hb hby d18_41) rfl ?_
    refine XS.i2b X4.here hx rfl (hb hby d18_42) rfl ?_
    refine st12 _ ?_
    refine XS.aloadN X12.here hx rfl (hb hby d18_44) rfl rfl ?_
    refine XS.iloadN X12.here hx rfl (hb hby d18_45) rfl ?_
    refine XS.iloadN X12.here hx rfl (hb hby d18_46) rfl ?_
    refine st13 _ ?_
    refine XS.ishr X13.here hx rfl (hb hby d18_50) rfl ?_
    refine XS.i2b X13.here hx rfl (hb hby d18_51) rfl ?_
    refine st16 _ ?_
    exact X16.returnOut hx hret (hb hby d18_53) hr
theorem ef_005845 (a1 : Addr) (m : MethodId) : entryFrame m #[(.ref a1), (.int 0), (.int 3)] 5 = mkF m 0 #[.val (.ref a1), .val (.int 0), .val (.int 3), .unset, .unset] [] := by first | (simp [entryFrame, mkF, argsToLocals, Value.category]; done) | rfl
-- java/lang/StringUTF16.toBytes([CII)[B
abbrev Rm43 : Room := { frames := 2, cells := 1, slots := 6, locals := 24 }
def Q43 (Z : State) (a1 : Addr) (p3 : Int32) (p4 : Int32) (p5 : Int32) (k6 : ClassId) (h0 : Heap) (n0 : Nat) (v : Option Value) (h : Heap) (L : List Loc) : Prop := ∃ b2_b2 : Addr, ∃ k2_k2 : ClassId, v = some (.ref b2_b2) ∧ Fr n0 L ∧ Keep h0 h [] ∧ h0.size ≤ b2_b2 ∧ Exa Z h b2_b2 "[B" ∧ Arv Z h b2_b2 k2_k2 .byte (6 : Int32) [(.int (nar .byte ((p3 >>> ((0 : Int32) &&& 31)).toInt8.toInt32))), (.int (nar .byte ((p3 >>> ((8 : Int32) &&& 31)).toInt8.toInt32))), (.int (nar .byte ((p4 >>> ((0 : Int32) &&& 31)).toInt8.toInt32))), (.int (nar .byte ((p4 >>> ((8 : Int32) &&& 31)).toInt8.toInt32))), (.int (nar .byte ((p5 >>> ((0 : Int32) &&& 31)).toInt8.toInt32))), (.int (nar .byte ((p5 >>> ((8 : Int32) &&& 31)).toInt8.toInt32)))] (.int 0)
-- ef_005845
theorem rm43 (l : Launch) (Z : State) (a0 : Array Value) (hw : ∀ d ∈ tables_1, d.before a0 Z = true) (ws : List Jvm.Cond) (a1 : Addr) (p3 : Int32) (p4 : Int32) (p5 : Int32) (k6 : ClassId) (h0 : Heap) (n0 : Nat) (Z0 : n0 ≤ h0.size) (V_a1 : Arv Z h0 a1 k6 .char (3 : Int32) [(.int p3), (.int p4), (.int p5)] (.int 0)) (S__assertionsDisabled : Sta Z Z.heap "java/lang/StringUTF16" "$assertionsDisabled" "Z" (.int 1)) (Od0 : Old Z n0 h0) (S_HI_BYTE_SHIFT : Sta Z Z.heap "java/lang/StringUTF16" "HI_BYTE_SHIFT" "I" (.int 0)) (S_LO_BYTE_SHIFT : Sta Z Z.heap "java/lang/StringUTF16" "LO_BYTE_SHIFT" "I" (.int 8)) :
    OwnMet l Z y_4 jdk_52_method_14_code 5 (some (.array .byte)) ws Rm43 #[(.ref a1), (.int 0), (.int 3)] h0 (Q43 Z a1 p3 p4 p5 k6 h0 n0) := by
  refine own_body (plainFor_of_name pn_0) (ef_005845 a1) ?_
  intro p e s m below meth c s₁ hx hby hml hown hnm hret hZ X0 e0
  have N0 := Fr.nil n0
  obtain ⟨_, T2, L2, X2, hQ2, st2⟩ := own_callS X0 hx hZ hown (y := y_2) (w_70 hw) (w_71 hw) (w_18 hw) (w_72 hw) (rm39 l Z a0 hw []  h0 n0 Z0) e0 (Ls := #[.val (.ref a1), .val (.int 0), .val (.int 3), .unset, .unset]) (by rw [hml]; rfl) (argsL := [(.int 3)]) (rest := []) (lenOf pd_2 rfl) (hb hby d15_1) (W := 0)
  obtain ⟨b2_b2, k2_k2, rfl, Nq2, K2, o2_0, o2_1, o2_2⟩ := hQ2
  have N2 := Fr.app N0 Nq2
  have s0 := K2.1
  have Va7 := (V_a1.keep K2 nin0)
  obtain ⟨cl8, Ar8, q8, S8, M8, Hs8, G8⟩ := id Va7
  have hin9 : ¬ ((0 : Int32) < 0 ∨ cl8.slots.size ≤ ((0 : Int32)).toNatClampNeg) := inb_of S8 ⟨(by decide : ¬ ((0 : Int32) < (0 : Int32))), (by decide : (0 : Int32) < (3 : Int32))⟩
  have Od1 : Old Z n0 T2.heap := Od0.keep K2 all0
  have g_b2_b2 : n0 ≤ b2_b2 := Nat.le_trans Z0 o2_0
  have z1 := Nat.le_trans Z0 s0
  obtain ⟨_, T10, L10, X10, hQ10, st10⟩ := own_callS X2 hx hZ hown (y := y_3) (w_77 hw) (w_78 hw) (w_18 hw) (w_79 hw) (rm40 l Z a0 hw [] b2_b2 p3 k2_k2 T2.heap n0 z1 S__assertionsDisabled Od1 S_HI_BYTE_SHIFT o2_2 g_b2_b2 S_LO_BYTE_SHIFT o2_1) rfl (Ls := #[.val (.ref a1), .val (.int 0), .val (.int 3), .val (.ref b2_b2), .val (.int 0)]) (by rw [hml]; rfl) (argsL := [(.ref b2_b2), (.int 0), (.int p3)]) (rest := []) (lenOf pd_3 rfl) (hb hby d15_20) (W := 0)
  obtain ⟨rfl, Nq10, K10, o10_0, o10_1⟩ := hQ10
  have N10 := Fr.app N2 Nq10
  have s1 := K10.1
  have ne_a1_b2_b2 := Nat.ne_of_lt (Nat.lt_of_lt_of_le V_a1.lt o2_0)
  have Va11 := (Va7.keep K10 (ninS ne_a1_b2_b2 nin0))
  obtain ⟨cl12, Ar12, q12, S12, M12, Hs12, G12⟩ := id Va11
  have hin13 : ¬ ((1 : Int32) < 0 ∨ cl12.slots.size ≤ ((1 : Int32)).toNatClampNeg) := inb_of S12 ⟨(by decide : ¬ ((1 : Int32) < (0 : Int32))), (by decide : (1 : Int32) < (3 : Int32))⟩
  have Od2 : Old Z n0 T10.heap := Od1.keep K10 (allS g_b2_b2 all0)
  have z2 := Nat.le_trans Z0 (Nat.le_trans s0 s1)
  obtain ⟨_, T14, L14, X14, hQ14, st14⟩ := own_callS X10 hx hZ hown (y := y_3) (w_77 hw) (w_78 hw) (w_18 hw) (w_79 hw) (rm41 l Z a0 hw [] b2_b2 p4 (nar .byte ((p3 >>> ((0 : Int32) &&& 31)).toInt8.toInt32)) (nar .byte ((p3 >>> ((8 : Int32) &&& 31)).toInt8.toInt32)) k2_k2 T10.heap n0 z2 S__assertionsDisabled Od2 S_HI_BYTE_SHIFT o10_1 g_b2_b2 S_LO_BYTE_SHIFT o10_0) rfl (Ls := #[.val (.ref a1), .val (.int 1), .val (.int 3), .val (.ref b2_b2), .val (.int 1)]) (by rw [hml]; rfl) (argsL := [(.ref b2_b2), (.int 1), (.int p4)]) (rest := []) (lenOf pd_3 rfl) (hb hby d15_20) (W := 0)
  obtain ⟨rfl, Nq14, K14, o14_0, o14_1⟩ := hQ14
  have N14 := Fr.app N10 Nq14
  have s2 := K14.1
  have Va15 := (Va11.keep K14 (ninS ne_a1_b2_b2 nin0))
  obtain ⟨cl16, Ar16, q16, S16, M16, Hs16, G16⟩ := id Va15
  have hin17 : ¬ ((2 : Int32) < 0 ∨ cl16.slots.size ≤ ((2 : Int32)).toNatClampNeg) := inb_of S16 ⟨(by decide : ¬ ((2 : Int32) < (0 : Int32))), (by decide : (2 : Int32) < (3 : Int32))⟩
  have Od3 : Old Z n0 T14.heap := Od2.keep K14 (allS g_b2_b2 all0)
  have z3 := Nat.le_trans Z0 (Nat.le_trans (Nat.le_trans s0 s1) s2)
  obtain ⟨_, T18, L18, X18, hQ18, st18⟩ := own_callS X14 hx hZ hown (y := y_3) (w_77 hw) (w_78 hw) (w_18 hw) (w_79 hw) (rm42 l Z a0 hw [] b2_b2 p5 (nar .byte ((p3 >>> ((0 : Int32) &&& 31)).toInt8.toInt32)) (nar .byte ((p3 >>> ((8 : Int32) &&& 31)).toInt8.toInt32)) (nar .byte ((p4 >>> ((0 : Int32) &&& 31)).toInt8.toInt32)) (nar .byte ((p4 >>> ((8 : Int32) &&& 31)).toInt8.toInt32)) k2_k2 T14.heap n0 z3 S__assertionsDisabled Od3 S_HI_BYTE_SHIFT o14_1 g_b2_b2 S_LO_BYTE_SHIFT o14_0) rfl (Ls := #[.val (.ref a1), .val (.int 2), .val (.int 3), .val (.ref b2_b2), .val (.int 2)]) (by rw [hml]; rfl) (argsL := [(.ref b2_b2), (.int 2), (.int p5)]) (rest := []) (lenOf pd_3 rfl) (hb hby d15_20) (W := 0)
  obtain ⟨rfl, Nq18, K18, o18_0, o18_1⟩ := hQ18
  have N18 := Fr.app N14 Nq18
  have s3 := K18.1
  have sz_b2_b2 : h0.size ≤ b2_b2 := o2_0
  have Kp0 : Keep h0 T2.heap [] := (Keep.refl h0 []).trans K2 all0
  have Kp1 : Keep h0 T10.heap [] := Kp0.trans K10 (allS (Or.inr sz_b2_b2) all0)
  have Kp2 : Keep h0 T14.heap [] := Kp1.trans K14 (allS (Or.inr sz_b2_b2) all0)
  have Kp3 : Keep h0 T18.heap [] := Kp2.trans K18 (allS (Or.inr sz_b2_b2) all0)
  refine ⟨T18, _, _, _, (some (.ref b2_b2)), X18, nofun, by decide, by decide, ?_, fun fs hr => ?_⟩
  · exact ⟨b2_b2, k2_k2, rfl, N18, Kp3, sz_b2_b2, o18_0, o18_1⟩
  · refine XS.iloadN X0.here hx rfl (hb hby d15_0) rfl ?_
    refine st2 _ ?_
    refine XS.astoreN X2.here hx rfl (hb hby d15_4) rfl rfl (l' := #[.val (.ref a1), .val (.int 0), .val (.int 3), .val (.ref b2_b2), .unset]) rfl ?_
    refine XS.iconst X2.here hx rfl (hb hby d15_5) ?_
    refine XS.istore X2.here hx rfl (hb hby d15_6) rfl (l' := #[.val (.ref a1), .val (.int 0), .val (.int 3), .val (.ref b2_b2), .val (.int 0)]) rfl ?_
    refine XS.iload X2.here hx rfl (hb hby d15_8) rfl ?_
    refine XS.iloadN X2.here hx rfl (hb hby d15_10) rfl ?_
    refine XS.icmpNo X2.here hx rfl (hb hby d15_11) rfl (tlt ((by decide : (0 : Int32) < (3 : Int32)) : (0 : Int32) < (3 : Int32))).2.1 ?_
    refine XS.aloadN X2.here hx rfl (hb hby d15_14) rfl rfl ?_
    refine XS.iload X2.here hx rfl (hb hby d15_15) rfl ?_
    refine XS.aloadN X2.here hx rfl (hb hby d15_17) rfl rfl ?_
    show Steps p.tables e below (T2.setTop (mkF m 18 #[.val (.ref a1), .val (.int 0), .val (.int 3), .val (.ref b2_b2), .val (.int 0)] [(.ref a1), (.int 0), (.ref b2_b2)])) _
    refine XS.iloadN X2.here hx rfl (hb hby d15_18) rfl ?_
    refine X2.caload hx (j := (0 : Int32)) (v := (.int p3)) (Ar8.1) (State.isArrayOf_alike hZ.alike Ar8.2.1) Ar8.2.2 hin9 (Has.at Hs8 hin9 rfl) (g := (mkF m 19 #[.val (.ref a1), .val (.int 0), .val (.int 3), .val (.ref b2_b2), .val (.int 0)] [(.int 0), (.ref a1), (.int 0), (.ref b2_b2)])) rfl rfl (hb hby d15_19) _ ?_
    refine st10 _ ?_
    refine XS.iinc X10.here hx rfl (hb hby d15_23) rfl (l' := #[.val (.ref a1), .val (.int 1), .val (.int 3), .val (.ref b2_b2), .val (.int 0)]) rfl ?_
    refine XS.iinc X10.here hx rfl (hb hby d15_26) rfl (l' := #[.val (.ref a1), .val (.int 1), .val (.int 3), .val (.ref b2_b2), .val (.int 1)]) rfl ?_
    refine XS.goto X10.here hx rfl (pc0 := 29) (pc' := 8) rfl (hb hby d15_29) (by decide) (by decide) ?_
    refine XS.iload X10.here hx rfl (hb hby d15_8) rfl ?_
    refine XS.iloadN X10.here hx rfl (hb hby d15_10) rfl ?_
    refine XS.icmpNo X10.here hx rfl (hb hby d15_11) rfl (tlt ((by decide : (1 : Int32) < (3 : Int32)) : (1 : Int32) < (3 : Int32))).2.1 ?_
    refine XS.aloadN X10.here hx rfl (hb hby d15_14) rfl rfl ?_
    refine XS.iload X10.here hx rfl (hb hby d15_15) rfl ?_
    refine XS.aloadN X10.here hx rfl (hb hby d15_17) rfl rfl ?_
    show Steps p.tables e below (T10.setTop (mkF m 18 #[.val (.ref a1), .val (.int 1), .val (.int 3), .val (.ref b2_b2), .val (.int 1)] [(.ref a1), (.int 1), (.ref b2_b2)])) _
    refine XS.iloadN X10.here hx rfl (hb hby d15_18) rfl ?_
    refine X10.caload hx (j := (1 : Int32)) (v := (.int p4)) (Ar12.1) (State.isArrayOf_alike hZ.alike Ar12.2.1) Ar12.2.2 hin13 (Has.at Hs12 hin13 rfl) (g := (mkF m 19 #[.val (.ref a1), .val (.int 1), .val (.int 3), .val (.ref b2_b2), .val (.int 1)] [(.int 1), (.ref a1), (.int 1), (.ref b2_b2)])) rfl rfl (hb hby d15_19) _ ?_
    refine st14 _ ?_
    refine XS.iinc X14.here hx rfl (hb hby d15_23) rfl (l' := #[.val (.ref a1), .val (.int 2), .val (.int 3), .val (.ref b2_b2), .val (.int 1)]) rfl ?_
    refine XS.iinc X14.here hx rfl (hb hby d15_26) rfl (l' := #[.val (.ref a1), .val (.int 2), .val (.int 3), .val (.ref b2_b2), .val (.int 2)]) rfl ?_
    refine XS.goto X14.here hx rfl (pc0 := 29) (pc' := 8) rfl (hb hby d15_29) (by decide) (by decide) ?_
    refine XS.iload X14.here hx rfl (hb hby d15_8) rfl ?_
    refine XS.iloadN X14.here hx rfl (hb hby d15_10) rfl ?_
    refine XS.icmpNo X14.here hx rfl (hb hby d15_11) rfl (tlt ((by decide : (2 : Int32) < (3 : Int32)) : (2 : Int32) < (3 : Int32))).2.1 ?_
    refine XS.aloadN X14.here hx rfl (hb hby d15_14) rfl rfl ?_
    refine XS.iload X14.here hx rfl (hb hby d15_15) rfl ?_
    refine XS.aloadN X14.here hx rfl (hb hby d15_17) rfl rfl ?_
    show Steps p.tables e below (T14.setTop (mkF m 18 #[.val (.ref a1), .val (.int 2), .val (.int 3), .val (.ref b2_b2), .val (.int 2)] [(.ref a1), (.int 2), (.ref b2_b2)])) _
    refine XS.iloadN X14.here hx rfl (hb hby d15_18) rfl ?_
    refine X14.caload hx (j := (2 : Int32)) (v := (.int p5)) (Ar16.1) (State.isArrayOf_alike hZ.alike Ar16.2.1) Ar16.2.2 hin17 (Has.at Hs16 hin17 rfl) (g := (mkF m 19 #[.val (.ref a1), .val (.int 2), .val (.int 3), .val (.ref b2_b2), .val (.int 2)] [(.int 2), (.ref a1), (.int 2), (.ref b2_b2)])) rfl rfl (hb hby d15_19) _ ?_
    refine st18 _ ?_
    refine XS.iinc X18.here hx rfl (hb hby d15_23) rfl (l' := #[.val (.ref a1), .val (.int 3), .val (.int 3), .val (.ref b2_b2), .val (.int 2)]) rfl ?_
    refine XS.iinc X18.here hx rfl (hb hby d15_26) rfl (l' := #[.val (.ref a1), .val (.int 3), .val (.int 3), .val (.ref b2_b2), .val (.int 3)]) rfl ?_
    refine XS.goto X18.here hx rfl (pc0 := 29) (pc' := 8) rfl (hb hby d15_29) (by decide) (by decide) ?_
    refine XS.iload X18.here hx rfl (hb hby d15_8) rfl ?_
    refine XS.iloadN X18.here hx rfl (hb hby d15_10) rfl ?_
    refine XS.icmpYes X18.here hx rfl (pc0 := 11) (pc' := 32) rfl (hb hby d15_11) rfl (flt ((by decide : ¬ ((3 : Int32) < (3 : Int32))) : ¬ ((3 : Int32) < (3 : Int32)))).2.1 (by decide) (by decide) ?_
    refine XS.aloadN X18.here hx rfl (hb hby d15_32) rfl rfl ?_
    exact retOut X18 hx hret rfl (Or.inr (Or.inr (Or.inr (Or.inr ⟨rfl, rfl, rfl⟩)))) (hb hby d15_33) hr
-- java/lang/StringUTF16.getChar([BI)C
abbrev Rm44 : Room := { frames := 0, cells := 0, slots := 0, locals := 0 }
def Q44 (Z : State) (a1 : Addr) (p3 : Int32) (p4 : Int32) (p5 : Int32) (p6 : Int32) (p7 : Int32) (p8 : Int32) (k9 : ClassId) (h0 : Heap) (n0 : Nat) (v : Option Value) (h : Heap) (L : List Loc) : Prop := v = some (.int (nar .char ((((p3 &&& (255 : Int32)) <<< ((0 : Int32) &&& 31)) ||| ((p4 &&& (255 : Int32)) <<< ((8 : Int32) &&& 31))).toUInt32.toUInt16.toUInt32.toInt32))) ∧ Fr n0 L ∧ h = h0
-- ef_ed7d6e
theorem rm44 (l : Launch) (Z : State) (a0 : Array Value) (hw : ∀ d ∈ tables_1, d.before a0 Z = true) (ws : List Jvm.Cond) (a1 : Addr) (p3 : Int32) (p4 : Int32) (p5 : Int32) (p6 : Int32) (p7 : Int32) (p8 : Int32) (k9 : ClassId) (h0 : Heap) (n0 : Nat) (Z0 : n0 ≤ h0.size) (S__assertionsDisabled : Sta Z Z.heap "java/lang/StringUTF16" "$assertionsDisabled" "Z" (.int 1)) (Od0 : Old Z n0 h0) (V_a1 : Arv Z h0 a1 k9 .byte (6 : Int32) [(.int p3), (.int p4), (.int p5), (.int p6), (.int p7), (.int p8)] (.int 0)) (S_HI_BYTE_SHIFT : Sta Z Z.heap "java/lang/StringUTF16" "HI_BYTE_SHIFT" "I" (.int 0)) (S_LO_BYTE_SHIFT : Sta Z Z.heap "java/lang/StringUTF16" "LO_BYTE_SHIFT" "I" (.int 8)) :
    OwnMet l Z y_5 jdk_52_method_5_code 2 (some .char) ws Rm44 #[(.ref a1), (.int 0)] h0 (Q44 Z a1 p3 p4 p5 p6 p7 p8 k9 h0 n0) := by
  refine own_body (plainFor_of_name pn_0) (ef_ed7d6e a1) ?_
  intro p e s m below meth c s₁ hx hby hml hown hnm hret hZ X0 e0
  have N0 := Fr.nil n0
  obtain ⟨T2, X2, e2, st2⟩ := getS2 X0 hx hZ hown (host := "") (Or.inl (w_80 hw)) Via.refl e0 (S__assertionsDisabled.ext Od0.2) (g := (mkF m 0 #[.val (.ref a1), .val (.int 0)] [])) rfl (hb hby d19_0)
  obtain ⟨cl10, Ar10, q10, S10, M10, Hs10, G10⟩ := id V_a1
  have hin11 : ¬ ((0 : Int32) < 0 ∨ cl10.slots.size ≤ ((0 : Int32)).toNatClampNeg) := inb_of S10 ⟨(by decide : ¬ ((0 : Int32) < (0 : Int32))), (by decide : (0 : Int32) < (6 : Int32))⟩
  obtain ⟨T12, X12, e12, st12⟩ := getS2 X2 hx hZ hown (host := "") (Or.inl (w_81 hw)) Via.refl e2 (S_HI_BYTE_SHIFT.ext Od0.2) (g := (mkF m 42 #[.val (.ref a1), .val (.int 1)] [(.int (p3 &&& (255 : Int32)))])) rfl (hb hby d19_42)
  have hin13 : ¬ ((1 : Int32) < 0 ∨ cl10.slots.size ≤ ((1 : Int32)).toNatClampNeg) := inb_of S10 ⟨(by decide : ¬ ((1 : Int32) < (0 : Int32))), (by decide : (1 : Int32) < (6 : Int32))⟩
  obtain ⟨T14, X14, e14, st14⟩ := getS2 X12 hx hZ hown (host := "") (Or.inl (w_82 hw)) Via.refl e12 (S_LO_BYTE_SHIFT.ext Od0.2) (g := (mkF m 53 #[.val (.ref a1), .val (.int 1)] [(.int (p4 &&& (255 : Int32))), (.int ((p3 &&& (255 : Int32)) <<< ((0 : Int32) &&& 31)))])) rfl (hb hby d19_53)
  refine ⟨T14, _, _, _, (some (.int (nar .char ((((p3 &&& (255 : Int32)) <<< ((0 : Int32) &&& 31)) ||| ((p4 &&& (255 : Int32)) <<< ((8 : Int32) &&& 31))).toUInt32.toUInt16.toUInt32.toInt32)))), X14, nofun, by decide, by decide, ?_, fun fs hr => ?_⟩
  · rw [e14]
    exact ⟨rfl, N0, rfl⟩
  · refine st2 _ ?_
    refine XS.ifYes X2.here hx rfl (pc0 := 3) (pc' := 28) rfl (hb hby d19_3) rfl ((if0 _ _).trans (feq ((by decide : ¬ ((1 : Int32) = (0 : Int32))) : ¬ ((1 : Int32) = (0 : Int32)))).2) (by decide) (by decide) ?_
    refine XS.iloadN X2.here hx rfl (hb hby d19_28) rfl ?_
    refine XS.iconst X2.here hx rfl (hb hby d19_29) ?_
    refine XS.ishl X2.here hx rfl (hb hby d19_30) rfl ?_
    refine XS.istoreN X2.here hx rfl (hb hby d19_31) rfl (l' := #[.val (.ref a1), .val (.int 0)]) rfl ?_
    refine XS.aloadN X2.here hx rfl (hb hby d19_32) rfl rfl ?_
    refine XS.iloadN X2.here hx rfl (hb hby d19_33) rfl ?_
    refine XS.iinc X2.here hx rfl (hb hby d19_34) rfl (l' := #[.val (.ref a1), .val (.int 1)]) rfl ?_
    refine X2.baloadBytes hx (j := (0 : Int32)) (v := (.int p3)) (by rw [e2]; exact Ar10.1) (State.isArrayOf_alike hZ.alike Ar10.2.1) Ar10.2.2 hin11 (Has.at Hs10 hin11 rfl) (g := (mkF m 37 #[.val (.ref a1), .val (.int 1)] [(.int 0), (.ref a1)])) rfl rfl (hb hby d19_37) _ ?_
    refine XS.sipush X2.here hx rfl (hb hby d19_38) ?_
    show Steps p.tables e below (T2.setTop (mkF m 41 #[.val (.ref a1), .val (.int 1)] [(.int 255), (.int p3)])) _
    refine XS.iand X2.here hx rfl (hb hby d19_41) rfl ?_
    refine st12 _ ?_
    refine XS.ishl X12.here hx rfl (hb hby d19_45) rfl ?_
    refine XS.aloadN X12.here hx rfl (hb hby d19_46) rfl rfl ?_
    refine XS.iloadN X12.here hx rfl (hb hby d19_47) rfl ?_
    refine X12.baloadBytes hx (j := (1 : Int32)) (v := (.int p4)) (by rw [e12]; exact Ar10.1) (State.isArrayOf_alike hZ.alike Ar10.2.1) Ar10.2.2 hin13 (Has.at Hs10 hin13 rfl) (g := (mkF m 48 #[.val (.ref a1), .val (.int 1)] [(.int 1), (.ref a1), (.int ((p3 &&& (255 : Int32)) <<< ((0 : Int32) &&& 31)))])) rfl rfl (hb hby d19_48) _ ?_
    refine XS.sipush X12.here hx rfl (hb hby d19_49) ?_
    refine XS.iand X12.here hx rfl (hb hby d19_52) rfl ?_
    refine st14 _ ?_
    refine XS.ishl X14.here hx rfl (hb hby d19_56) rfl ?_
    refine XS.ior X14.here hx rfl (hb hby d19_57) rfl ?_
    refine XS.i2c X14.here hx rfl (hb hby d19_58) rfl ?_
    show Steps p.tables e below (T14.setTop (mkF m 59 #[.val (.ref a1), .val (.int 1)] [(.int ((((p3 &&& (255 : Int32)) <<< ((0 : Int32) &&& 31)) ||| ((p4 &&& (255 : Int32)) <<< ((8 : Int32) &&& 31))).toUInt32.toUInt16.toUInt32.toInt32))])) _
    exact retN X14 hx (t := .char) hret (by simp) (hb hby d19_59) hr
-- java/lang/StringUTF16.compress([CI[BII)I
abbrev Rm45 : Room := { frames := 0, cells := 0, slots := 0, locals := 0 }
def Q45 (Z : State) (a1 : Addr) (a2 : Addr) (p3 : Int32) (p4 : Int32) (p5 : Int32) (k6 : ClassId) (k10 : ClassId) (h0 : Heap) (n0 : Nat) (v : Option Value) (h : Heap) (L : List Loc) : Prop := v = some (.int 1) ∧ Fr n0 L ∧ Keep h0 h [a2] ∧ Exa Z h a2 "[B" ∧ Arv Z h a2 k10 .byte (3 : Int32) [(.int (nar .byte (p3.toInt8.toInt32))), (.int 0), (.int 0)] (.int 0)
-- ef_ff2d24
theorem rm45 (l : Launch) (Z : State) (a0 : Array Value) (hw : ∀ d ∈ tables_1, d.before a0 Z = true) (ws : List Jvm.Cond) (a1 : Addr) (a2 : Addr) (p3 : Int32) (p4 : Int32) (p5 : Int32) (k6 : ClassId) (k10 : ClassId) (h0 : Heap) (n0 : Nat) (Z0 : n0 ≤ h0.size) (V_a1 : Arv Z h0 a1 k6 .char (3 : Int32) [(.int p3), (.int p4), (.int p5)] (.int 0)) (c9 : ¬ ((255 : Int32) < p3)) (V_a2 : Arv Z h0 a2 k10 .byte (3 : Int32) [(.int 0), (.int 0), (.int 0)] (.int 0)) (g_a2 : n0 ≤ a2) (ne_a1_a2 : a1 ≠ a2) (c17 : (255 : Int32) < p4) (E_a2 : Exa Z h0 a2 "[B") :
    OwnMet l Z y_0 jdk_52_method_21_code 7 (some .int) ws Rm45 #[(.ref a1), (.int 0), (.ref a2), (.int 0), (.int 3)] h0 (Q45 Z a1 a2 p3 p4 p5 k6 k10 h0 n0) := by
  refine own_body (plainFor_of_name pn_0) (ef_ff2d24 a1 a2) ?_
  intro p e s m below meth c s₁ hx hby hml hown hnm hret hZ X0 e0
  have N0 := Fr.nil n0
  obtain ⟨cl7, Ar7, q7, S7, M7, Hs7, G7⟩ := id V_a1
  have hin8 : ¬ ((0 : Int32) < 0 ∨ cl7.slots.size ≤ ((0 : Int32)).toNatClampNeg) := inb_of S7 ⟨(by decide : ¬ ((0 : Int32) < (0 : Int32))), (by decide : (0 : Int32) < (3 : Int32))⟩
  obtain ⟨cl11, Ar11, q11, S11, M11, Hs11, G11⟩ := id V_a2
  have hin12 : ¬ ((0 : Int32) < 0 ∨ cl11.slots.size ≤ ((0 : Int32)).toNatClampNeg) := inb_of S11 ⟨(by decide : ¬ ((0 : Int32) < (0 : Int32))), (by decide : (0 : Int32) < (3 : Int32))⟩
  obtain ⟨T13, h13, X13, e13, W13, st13⟩ := stB X0 hx hZ e0 Ar11 (j := (0 : Int32)) hin12 (g := (mkF m 31 #[.val (.ref a1), .val (.int 0), .val (.ref a2), .val (.int 0), .val (.int 3), .val (.int 0), .val (.int p3)] [(.int (p3.toInt8.toInt32)), (.int 0), (.ref a2)])) rfl rfl (hb hby d5_31)
  have s0 := (Keep.of_wr W13).1
  have N13 := Fr.snoc X13 N0 g_a2
  have Vs13 : Arv Z h13 a2 k10 .byte (3 : Int32) [(.int (nar .byte (p3.toInt8.toInt32))), (.int 0), (.int 0)] (.int 0) := Arv.set Ar11 q11 S11 M11 Hs11 G11 (fits_nar_byte _) W13 0 rfl (Nat.le_of_ble_eq_true rfl)
  have Va14 := (V_a1.other W13 ne_a1_a2)
  obtain ⟨cl15, Ar15, q15, S15, M15, Hs15, G15⟩ := id Va14
  have hin16 : ¬ ((1 : Int32) < 0 ∨ cl15.slots.size ≤ ((1 : Int32)).toNatClampNeg) := inb_of S15 ⟨(by decide : ¬ ((1 : Int32) < (0 : Int32))), (by decide : (1 : Int32) < (3 : Int32))⟩
  have Ex18 := (E_a2.wr W13)
  have Kp0 : Keep h0 h13 [a2] := (Keep.refl h0 [a2]).wr W13 (Or.inl (List.mem_of_getElem? (i := 0) rfl))
  refine ⟨T13, _, _, _, (some (.int 1)), X13, nofun, by decide, by decide, ?_, fun fs hr => ?_⟩
  · rw [e13]
    exact ⟨rfl, N13, Kp0, Ex18, Vs13⟩
  · refine XS.iconst X0.here hx rfl (hb hby d5_0) ?_
    refine XS.istore X0.here hx rfl (hb hby d5_1) rfl (l' := #[.val (.ref a1), .val (.int 0), .val (.ref a2), .val (.int 0), .val (.int 3), .val (.int 0), .unset]) rfl ?_
    refine XS.iload X0.here hx rfl (hb hby d5_3) rfl ?_
    refine XS.iload X0.here hx rfl (hb hby d5_5) rfl ?_
    refine XS.icmpNo X0.here hx rfl (hb hby d5_7) rfl (tlt ((by decide : (0 : Int32) < (3 : Int32)) : (0 : Int32) < (3 : Int32))).2.1 ?_
    refine XS.aloadN X0.here hx rfl (hb hby d5_10) rfl rfl ?_
    refine XS.iloadN X0.here hx rfl (hb hby d5_11) rfl ?_
    refine X0.caload hx (j := (0 : Int32)) (v := (.int p3)) (by rw [e0]; exact Ar7.1) (State.isArrayOf_alike hZ.alike Ar7.2.1) Ar7.2.2 hin8 (Has.at Hs7 hin8 rfl) (g := (mkF m 12 #[.val (.ref a1), .val (.int 0), .val (.ref a2), .val (.int 0), .val (.int 3), .val (.int 0), .unset] [(.int 0), (.ref a1)])) rfl rfl (hb hby d5_12) _ ?_
    refine XS.istore X0.here hx rfl (hb hby d5_13) rfl (l' := #[.val (.ref a1), .val (.int 0), .val (.ref a2), .val (.int 0), .val (.int 3), .val (.int 0), .val (.int p3)]) rfl ?_
    refine XS.iload X0.here hx rfl (hb hby d5_15) rfl ?_
    refine XS.sipush X0.here hx rfl (hb hby d5_17) ?_
    show Steps p.tables e below (s₁.setTop (mkF m 20 #[.val (.ref a1), .val (.int 0), .val (.ref a2), .val (.int 0), .val (.int 3), .val (.int 0), .val (.int p3)] [(.int 255), (.int p3)])) _
    refine XS.icmpYes X0.here hx rfl (pc0 := 20) (pc' := 26) rfl (hb hby d5_20) rfl (flt (c9 : ¬ ((255 : Int32) < p3))).2.2.2 (by decide) (by decide) ?_
    refine XS.aloadN X0.here hx rfl (hb hby d5_26) rfl rfl ?_
    refine XS.iloadN X0.here hx rfl (hb hby d5_27) rfl ?_
    refine XS.iload X0.here hx rfl (hb hby d5_28) rfl ?_
    refine XS.i2b X0.here hx rfl (hb hby d5_30) rfl ?_
    refine st13 _ ?_
    refine XS.iinc X13.here hx rfl (hb hby d5_32) rfl (l' := #[.val (.ref a1), .val (.int 1), .val (.ref a2), .val (.int 0), .val (.int 3), .val (.int 0), .val (.int p3)]) rfl ?_
    refine XS.iinc X13.here hx rfl (hb hby d5_35) rfl (l' := #[.val (.ref a1), .val (.int 1), .val (.ref a2), .val (.int 1), .val (.int 3), .val (.int 0), .val (.int p3)]) rfl ?_
    refine XS.iinc X13.here hx rfl (hb hby d5_38) rfl (l' := #[.val (.ref a1), .val (.int 1), .val (.ref a2), .val (.int 1), .val (.int 3), .val (.int 1), .val (.int p3)]) rfl ?_
    refine XS.goto X13.here hx rfl (pc0 := 41) (pc' := 3) rfl (hb hby d5_41) (by decide) (by decide) ?_
    refine XS.iload X13.here hx rfl (hb hby d5_3) rfl ?_
    refine XS.iload X13.here hx rfl (hb hby d5_5) rfl ?_
    show Steps p.tables e below (T13.setTop (mkF m 7 #[.val (.ref a1), .val (.int 1), .val (.ref a2), .val (.int 1), .val (.int 3), .val (.int 1), .val (.int p3)] [(.int 3), (.int 1)])) _
    refine XS.icmpNo X13.here hx rfl (hb hby d5_7) rfl (tlt ((by decide : (1 : Int32) < (3 : Int32)) : (1 : Int32) < (3 : Int32))).2.1 ?_
    refine XS.aloadN X13.here hx rfl (hb hby d5_10) rfl rfl ?_
    refine XS.iloadN X13.here hx rfl (hb hby d5_11) rfl ?_
    refine X13.caload hx (j := (1 : Int32)) (v := (.int p4)) (by rw [e13]; exact Ar15.1) (State.isArrayOf_alike hZ.alike Ar15.2.1) Ar15.2.2 hin16 (Has.at Hs15 hin16 rfl) (g := (mkF m 12 #[.val (.ref a1), .val (.int 1), .val (.ref a2), .val (.int 1), .val (.int 3), .val (.int 1), .val (.int p3)] [(.int 1), (.ref a1)])) rfl rfl (hb hby d5_12) _ ?_
    refine XS.istore X13.here hx rfl (hb hby d5_13) rfl (l' := #[.val (.ref a1), .val (.int 1), .val (.ref a2), .val (.int 1), .val (.int 3), .val (.int 1), .val (.int p4)]) rfl ?_
    refine XS.iload X13.here hx rfl (hb hby d5_15) rfl ?_
    refine XS.sipush X13.here hx rfl (hb hby d5_17) ?_
    refine XS.icmpNo X13.here hx rfl (hb hby d5_20) rfl (tlt (c17 : (255 : Int32) < p4)).2.2.2 ?_
    refine XS.iload X13.here hx rfl (hb hby d5_23) rfl ?_
    exact retI X13 hx hret (hb hby d5_25) hr
-- java/lang/StringUTF16.getChar([BI)C
abbrev Rm46 : Room := { frames := 0, cells := 0, slots := 0, locals := 0 }
def Q46 (Z : State) (a1 : Addr) (p3 : Int32) (p4 : Int32) (p5 : Int32) (p6 : Int32) (p7 : Int32) (p8 : Int32) (k9 : ClassId) (h0 : Heap) (n0 : Nat) (v : Option Value) (h : Heap) (L : List Loc) : Prop := v = some (.int (nar .char ((((p5 &&& (255 : Int32)) <<< ((0 : Int32) &&& 31)) ||| ((p6 &&& (255 : Int32)) <<< ((8 : Int32) &&& 31))).toUInt32.toUInt16.toUInt32.toInt32))) ∧ Fr n0 L ∧ h = h0
-- ef_218e7d
theorem rm46 (l : Launch) (Z : State) (a0 : Array Value) (hw : ∀ d ∈ tables_1, d.before a0 Z = true) (ws : List Jvm.Cond) (a1 : Addr) (p3 : Int32) (p4 : Int32) (p5 : Int32) (p6 : Int32) (p7 : Int32) (p8 : Int32) (k9 : ClassId) (h0 : Heap) (n0 : Nat) (Z0 : n0 ≤ h0.size) (S__assertionsDisabled : Sta Z Z.heap "java/lang/StringUTF16" "$assertionsDisabled" "Z" (.int 1)) (Od0 : Old Z n0 h0) (V_a1 : Arv Z h0 a1 k9 .byte (6 : Int32) [(.int p3), (.int p4), (.int p5), (.int p6), (.int p7), (.int p8)] (.int 0)) (S_HI_BYTE_SHIFT : Sta Z Z.heap "java/lang/StringUTF16" "HI_BYTE_SHIFT" "I" (.int 0)) (S_LO_BYTE_SHIFT : Sta Z Z.heap "java/lang/StringUTF16" "LO_BYTE_SHIFT" "I" (.int 8)) :
    OwnMet l Z y_5 jdk_52_method_5_code 2 (some .char) ws Rm46 #[(.ref a1), (.int 1)] h0 (Q46 Z a1 p3 p4 p5 p6 p7 p8 k9 h0 n0) := by
  refine own_body (plainFor_of_name pn_0) (ef_218e7d a1) ?_
  intro p e s m below meth c s₁ hx hby hml hown hnm hret hZ X0 e0
  have N0 := Fr.nil n0
  obtain ⟨T2, X2, e2, st2⟩ := getS2 X0 hx hZ hown (host := "") (Or.inl (w_80 hw)) Via.refl e0 (S__assertionsDisabled.ext Od0.2) (g := (mkF m 0 #[.val (.ref a1), .val (.int 1)] [])) rfl (hb hby d19_0)
  obtain ⟨cl10, Ar10, q10, S10, M10, Hs10, G10⟩ := id V_a1
  have hin11 : ¬ ((2 : Int32) < 0 ∨ cl10.slots.size ≤ ((2 : Int32)).toNatClampNeg) := inb_of S10 ⟨(by decide : ¬ ((2 : Int32) < (0 : Int32))), (by decide : (2 : Int32) < (6 : Int32))⟩
  obtain ⟨T12, X12, e12, st12⟩ := getS2 X2 hx hZ hown (host := "") (Or.inl (w_81 hw)) Via.refl e2 (S_HI_BYTE_SHIFT.ext Od0.2) (g := (mkF m 42 #[.val (.ref a1), .val (.int 3)] [(.int (p5 &&& (255 : Int32)))])) rfl (hb hby d19_42)
  have hin13 : ¬ ((3 : Int32) < 0 ∨ cl10.slots.size ≤ ((3 : Int32)).toNatClampNeg) := inb_of S10 ⟨(by decide : ¬ ((3 : Int32) < (0 : Int32))), (by decide : (3 : Int32) < (6 : Int32))⟩
  obtain ⟨T14, X14, e14, st14⟩ := getS2 X12 hx hZ hown (host := "") (Or.inl (w_82 hw)) Via.refl e12 (S_LO_BYTE_SHIFT.ext Od0.2) (g := (mkF m 53 #[.val (.ref a1), .val (.int 3)] [(.int (p6 &&& (255 : Int32))), (.int ((p5 &&& (255 : Int32)) <<< ((0 : Int32) &&& 31)))])) rfl (hb hby d19_53)
  refine ⟨T14, _, _, _, (some (.int (nar .char ((((p5 &&& (255 : Int32)) <<< ((0 : Int32) &&& 31)) ||| ((p6 &&& (255 : Int32)) <<< ((8 : Int32) &&& 31))).toUInt32.toUInt16.toUInt32.toInt32)))), X14, nofun, by decide, by decide, ?_, fun fs hr => ?_⟩
  · rw [e14]
    exact ⟨rfl, N0, rfl⟩
  · refine st2 _ ?_
    refine XS.ifYes X2.here hx rfl (pc0 := 3) (pc' := 28) rfl (hb hby d19_3) rfl ((if0 _ _).trans (feq ((by decide : ¬ ((1 : Int32) = (0 : Int32))) : ¬ ((1 : Int32) = (0 : Int32)))).2) (by decide) (by decide) ?_
    refine XS.iloadN X2.here hx rfl (hb hby d19_28) rfl ?_
    refine XS.iconst X2.here hx rfl (hb hby d19_29) ?_
    refine XS.ishl X2.here hx rfl (hb hby d19_30) rfl ?_
    refine XS.istoreN X2.here hx rfl (hb hby d19_31) rfl (l' := #[.val (.ref a1), .val (.int 2)]) rfl ?_
    refine XS.aloadN X2.here hx rfl (hb hby d19_32) rfl rfl ?_
    refine XS.iloadN X2.here hx rfl (hb hby d19_33) rfl ?_
    refine XS.iinc X2.here hx rfl (hb hby d19_34) rfl (l' := #[.val (.ref a1), .val (.int 3)]) rfl ?_
    refine X2.baloadBytes hx (j := (2 : Int32)) (v := (.int p5)) (by rw [e2]; exact Ar10.1) (State.isArrayOf_alike hZ.alike Ar10.2.1) Ar10.2.2 hin11 (Has.at Hs10 hin11 rfl) (g := (mkF m 37 #[.val (.ref a1), .val (.int 3)] [(.int 2), (.ref a1)])) rfl rfl (hb hby d19_37) _ ?_
    refine XS.sipush X2.here hx rfl (hb hby d19_38) ?_
    show Steps p.tables e below (T2.setTop (mkF m 41 #[.val (.ref a1), .val (.int 3)] [(.int 255), (.int p5)])) _
    refine XS.iand X2.here hx rfl (hb hby d19_41) rfl ?_
    refine st12 _ ?_
    refine XS.ishl X12.here hx rfl (hb hby d19_45) rfl ?_
    refine XS.aloadN X12.here hx rfl (hb hby d19_46) rfl rfl ?_
    refine XS.iloadN X12.here hx rfl (hb hby d19_47) rfl ?_
    refine X12.baloadBytes hx (j := (3 : Int32)) (v := (.int p6)) (by rw [e12]; exact Ar10.1) (State.isArrayOf_alike hZ.alike Ar10.2.1) Ar10.2.2 hin13 (Has.at Hs10 hin13 rfl) (g := (mkF m 48 #[.val (.ref a1), .val (.int 3)] [(.int 3), (.ref a1), (.int ((p5 &&& (255 : Int32)) <<< ((0 : Int32) &&& 31)))])) rfl rfl (hb hby d19_48) _ ?_
    refine XS.sipush X12.here hx rfl (hb hby d19_49) ?_
    refine XS.iand X12.here hx rfl (hb hby d19_52) rfl ?_
    refine st14 _ ?_
    refine XS.ishl X14.here hx rfl (hb hby d19_56) rfl ?_
    refine XS.ior X14.here hx rfl (hb hby d19_57) rfl ?_
    refine XS.i2c X14.here hx rfl (hb hby d19_58) rfl ?_
    show Steps p.tables e below (T14.setTop (mkF m 59 #[.val (.ref a1), .val (.int 3)] [(.int ((((p5 &&& (255 : Int32)) <<< ((0 : Int32) &&& 31)) ||| ((p6 &&& (255 : Int32)) <<< ((8 : Int32) &&& 31))).toUInt32.toUInt16.toUInt32.toInt32))])) _
    exact retN X14 hx (t := .char) hret (by simp) (hb hby d19_59) hr
-- java/lang/StringUTF16.compress([CI[BII)I
abbrev Rm47 : Room := { frames := 0, cells := 0, slots := 0, locals := 0 }
def Q47 (Z : State) (a1 : Addr) (a2 : Addr) (p3 : Int32) (p4 : Int32) (p5 : Int32) (k6 : ClassId) (k10 : ClassId) (h0 : Heap) (n0 : Nat) (v : Option Value) (h : Heap) (L : List Loc) : Prop := v = some (.int 2) ∧ Fr n0 L ∧ Keep h0 h [a2] ∧ Exa Z h a2 "[B" ∧ Arv Z h a2 k10 .byte (3 : Int32) [(.int (nar .byte (p3.toInt8.toInt32))), (.int (nar .byte (p4.toInt8.toInt32))), (.int 0)] (.int 0)
-- ef_ff2d24
theorem rm47 (l : Launch) (Z : State) (a0 : Array Value) (hw : ∀ d ∈ tables_1, d.before a0 Z = true) (ws : List Jvm.Cond) (a1 : Addr) (a2 : Addr) (p3 : Int32) (p4 : Int32) (p5 : Int32) (k6 : ClassId) (k10 : ClassId) (h0 : Heap) (n0 : Nat) (Z0 : n0 ≤ h0.size) (V_a1 : Arv Z h0 a1 k6 .char (3 : Int32) [(.int p3), (.int p4), (.int p5)] (.int 0)) (c9 : ¬ ((255 : Int32) < p3)) (V_a2 : Arv Z h0 a2 k10 .byte (3 : Int32) [(.int 0), (.int 0), (.int 0)] (.int 0)) (g_a2 : n0 ≤ a2) (ne_a1_a2 : a1 ≠ a2) (c17 : ¬ ((255 : Int32) < p4)) (c24 : (255 : Int32) < p5) (E_a2 : Exa Z h0 a2 "[B") :
    OwnMet l Z y_0 jdk_52_method_21_code 7 (some .int) ws Rm47 #[(.ref a1), (.int 0), (.ref a2), (.int 0), (.int 3)] h0 (Q47 Z a1 a2 p3 p4 p5 k6 k10 h0 n0) := by
  refine own_body (plainFor_of_name pn_0) (ef_ff2d24 a1 a2) ?_
  intro p e s m below meth c s₁ hx hby hml hown hnm hret hZ X0 e0
  have N0 := Fr.nil n0
  obtain ⟨cl7, Ar7, q7, S7, M7, Hs7, G7⟩ := id V_a1
  have hin8 : ¬ ((0 : Int32) < 0 ∨ cl7.slots.size ≤ ((0 : Int32)).toNatClampNeg) := inb_of S7 ⟨(by decide : ¬ ((0 : Int32) < (0 : Int32))), (by decide : (0 : Int32) < (3 : Int32))⟩
  obtain ⟨cl11, Ar11, q11, S11, M11, Hs11, G11⟩ := id V_a2
  have hin12 : ¬ ((0 : Int32) < 0 ∨ cl11.slots.size ≤ ((0 : Int32)).toNatClampNeg) := inb_of S11 ⟨(by decide : ¬ ((0 : Int32) < (0 : Int32))), (by decide : (0 : Int32) < (3 : Int32))⟩
  obtain ⟨T13, h13, X13, e13, W13, st13⟩ := stB X0 hx hZ e0 Ar11 (j := (0 : Int32)) hin12 (g := (mkF m 31 #[.val (.ref a1), .val (.int 0), .val (.ref a2), .val (.int 0), .val (.int 3), .val (.int 0), .val (.int p3)] [(.int (p3.toInt8.toInt32)), (.int 0), (.ref a2)])) rfl rfl (hb hby d5_31)
  have s0 := (Keep.of_wr W13).1
  have N13 := Fr.snoc X13 N0 g_a2
  have Vs13 : Arv Z h13 a2 k10 .byte (3 : Int32) [(.int (nar .byte (p3.toInt8.toInt32))), (.int 0), (.int 0)] (.int 0) := Arv.set Ar11 q11 S11 M11 Hs11 G11 (fits_nar_byte _) W13 0 rfl (Nat.le_of_ble_eq_true rfl)
  have Va14 := (V_a1.other W13 ne_a1_a2)
  obtain ⟨cl15, Ar15, q15, S15, M15, Hs15, G15⟩ := id Va14
  have hin16 : ¬ ((1 : Int32) < 0 ∨ cl15.slots.size ≤ ((1 : Int32)).toNatClampNeg) := inb_of S15 ⟨(by decide : ¬ ((1 : Int32) < (0 : Int32))), (by decide : (1 : Int32) < (3 : Int32))⟩
  obtain ⟨cl18, Ar18, q18, S18, M18, Hs18, G18⟩ := id Vs13
  have hin19 : ¬ ((1 : Int32) < 0 ∨ cl18.slots.size ≤ ((1 : Int32)).toNatClampNeg) := inb_of S18 ⟨(by decide : ¬ ((1 : Int32) < (0 : Int32))), (by decide : (1 : Int32) < (3 : Int32))⟩
  obtain ⟨T20, h20, X20, e20, W20, st20⟩ := stB X13 hx hZ e13 Ar18 (j := (1 : Int32)) hin19 (g := (mkF m 31 #[.val (.ref a1), .val (.int 1), .val (.ref a2), .val (.int 1), .val (.int 3), .val (.int 1), .val (.int p4)] [(.int (p4.toInt8.toInt32)), (.int 1), (.ref a2)])) rfl rfl (hb hby d5_31)
  have s1 := (Keep.of_wr W20).1
  have N20 := Fr.snoc X20 N13 g_a2
  have Vs20 : Arv Z h20 a2 k10 .byte (3 : Int32) [(.int (nar .byte (p3.toInt8.toInt32))), (.int (nar .byte (p4.toInt8.toInt32))), (.int 0)] (.int 0) := Arv.set Ar18 q18 S18 M18 Hs18 G18 (fits_nar_byte _) W20 1 rfl (Nat.le_of_ble_eq_true rfl)
  have Va21 := (Va14.other W20 ne_a1_a2)
  obtain ⟨cl22, Ar22, q22, S22, M22, Hs22, G22⟩ := id Va21
  have hin23 : ¬ ((2 : Int32) < 0 ∨ cl22.slots.size ≤ ((2 : Int32)).toNatClampNeg) := inb_of S22 ⟨(by decide : ¬ ((2 : Int32) < (0 : Int32))), (by decide : (2 : Int32) < (3 : Int32))⟩
  have Ex25 := ((E_a2.wr W13).wr W20)
  have Kp0 : Keep h0 h13 [a2] := (Keep.refl h0 [a2]).wr W13 (Or.inl (List.mem_of_getElem? (i := 0) rfl))
  have Kp1 : Keep h0 h20 [a2] := Kp0.wr W20 (Or.inl (List.mem_of_getElem? (i := 0) rfl))
  refine ⟨T20, _, _, _, (some (.int 2)), X20, nofun, by decide, by decide, ?_, fun fs hr => ?_⟩
  · rw [e20]
    exact ⟨rfl, N20, Kp1, Ex25, Vs20⟩
  · refine XS.iconst X0.here hx rfl (hb hby d5_0) ?_
    refine XS.istore X0.here hx rfl (hb hby d5_1) rfl (l' := #[.val (.ref a1), .val (.int 0), .val (.ref a2), .val (.int 0), .val (.int 3), .val (.int 0), .unset]) rfl ?_
    refine XS.iload X0.here hx rfl (hb hby d5_3) rfl ?_
    refine XS.iload X0.here hx rfl (hb hby d5_5) rfl ?_
    refine XS.icmpNo X0.here hx rfl (hb hby d5_7) rfl (tlt ((by decide : (0 : Int32) < (3 : Int32)) : (0 : Int32) < (3 : Int32))).2.1 ?_
    refine XS.aloadN X0.here hx rfl (hb hby d5_10) rfl rfl ?_
    refine XS.iloadN X0.here hx rfl (hb hby d5_11) rfl ?_
    refine X0.caload hx (j := (0 : Int32)) (v := (.int p3)) (by rw [e0]; exact Ar7.1) (State.isArrayOf_alike hZ.alike Ar7.2.1) Ar7.2.2 hin8 (Has.at Hs7 hin8 rfl) (g := (mkF m 12 #[.val (.ref a1), .val (.int 0), .val (.ref a2), .val (.int 0), .val (.int 3), .val (.int 0), .unset] [(.int 0), (.ref a1)])) rfl rfl (hb hby d5_12) _ ?_
    refine XS.istore X0.here hx rfl (hb hby d5_13) rfl (l' := #[.val (.ref a1), .val (.int 0), .val (.ref a2), .val (.int 0), .val (.int 3), .val (.int 0), .val (.int p3)]) rfl ?_
    refine XS.iload X0.here hx rfl (hb hby d5_15) rfl ?_
    refine XS.sipush X0.here hx rfl (hb hby d5_17) ?_
    show Steps p.tables e below (s₁.setTop (mkF m 20 #[.val (.ref a1), .val (.int 0), .val (.ref a2), .val (.int 0), .val (.int 3), .val (.int 0), .val (.int p3)] [(.int 255), (.int p3)])) _
    refine XS.icmpYes X0.here hx rfl (pc0 := 20) (pc' := 26) rfl (hb hby d5_20) rfl (flt (c9 : ¬ ((255 : Int32) < p3))).2.2.2 (by decide) (by decide) ?_
    refine XS.aloadN X0.here hx rfl (hb hby d5_26) rfl rfl ?_
    refine XS.iloadN X0.here hx rfl (hb hby d5_27) rfl ?_
    refine XS.iload X0.here hx rfl (hb hby d5_28) rfl ?_
    refine XS.i2b X0.here hx rfl (hb hby d5_30) rfl ?_
    refine st13 _ ?_
    refine XS.iinc X13.here hx rfl (hb hby d5_32) rfl (l' := #[.val (.ref a1), .val (.int 1), .val (.ref a2), .val (.int 0), .val (.int 3), .val (.int 0), .val (.int p3)]) rfl ?_
    refine XS.iinc X13.here hx rfl (hb hby d5_35) rfl (l' := #[.val (.ref a1), .val (.int 1), .val (.ref a2), .val (.int 1), .val (.int 3), .val (.int 0), .val (.int p3)]) rfl ?_
    refine XS.iinc X13.here hx rfl (hb hby d5_38) rfl (l' := #[.val (.ref a1), .val (.int 1), .val (.ref a2), .val (.int 1), .val (.int 3), .val (.int 1), .val (.int p3)]) rfl ?_
    refine XS.goto X13.here hx rfl (pc0 := 41) (pc' := 3) rfl (hb hby d5_41) (by decide) (by decide) ?_
    refine XS.iload X13.here hx rfl (hb hby d5_3) rfl ?_
    refine XS.iload X13.here hx rfl (hb hby d5_5) rfl ?_
    show Steps p.tables e below (T13.setTop (mkF m 7 #[.val (.ref a1), .val (.int 1), .val (.ref a2), .val (.int 1), .val (.int 3), .val (.int 1), .val (.int p3)] [(.int 3), (.int 1)])) _
    refine XS.icmpNo X13.here hx rfl (hb hby d5_7) rfl (tlt ((by decide : (1 : Int32) < (3 : Int32)) : (1 : Int32) < (3 : Int32))).2.1 ?_
    refine XS.aloadN X13.here hx rfl (hb hby d5_10) rfl rfl ?_
    refine XS.iloadN X13.here hx rfl (hb hby d5_11) rfl ?_
    refine X13.caload hx (j := (1 : Int32)) (v := (.int p4)) (by rw [e13]; exact Ar15.1) (State.isArrayOf_alike hZ.alike Ar15.2.1) Ar15.2.2 hin16 (Has.at Hs15 hin16 rfl) (g := (mkF m 12 #[.val (.ref a1), .val (.int 1), .val (.ref a2), .val (.int 1), .val (.int 3), .val (.int 1), .val (.int p3)] [(.int 1), (.ref a1)])) rfl rfl (hb hby d5_12) _ ?_
    refine XS.istore X13.here hx rfl (hb hby d5_13) rfl (l' := #[.val (.ref a1), .val (.int 1), .val (.ref a2), .val (.int 1), .val (.int 3), .val (.int 1), .val (.int p4)]) rfl ?_
    refine XS.iload X13.here hx rfl (hb hby d5_15) rfl ?_
    refine XS.sipush X13.here hx rfl (hb hby d5_17) ?_
    refine XS.icmpYes X13.here hx rfl (pc0 := 20) (pc' := 26) rfl (hb hby d5_20) rfl (flt (c17 : ¬ ((255 : Int32) < p4))).2.2.2 (by decide) (by decide) ?_
    refine XS.aloadN X13.here hx rfl (hb hby d5_26) rfl rfl ?_
    refine XS.iloadN X13.here hx rfl (hb hby d5_27) rfl ?_
    refine XS.iload X13.here hx rfl (hb hby d5_28) rfl ?_
    refine XS.i2b X13.here hx rfl (hb hby d5_30) rfl ?_
    show Steps p.tables e below (T13.setTop (mkF m 31 #[.val (.ref a1), .val (.int 1), .val (.ref a2), .val (.int 1), .val (.int 3), .val (.int 1), .val (.int p4)] [(.int (p4.toInt8.toInt32)), (.int 1), (.ref a2)])) _
    refine st20 _ ?_
    refine XS.iinc X20.here hx rfl (hb hby d5_32) rfl (l' := #[.val (.ref a1), .val (.int 2), .val (.ref a2), .val (.int 1), .val (.int 3), .val (.int 1), .val (.int p4)]) rfl ?_
    refine XS.iinc X20.here hx rfl (hb hby d5_35) rfl (l' := #[.val (.ref a1), .val (.int 2), .val (.ref a2), .val (.int 2), .val (.int 3), .val (.int 1), .val (.int p4)]) rfl ?_
    refine XS.iinc X20.here hx rfl (hb hby d5_38) rfl (l' := #[.val (.ref a1), .val (.int 2), .val (.ref a2), .val (.int 2), .val (.int 3), .val (.int 2), .val (.int p4)]) rfl ?_
    refine XS.goto X20.here hx rfl (pc0 := 41) (pc' := 3) rfl (hb hby d5_41) (by decide) (by decide) ?_
    refine XS.iload X20.here hx rfl (hb hby d5_3) rfl ?_
    refine XS.iload X20.here hx rfl (hb hby d5_5) rfl ?_
    refine XS.icmpNo X20.here hx rfl (hb hby d5_7) rfl (tlt ((by decide : (2 : Int32) < (3 : Int32)) : (2 : Int32) < (3 : Int32))).2.1 ?_
    refine XS.aloadN X20.here hx rfl (hb hby d5_10) rfl rfl ?_
    refine XS.iloadN X20.here hx rfl (hb hby d5_11) rfl ?_
    refine X20.caload hx (j := (2 : Int32)) (v := (.int p5)) (by rw [e20]; exact Ar22.1) (State.isArrayOf_alike hZ.alike Ar22.2.1) Ar22.2.2 hin23 (Has.at Hs22 hin23 rfl) (g := (mkF m 12 #[.val (.ref a1), .val (.int 2), .val (.ref a2), .val (.int 2), .val (.int 3), .val (.int 2), .val (.int p4)] [(.int 2), (.ref a1)])) rfl rfl (hb hby d5_12) _ ?_
    refine XS.istore X20.here hx rfl (hb hby d5_13) rfl (l' := #[.val (.ref a1), .val (.int 2), .val (.ref a2), .val (.int 2), .val (.int 3), .val (.int 2), .val (.int p5)]) rfl ?_
    show Steps p.tables e below (T20.setTop (mkF m 15 #[.val (.ref a1), .val (.int 2), .val (.ref a2), .val (.int 2), .val (.int 3), .val (.int 2), .val (.int p5)] [])) _
    refine XS.iload X20.here hx rfl (hb hby d5_15) rfl ?_
    refine XS.sipush X20.here hx rfl (hb hby d5_17) ?_
    refine XS.icmpNo X20.here hx rfl (hb hby d5_20) rfl (tlt (c24 : (255 : Int32) < p5)).2.2.2 ?_
    refine XS.iload X20.here hx rfl (hb hby d5_23) rfl ?_
    exact retI X20 hx hret (hb hby d5_25) hr
-- java/lang/StringUTF16.getChar([BI)C
abbrev Rm48 : Room := { frames := 0, cells := 0, slots := 0, locals := 0 }
def Q48 (Z : State) (a1 : Addr) (p3 : Int32) (p4 : Int32) (p5 : Int32) (p6 : Int32) (p7 : Int32) (p8 : Int32) (k9 : ClassId) (h0 : Heap) (n0 : Nat) (v : Option Value) (h : Heap) (L : List Loc) : Prop := v = some (.int (nar .char ((((p7 &&& (255 : Int32)) <<< ((0 : Int32) &&& 31)) ||| ((p8 &&& (255 : Int32)) <<< ((8 : Int32) &&& 31))).toUInt32.toUInt16.toUInt32.toInt32))) ∧ Fr n0 L ∧ h = h0
-- ef_60b4a0
theorem rm48 (l : Launch) (Z : State) (a0 : Array Value) (hw : ∀ d ∈ tables_1, d.before a0 Z = true) (ws : List Jvm.Cond) (a1 : Addr) (p3 : Int32) (p4 : Int32) (p5 : Int32) (p6 : Int32) (p7 : Int32) (p8 : Int32) (k9 : ClassId) (h0 : Heap) (n0 : Nat) (Z0 : n0 ≤ h0.size) (S__assertionsDisabled : Sta Z Z.heap "java/lang/StringUTF16" "$assertionsDisabled" "Z" (.int 1)) (Od0 : Old Z n0 h0) (V_a1 : Arv Z h0 a1 k9 .byte (6 : Int32) [(.int p3), (.int p4), (.int p5), (.int p6), (.int p7), (.int p8)] (.int 0)) (S_HI_BYTE_SHIFT : Sta Z Z.heap "java/lang/StringUTF16" "HI_BYTE_SHIFT" "I" (.int 0)) (S_LO_BYTE_SHIFT : Sta Z Z.heap "java/lang/StringUTF16" "LO_BYTE_SHIFT" "I" (.int 8)) :
    OwnMet l Z y_5 jdk_52_method_5_code 2 (some .char) ws Rm48 #[(.ref a1), (.int 2)] h0 (Q48 Z a1 p3 p4 p5 p6 p7 p8 k9 h0 n0) := by
  refine own_body (plainFor_of_name pn_0) (ef_60b4a0 a1) ?_
  intro p e s m below meth c s₁ hx hby hml hown hnm hret hZ X0 e0
  have N0 := Fr.nil n0
  obtain ⟨T2, X2, e2, st2⟩ := getS2 X0 hx hZ hown (host := "") (Or.inl (w_80 hw)) Via.refl e0 (S__assertionsDisabled.ext Od0.2) (g := (mkF m 0 #[.val (.ref a1), .val (.int 2)] [])) rfl (hb hby d19_0)
  obtain ⟨cl10, Ar10, q10, S10, M10, Hs10, G10⟩ := id V_a1
  have hin11 : ¬ ((4 : Int32) < 0 ∨ cl10.slots.size ≤ ((4 : Int32)).toNatClampNeg) := inb_of S10 ⟨(by decide : ¬ ((4 : Int32) < (0 : Int32))), (by decide : (4 : Int32) < (6 : Int32))⟩
  obtain ⟨T12, X12, e12, st12⟩ := getS2 X2 hx hZ hown (host := "") (Or.inl (w_81 hw)) Via.refl e2 (S_HI_BYTE_SHIFT.ext Od0.2) (g := (mkF m 42 #[.val (.ref a1), .val (.int 5)] [(.int (p7 &&& (255 : Int32)))])) rfl (hb hby d19_42)
  have hin13 : ¬ ((5 : Int32) < 0 ∨ cl10.slots.size ≤ ((5 : Int32)).toNatClampNeg) := inb_of S10 ⟨(by decide : ¬ ((5 : Int32) < (0 : Int32))), (by decide : (5 : Int32) < (6 : Int32))⟩
  obtain ⟨T14, X14, e14, st14⟩ := getS2 X12 hx hZ hown (host := "") (Or.inl (w_82 hw)) Via.refl e12 (S_LO_BYTE_SHIFT.ext Od0.2) (g := (mkF m 53 #[.val (.ref a1), .val (.int 5)] [(.int (p8 &&& (255 : Int32))), (.int ((p7 &&& (255 : Int32)) <<< ((0 : Int32) &&& 31)))])) rfl (hb hby d19_53)
  refine ⟨T14, _, _, _, (some (.int (nar .char ((((p7 &&& (255 : Int32)) <<< ((0 : Int32) &&& 31)) ||| ((p8 &&& (255 : Int32)) <<< ((8 : Int32) &&& 31))).toUInt32.toUInt16.toUInt32.toInt32)))), X14, nofun, by decide, by decide, ?_, fun fs hr => ?_⟩
  · rw [e14]
    exact ⟨rfl, N0, rfl⟩
  · refine st2 _ ?_
    refine XS.ifYes X2.here hx rfl (pc0 := 3) (pc' := 28) rfl (hb hby d19_3) rfl ((if0 _ _).trans (feq ((by decide : ¬ ((1 : Int32) = (0 : Int32))) : ¬ ((1 : Int32) = (0 : Int32)))).2) (by decide) (by decide) ?_
    refine XS.iloadN X2.here hx rfl (hb hby d19_28) rfl ?_
    refine XS.iconst X2.here hx rfl (hb hby d19_29) ?_
    refine XS.ishl X2.here hx rfl (hb hby d19_30) rfl ?_
    refine XS.istoreN X2.here hx rfl (hb hby d19_31) rfl (l' := #[.val (.ref a1), .val (.int 4)]) rfl ?_
    refine XS.aloadN X2.here hx rfl (hb hby d19_32) rfl rfl ?_
    refine XS.iloadN X2.here hx rfl (hb hby d19_33) rfl ?_
    refine XS.iinc X2.here hx rfl (hb hby d19_34) rfl (l' := #[.val (.ref a1), .val (.int 5)]) rfl ?_
    refine X2.baloadBytes hx (j := (4 : Int32)) (v := (.int p7)) (by rw [e2]; exact Ar10.1) (State.isArrayOf_alike hZ.alike Ar10.2.1) Ar10.2.2 hin11 (Has.at Hs10 hin11 rfl) (g := (mkF m 37 #[.val (.ref a1), .val (.int 5)] [(.int 4), (.ref a1)])) rfl rfl (hb hby d19_37) _ ?_
    refine XS.sipush X2.here hx rfl (hb hby d19_38) ?_
    show Steps p.tables e below (T2.setTop (mkF m 41 #[.val (.ref a1), .val (.int 5)] [(.int 255), (.int p7)])) _
    refine XS.iand X2.here hx rfl (hb hby d19_41) rfl ?_
    refine st12 _ ?_
    refine XS.ishl X12.here hx rfl (hb hby d19_45) rfl ?_
    refine XS.aloadN X12.here hx rfl (hb hby d19_46) rfl rfl ?_
    refine XS.iloadN X12.here hx rfl (hb hby d19_47) rfl ?_
    refine X12.baloadBytes hx (j := (5 : Int32)) (v := (.int p8)) (by rw [e12]; exact Ar10.1) (State.isArrayOf_alike hZ.alike Ar10.2.1) Ar10.2.2 hin13 (Has.at Hs10 hin13 rfl) (g := (mkF m 48 #[.val (.ref a1), .val (.int 5)] [(.int 5), (.ref a1), (.int ((p7 &&& (255 : Int32)) <<< ((0 : Int32) &&& 31)))])) rfl rfl (hb hby d19_48) _ ?_
    refine XS.sipush X12.here hx rfl (hb hby d19_49) ?_
    refine XS.iand X12.here hx rfl (hb hby d19_52) rfl ?_
    refine st14 _ ?_
    refine XS.ishl X14.here hx rfl (hb hby d19_56) rfl ?_
    refine XS.ior X14.here hx rfl (hb hby d19_57) rfl ?_
    refine XS.i2c X14.here hx rfl (hb hby d19_58) rfl ?_
    show Steps p.tables e below (T14.setTop (mkF m 59 #[.val (.ref a1), .val (.int 5)] [(.int ((((p7 &&& (255 : Int32)) <<< ((0 : Int32) &&& 31)) ||| ((p8 &&& (255 : Int32)) <<< ((8 : Int32) &&& 31))).toUInt32.toUInt16.toUInt32.toInt32))])) _
    exact retN X14 hx (t := .char) hret (by simp) (hb hby d19_59) hr
-- java/lang/StringUTF16.compress([CI[BII)I
abbrev Rm49 : Room := { frames := 0, cells := 0, slots := 0, locals := 0 }
def Q49 (Z : State) (a1 : Addr) (a2 : Addr) (p3 : Int32) (p4 : Int32) (p5 : Int32) (k6 : ClassId) (k10 : ClassId) (h0 : Heap) (n0 : Nat) (v : Option Value) (h : Heap) (L : List Loc) : Prop := v = some (.int 3) ∧ Fr n0 L ∧ Keep h0 h [a2] ∧ Exa Z h a2 "[B" ∧ Arv Z h a2 k10 .byte (3 : Int32) [(.int (nar .byte (p3.toInt8.toInt32))), (.int (nar .byte (p4.toInt8.toInt32))), (.int (nar .byte (p5.toInt8.toInt32)))] (.int 0)
-- ef_ff2d24
theorem rm49 (l : Launch) (Z : State) (a0 : Array Value) (hw : ∀ d ∈ tables_1, d.before a0 Z = true) (ws : List Jvm.Cond) (a1 : Addr) (a2 : Addr) (p3 : Int32) (p4 : Int32) (p5 : Int32) (k6 : ClassId) (k10 : ClassId) (h0 : Heap) (n0 : Nat) (Z0 : n0 ≤ h0.size) (V_a1 : Arv Z h0 a1 k6 .char (3 : Int32) [(.int p3), (.int p4), (.int p5)] (.int 0)) (c9 : ¬ ((255 : Int32) < p3)) (V_a2 : Arv Z h0 a2 k10 .byte (3 : Int32) [(.int 0), (.int 0), (.int 0)] (.int 0)) (g_a2 : n0 ≤ a2) (ne_a1_a2 : a1 ≠ a2) (c17 : ¬ ((255 : Int32) < p4)) (c24 : ¬ ((255 : Int32) < p5)) (E_a2 : Exa Z h0 a2 "[B") :
    OwnMet l Z y_0 jdk_52_method_21_code 7 (some .int) ws Rm49 #[(.ref a1), (.int 0), (.ref a2), (.int 0), (.int 3)] h0 (Q49 Z a1 a2 p3 p4 p5 k6 k10 h0 n0) := by
  refine own_body (plainFor_of_name pn_0) (ef_ff2d24 a1 a2) ?_
  intro p e s m below meth c s₁ hx hby hml hown hnm hret hZ X0 e0
  have N0 := Fr.nil n0
  obtain ⟨cl7, Ar7, q7, S7, M7, Hs7, G7⟩ := id V_a1
  have hin8 : ¬ ((0 : Int32) < 0 ∨ cl7.slots.size ≤ ((0 : Int32)).toNatClampNeg) := inb_of S7 ⟨(by decide : ¬ ((0 : Int32) < (0 : Int32))), (by decide : (0 : Int32) < (3 : Int32))⟩
  obtain ⟨cl11, Ar11, q11, S11, M11, Hs11, G11⟩ := id V_a2
  have hin12 : ¬ ((0 : Int32) < 0 ∨ cl11.slots.size ≤ ((0 : Int32)).toNatClampNeg) := inb_of S11 ⟨(by decide : ¬ ((0 : Int32) < (0 : Int32))), (by decide : (0 : Int32) < (3 : Int32))⟩
  obtain ⟨T13, h13, X13, e13, W13, st13⟩ := stB X0 hx hZ e0 Ar11 (j := (0 : Int32)) hin12 (g := (mkF m 31 #[.val (.ref a1), .val (.int 0), .val (.ref a2), .val (.int 0), .val (.int 3), .val (.int 0), .val (.int p3)] [(.int (p3.toInt8.toInt32)), (.int 0), (.ref a2)])) rfl rfl (hb hby d5_31)
  have s0 := (Keep.of_wr W13).1
  have N13 := Fr.snoc X13 N0 g_a2
  have Vs13 : Arv Z h13 a2 k10 .byte (3 : Int32) [(.int (nar .byte (p3.toInt8.toInt32))), (.int 0), (.int 0)] (.int 0) := Arv.set Ar11 q11 S11 M11 Hs11 G11 (fits_nar_byte _) W13 0 rfl (Nat.le_of_ble_eq_true rfl)
  have Va14 := (V_a1.other W13 ne_a1_a2)
  obtain ⟨cl15, Ar15, q15, S15, M15, Hs15, G15⟩ := id Va14
  have hin16 : ¬ ((1 : Int32) < 0 ∨ cl15.slots.size ≤ ((1 : Int32)).toNatClampNeg) := inb_of S15 ⟨(by decide : ¬ ((1 : Int32) < (0 : Int32))), (by decide : (1 : Int32) < (3 : Int32))⟩
  obtain ⟨cl18, Ar18, q18, S18, M18, Hs18, G18⟩ := id Vs13
  have hin19 : ¬ ((1 : Int32) < 0 ∨ cl18.slots.size ≤ ((1 : Int32)).toNatClampNeg) := inb_of S18 ⟨(by decide : ¬ ((1 : Int32) < (0 : Int32))), (by decide : (1 : Int32) < (3 : Int32))⟩
  obtain ⟨T20, h20, X20, e20, W20, st20⟩ := stB X13 hx hZ e13 Ar18 (j := (1 : Int32)) hin19 (g := (mkF m 31 #[.val (.ref a1), .val (.int 1), .val (.ref a2), .val (.int 1), .val (.int 3), .val (.int 1), .val (.int p4)] [(.int (p4.toInt8.toInt32)), (.int 1), (.ref a2)])) rfl rfl (hb hby d5_31)
  have s1 := (Keep.of_wr W20).1
  have N20 := Fr.snoc X20 N13 g_a2
  have Vs20 : Arv Z h20 a2 k10 .byte (3 : Int32) [(.int (nar .byte (p3.toInt8.toInt32))), (.int (nar .byte (p4.toInt8.toInt32))), (.int 0)] (.int 0) := Arv.set Ar18 q18 S18 M18 Hs18 G18 (fits_nar_byte _) W20 1 rfl (Nat.le_of_ble_eq_true rfl)
  have Va21 := (Va14.other W20 ne_a1_a2)
  obtain ⟨cl22, Ar22, q22, S22, M22, Hs22, G22⟩ := id Va21
  have hin23 : ¬ ((2 : Int32) < 0 ∨ cl22.slots.size ≤ ((2 : Int32)).toNatClampNeg) := inb_of S22 ⟨(by decide : ¬ ((2 : Int32) < (0 : Int32))), (by decide : (2 : Int32) < (3 : Int32))⟩
  obtain ⟨cl25, Ar25, q25, S25, M25, Hs25, G25⟩ := id Vs20
  have hin26 : ¬ ((2 : Int32) < 0 ∨ cl25.slots.size ≤ ((2 : Int32)).toNatClampNeg) := inb_of S25 ⟨(by decide : ¬ ((2 : Int32) < (0 : Int32))), (by decide : (2 : Int32) < (3 : Int32))⟩
  obtain ⟨T27, h27, X27, e27, W27, st27⟩ := stB X20 hx hZ e20 Ar25 (j := (2 : Int32)) hin26 (g := (mkF m 31 #[.val (.ref a1), .val (.int 2), .val (.ref a2), .val (.int 2), .val (.int 3), .val (.int 2), .val (.int p5)] [(.int (p5.toInt8.toInt32)), (.int 2), (.ref a2)])) rfl rfl (hb hby d5_31)
  have s2 := (Keep.of_wr W27).1
  have N27 := Fr.snoc X27 N20 g_a2
  have Vs27 : Arv Z h27 a2 k10 .byte (3 : Int32) [(.int (nar .byte (p3.toInt8.toInt32))), (.int (nar .byte (p4.toInt8.toInt32))), (.int (nar .byte (p5.toInt8.toInt32)))] (.int 0) := Arv.set Ar25 q25 S25 M25 Hs25 G25 (fits_nar_byte _) W27 2 rfl (Nat.le_of_ble_eq_true rfl)
  have Ex28 := (((E_a2.wr W13).wr W20).wr W27)
  have Kp0 : Keep h0 h13 [a2] := (Keep.refl h0 [a2]).wr W13 (Or.inl (List.mem_of_getElem? (i := 0) rfl))
  have Kp1 : Keep h0 h20 [a2] := Kp0.wr W20 (Or.inl (List.mem_of_getElem? (i := 0) rfl))
  have Kp2 : Keep h0 h27 [a2] := Kp1.wr W27 (Or.inl (List.mem_of_getElem? (i := 0) rfl))
  refine ⟨T27, _, _, _, (some (.int 3)), X27, nofun, by decide, by decide, ?_, fun fs hr => ?_⟩
  · rw [e27]
    exact ⟨rfl, N27, Kp2, Ex28, Vs27⟩
  · refine XS.iconst X0.here hx rfl (hb hby d5_0) ?_
    refine XS.istore X0.here hx rfl (hb hby d5_1) rfl (l' := #[.val (.ref a1), .val (.int 0), .val (.ref a2), .val (.int 0), .val (.int 3), .val (.int 0), .unset]) rfl ?_
    refine XS.iload X0.here hx rfl (hb hby d5_3) rfl ?_
    refine XS.iload X0.here hx rfl (hb hby d5_5) rfl ?_
    refine XS.icmpNo X0.here hx rfl (hb hby d5_7) rfl (tlt ((by decide : (0 : Int32) < (3 : Int32)) : (0 : Int32) < (3 : Int32))).2.1 ?_
    refine XS.aloadN X0.here hx rfl (hb hby d5_10) rfl rfl ?_
    refine XS.iloadN X0.here hx rfl (hb hby d5_11) rfl ?_
    refine X0.caload hx (j := (0 : Int32)) (v := (.int p3)) (by rw [e0]; exact Ar7.1) (State.isArrayOf_alike hZ.alike Ar7.2.1) Ar7.2.2 hin8 (Has.at Hs7 hin8 rfl) (g := (mkF m 12 #[.val (.ref a1), .val (.int 0), .val (.ref a2), .val (.int 0), .val (.int 3), .val (.int 0), .unset] [(.int 0), (.ref a1)])) rfl rfl (hb hby d5_12) _ ?_
    refine XS.istore X0.here hx rfl (hb hby d5_13) rfl (l' := #[.val (.ref a1), .val (.int 0), .val (.ref a2), .val (.int 0), .val (.int 3), .val (.int 0), .val (.int p3)]) rfl ?_
    refine XS.iload X0.here hx rfl (hb hby d5_15) rfl ?_
    refine XS.sipush X0.here hx rfl (hb hby d5_17) ?_
    show Steps p.tables e below (s₁.setTop (mkF m 20 #[.val (.ref a1), .val (.int 0), .val (.ref a2), .val (.int 0), .val (.int 3), .val (.int 0), .val (.int p3)] [(.int 255), (.int p3)])) _
    refine XS.icmpYes X0.here hx rfl (pc0 := 20) (pc' := 26) rfl (hb hby d5_20) rfl (flt (c9 : ¬ ((255 : Int32) < p3))).2.2.2 (by decide) (by decide) ?_
    refine XS.aloadN X0.here hx rfl (hb hby d5_26) rfl rfl ?_
    refine XS.iloadN X0.here hx rfl (hb hby d5_27) rfl ?_
    refine XS.iload X0.here hx rfl (hb hby d5_28) rfl ?_
    refine XS.i2b X0.here hx rfl (hb hby d5_30) rfl ?_
    refine st13 _ ?_
    refine XS.iinc X13.here hx rfl (hb hby d5_32) rfl (l' := #[.val (.ref a1), .val (.int 1), .val (.ref a2), .val (.int 0), .val (.int 3), .val (.int 0), .val (.int p3)]) rfl ?_
    refine XS.iinc X13.here hx rfl (hb hby d5_35) rfl (l' := #[.val (.ref a1), .val (.int 1), .val (.ref a2), .val (.int 1), .val (.int 3), .val (.int 0), .val (.int p3)]) rfl ?_
    refine XS.iinc X13.here hx rfl (hb hby d5_38) rfl (l' := #[.val (.ref a1), .val (.int 1), .val (.ref a2), .val (.int 1), .val (.int 3), .val (.int 1), .val (.int p3)]) rfl ?_
    refine XS.goto X13.here hx rfl (pc0 := 41) (pc' := 3) rfl (hb hby d5_41) (by decide) (by decide) ?_
    refine XS.iload X13.here hx rfl (hb hby d5_3) rfl ?_
    refine XS.iload X13.here hx rfl (hb hby d5_5) rfl ?_
    show Steps p.tables e below (T13.setTop (mkF m 7 #[.val (.ref a1), .val (.int 1), .val (.ref a2), .val (.int 1), .val (.int 3), .val (.int 1), .val (.int p3)] [(.int 3), (.int 1)])) _
    refine XS.icmpNo X13.here hx rfl (hb hby d5_7) rfl (tlt ((by decide : (1 : Int32) < (3 : Int32)) : (1 : Int32) < (3 : Int32))).2.1 ?_
    refine XS.aloadN X13.here hx rfl (hb hby d5_10) rfl rfl ?_
    refine XS.iloadN X13.here hx rfl (hb hby d5_11) rfl ?_
    refine X13.caload hx (j := (1 : Int32)) (v := (.int p4)) (by rw [e13]; exact Ar15.1) (State.isArrayOf_alike hZ.alike Ar15.2.1) Ar15.2.2 hin16 (Has.at Hs15 hin16 rfl) (g := (mkF m 12 #[.val (.ref a1), .val (.int 1), .val (.ref a2), .val (.int 1), .val (.int 3), .val (.int 1), .val (.int p3)] [(.int 1), (.ref a1)])) rfl rfl (hb hby d5_12) _ ?_
    refine XS.istore X13.here hx rfl (hb hby d5_13) rfl (l' := #[.val (.ref a1), .val (.int 1), .val (.ref a2), .val (.int 1), .val (.int 3), .val (.int 1), .val (.int p4)]) rfl ?_
    refine XS.iload X13.here hx rfl (hb hby d5_15) rfl ?_
    refine XS.sipush X13.here hx rfl (hb hby d5_17) ?_
    refine XS.icmpYes X13.here hx rfl (pc0 := 20) (pc' := 26) rfl (hb hby d5_20) rfl (flt (c17 : ¬ ((255 : Int32) < p4))).2.2.2 (by decide) (by decide) ?_
    refine XS.aloadN X13.here hx rfl (hb hby d5_26) rfl rfl ?_
    refine XS.iloadN X13.here hx rfl (hb hby d5_27) rfl ?_
    refine XS.iload X13.here hx rfl (hb hby d5_28) rfl ?_
    refine XS.i2b X13.here hx rfl (hb hby d5_30) rfl ?_
    show Steps p.tables e below (T13.setTop (mkF m 31 #[.val (.ref a1), .val (.int 1), .val (.ref a2), .val (.int 1), .val (.int 3), .val (.int 1), .val (.int p4)] [(.int (p4.toInt8.toInt32)), (.int 1), (.ref a2)])) _
    refine st20 _ ?_
    refine XS.iinc X20.here hx rfl (hb hby d5_32) rfl (l' := #[.val (.ref a1), .val (.int 2), .val (.ref a2), .val (.int 1), .val (.int 3), .val (.int 1), .val (.int p4)]) rfl ?_
    refine XS.iinc X20.here hx rfl (hb hby d5_35) rfl (l' := #[.val (.ref a1), .val (.int 2), .val (.ref a2), .val (.int 2), .val (.int 3), .val (.int 1), .val (.int p4)]) rfl ?_
    refine XS.iinc X20.here hx rfl (hb hby d5_38) rfl (l' := #[.val (.ref a1), .val (.int 2), .val (.ref a2), .val (.int 2), .val (.int 3), .val (.int 2), .val (.int p4)]) rfl ?_
    refine XS.goto X20.here hx rfl (pc0 := 41) (pc' := 3) rfl (hb hby d5_41) (by decide) (by decide) ?_
    refine XS.iload X20.here hx rfl (hb hby d5_3) rfl ?_
    refine XS.iload X20.here hx rfl (hb hby d5_5) rfl ?_
    refine XS.icmpNo X20.here hx rfl (hb hby d5_7) rfl (tlt ((by decide : (2 : Int32) < (3 : Int32)) : (2 : Int32) < (3 : Int32))).2.1 ?_
    refine XS.aloadN X20.here hx rfl (hb hby d5_10) rfl rfl ?_
    refine XS.iloadN X20.here hx rfl (hb hby d5_11) rfl ?_
    refine X20.caload hx (j := (2 : Int32)) (v := (.int p5)) (by rw [e20]; exact Ar22.1) (State.isArrayOf_alike hZ.alike Ar22.2.1) Ar22.2.2 hin23 (Has.at Hs22 hin23 rfl) (g := (mkF m 12 #[.val (.ref a1), .val (.int 2), .val (.ref a2), .val (.int 2), .val (.int 3), .val (.int 2), .val (.int p4)] [(.int 2), (.ref a1)])) rfl rfl (hb hby d5_12) _ ?_
    refine XS.istore X20.here hx rfl (hb hby d5_13) rfl (l' := #[.val (.ref a1), .val (.int 2), .val (.ref a2), .val (.int 2), .val (.int 3), .val (.int 2), .val (.int p5)]) rfl ?_
    show Steps p.tables e below (T20.setTop (mkF m 15 #[.val (.ref a1), .val (.int 2), .val (.ref a2), .val (.int 2), .val (.int 3), .val (.int 2), .val (.int p5)] [])) _
    refine XS.iload X20.here hx rfl (hb hby d5_15) rfl ?_
    refine XS.sipush X20.here hx rfl (hb hby d5_17) ?_
    refine XS.icmpYes X20.here hx rfl (pc0 := 20) (pc' := 26) rfl (hb hby d5_20) rfl (flt (c24 : ¬ ((255 : Int32) < p5))).2.2.2 (by decide) (by decide) ?_
    refine XS.aloadN X20.here hx rfl (hb hby d5_26) rfl rfl ?_
    refine XS.iloadN X20.here hx rfl (hb hby d5_27) rfl ?_
    refine XS.iload X20.here hx rfl (hb hby d5_28) rfl ?_
    refine XS.i2b X20.here hx rfl (hb hby d5_30) rfl ?_
    refine st27 _ ?_
    refine XS.iinc X27.here hx rfl (hb hby d5_32) rfl (l' := #[.val (.ref a1), .val (.int 3), .val (.ref a2), .val (.int 2), .val (.int 3), .val (.int 2), .val (.int p5)]) rfl ?_
    refine XS.iinc X27.here hx rfl (hb hby d5_35) rfl (l' := #[.val (.ref a1), .val (.int 3), .val (.ref a2), .val (.int 3), .val (.int 3), .val (.int 2), .val (.int p5)]) rfl ?_
    refine XS.iinc X27.here hx rfl (hb hby d5_38) rfl (l' := #[.val (.ref a1), .val (.int 3), .val (.ref a2), .val (.int 3), .val (.int 3), .val (.int 3), .val (.int p5)]) rfl ?_
    refine XS.goto X27.here hx rfl (pc0 := 41) (pc' := 3) rfl (hb hby d5_41) (by decide) (by decide) ?_
    show Steps p.tables e below (T27.setTop (mkF m 3 #[.val (.ref a1), .val (.int 3), .val (.ref a2), .val (.int 3), .val (.int 3), .val (.int 3), .val (.int p5)] [])) _
    refine XS.iload X27.here hx rfl (hb hby d5_3) rfl ?_
    refine XS.iload X27.here hx rfl (hb hby d5_5) rfl ?_
    refine XS.icmpYes X27.here hx rfl (pc0 := 7) (pc' := 44) rfl (hb hby d5_7) rfl (flt ((by decide : ¬ ((3 : Int32) < (3 : Int32))) : ¬ ((3 : Int32) < (3 : Int32)))).2.1 (by decide) (by decide) ?_
    refine XS.iload X27.here hx rfl (hb hby d5_44) rfl ?_
    exact retI X27 hx hret (hb hby d5_46) hr
theorem ef_7ff9cc (a1 : Addr) (m : MethodId) : entryFrame m #[(.ref a1), (.int 0), (.int 3)] 6 = mkF m 0 #[.val (.ref a1), .val (.int 0), .val (.int 3), .unset, .unset, .unset] [] := by first | (simp [entryFrame, mkF, argsToLocals, Value.category]; done) | rfl
-- java/lang/StringUTF16.compress([CII)[B
abbrev Rm50 : Room := { frames := 3, cells := 2, slots := 9, locals := 40 }
def Q50 (Z : State) (a1 : Addr) (p3 : Int32) (p4 : Int32) (p5 : Int32) (k6 : ClassId) (h0 : Heap) (n0 : Nat) (v : Option Value) (h : Heap) (L : List Loc) : Prop := ∃ m0 : Addr, ∃ kk1 : ClassId, ∃ uu2 : List Value, v = some (.ref m0) ∧ Fr n0 L ∧ Keep h0 h [] ∧ h0.size ≤ m0 ∧ Exa Z h m0 "[B" ∧ Arv Z h m0 kk1 .byte (if (255 : Int32) < p3 then (6 : Int32) else (if (255 : Int32) < p4 then (6 : Int32) else (if (255 : Int32) < p5 then (6 : Int32) else (3 : Int32)))) uu2 (.int 0)
-- ef_7ff9cc
theorem rm50_0 (l : Launch) (Z : State) (a0 : Array Value) (hw : ∀ d ∈ tables_1, d.before a0 Z = true) (ws : List Jvm.Cond) (a1 : Addr) (p3 : Int32) (p4 : Int32) (p5 : Int32) (k6 : ClassId) (h0 : Heap) (n0 : Nat) (Z0 : n0 ≤ h0.size) (V_a1 : Arv Z h0 a1 k6 .char (3 : Int32) [(.int p3), (.int p4), (.int p5)] (.int 0)) (S__assertionsDisabled : Sta Z Z.heap "java/lang/StringUTF16" "$assertionsDisabled" "Z" (.int 1)) (Od0 : Old Z n0 h0) (S_HI_BYTE_SHIFT : Sta Z Z.heap "java/lang/StringUTF16" "HI_BYTE_SHIFT" "I" (.int 0)) (S_LO_BYTE_SHIFT : Sta Z Z.heap "java/lang/StringUTF16" "LO_BYTE_SHIFT" "I" (.int 8)) (c13 : ¬ (p3 < (0 : Int32))) (c14 : ¬ ((65535 : Int32) < p3)) (c24 : ¬ (p4 < (0 : Int32))) (c25 : ¬ ((65535 : Int32) < p4)) (c35 : ¬ (p5 < (0 : Int32))) (c36 : ¬ ((65535 : Int32) < p5)) (cc1 : (255 : Int32) < p3) :
    OwnMet l Z y_6 jdk_52_method_16_code 6 (some (.array .byte)) ws Rm50 #[(.ref a1), (.int 0), (.int 3)] h0 (Q50 Z a1 p3 p4 p5 k6 h0 n0) := by
  refine own_body (plainFor_of_name pn_0) (ef_7ff9cc a1) ?_
  intro p e s m below meth c s₁ hx hby hml hown hnm hret hZ X0 e0
  have N0 := Fr.nil n0
  obtain ⟨T8, h8, k8, X8, e8, E8, A8, B8, st8⟩ := newPE (aty := .byte) X0 hx hZ (w_20 hw) e0 (g := (mkF m 1 #[.val (.ref a1), .val (.int 0), .val (.int 3), .unset, .unset, .unset] [(.int 3)])) rfl (hb hby d4_1) rfl (by decide) (cap := 3) (by decide) (by decide) (by decide) (by decide) (ad := "[B") (by decide)
  obtain ⟨b8, g8⟩ : ∃ z, z = h0.size := ⟨_, rfl⟩
  rw [← g8] at A8 B8 st8
  have s0 := E8.1
  have Vn8 : Arv Z h8 b8 k8 .byte (3 : Int32) [(.int 0), (.int 0), (.int 0)] (.int 0) := (Arv.new A8 (by decide)).pad (pad_rep [] (.int 0) 3)
  have Va9 := (V_a1.ext E8)
  have z1 := Nat.le_trans Z0 s0
  obtain ⟨_, T10, L10, X10, hQ10, st10⟩ := own_callS X8 hx hZ hown (y := y_0) (w_21 hw) (w_22 hw) (w_18 hw) (w_23 hw) (rm37 l Z a0 hw [] a1 b8 p3 p4 p5 k6 h8 n0 z1 Va9 cc1) e8 (Ls := #[.val (.ref a1), .val (.int 0), .val (.int 3), .val (.ref b8), .unset, .unset]) (by rw [hml]; rfl) (argsL := [(.ref a1), (.int 0), (.ref b8), (.int 0), (.int 3)]) (rest := []) (lenOf pd_0 rfl) (hb hby d4_9) (W := 0)
  obtain ⟨rfl, Nq10, e10⟩ := hQ10
  have N10 := Fr.app N0 Nq10
  have Od1 : Old Z n0 h8 := Od0.ext E8
  obtain ⟨_, T11, L11, X11, hQ11, st11⟩ := own_callS X10 hx hZ hown (y := y_4) (w_67 hw) (w_68 hw) (w_18 hw) (w_69 hw) (rm43 l Z a0 hw [] a1 p3 p4 p5 k6 h8 n0 z1 Va9 S__assertionsDisabled Od1 S_HI_BYTE_SHIFT S_LO_BYTE_SHIFT) e10 (Ls := #[.val (.ref a1), .val (.int 0), .val (.int 3), .val (.ref b8), .val (.int 0), .unset]) (by rw [hml]; rfl) (argsL := [(.ref a1), (.int 0), (.int 3)]) (rest := []) (lenOf pd_4 rfl) (hb hby d4_23) (W := 0)
  obtain ⟨b11_b2_b2, k11_k2_k2, rfl, Nq11, K11, o11_0, o11_1, o11_2⟩ := hQ11
  have N11 := Fr.app N10 Nq11
  have s1 := K11.1
  have Od2 : Old Z n0 T11.heap := Od1.keep K11 all0
  have z2 := Nat.le_trans Z0 (Nat.le_trans s0 s1)
  obtain ⟨_, T12, L12, X12, hQ12, st12⟩ := own_callS X11 hx hZ hown (y := y_5) (w_83 hw) (w_84 hw) (w_18 hw) (w_85 hw) (rm44 l Z a0 hw [] b11_b2_b2 (nar .byte ((p3 >>> ((0 : Int32) &&& 31)).toInt8.toInt32)) (nar .byte ((p3 >>> ((8 : Int32) &&& 31)).toInt8.toInt32)) (nar .byte ((p4 >>> ((0 : Int32) &&& 31)).toInt8.toInt32)) (nar .byte ((p4 >>> ((8 : Int32) &&& 31)).toInt8.toInt32)) (nar .byte ((p5 >>> ((0 : Int32) &&& 31)).toInt8.toInt32)) (nar .byte ((p5 >>> ((8 : Int32) &&& 31)).toInt8.toInt32)) k11_k2_k2 T11.heap n0 z2 S__assertionsDisabled Od2 o11_2 S_HI_BYTE_SHIFT S_LO_BYTE_SHIFT) rfl (Ls := #[.val (.ref a1), .val (.int 0), .val (.int 3), .val (.ref b8), .val (.int 0), .val (.ref b11_b2_b2)]) (by rw [hml]; rfl) (argsL := [(.ref b11_b2_b2), (.int 0)]) (rest := []) (lenOf pd_5 rfl) (hb hby d4_32) (W := 0)
  obtain ⟨rfl, Nq12, e12⟩ := hQ12
  have N12 := Fr.app N11 Nq12
  have cd15 : (255 : Int32) < (nar .char (((((nar .byte ((p3 >>> ((0 : Int32) &&& 31)).toInt8.toInt32)) &&& (255 : Int32)) <<< ((0 : Int32) &&& 31)) ||| (((nar .byte ((p3 >>> ((8 : Int32) &&& 31)).toInt8.toInt32)) &&& (255 : Int32)) <<< ((8 : Int32) &&& 31))).toUInt32.toUInt16.toUInt32.toInt32)) := (by rw [own_rcN p3 c13 c14]; exact cc1)
  have sz_b11_b2_b2 : h0.size ≤ b11_b2_b2 := Nat.le_trans s0 o11_0
  have Kp0 : Keep h0 h8 [] := (Keep.refl h0 []).ext E8
  have Kp1 : Keep h0 T11.heap [] := Kp0.trans K11 all0
  refine ⟨T12, _, _, _, (some (.ref b11_b2_b2)), X12, nofun, by decide, by decide, ?_, fun fs hr => ?_⟩
  · rw [e12]
    unfold Q50
    rw [show (if (255 : Int32) < p3 then (6 : Int32) else (if (255 : Int32) < p4 then (6 : Int32) else (if (255 : Int32) < p5 then (6 : Int32) else (3 : Int32)))) = (6 : Int32) from by rw [if_pos cc1]]
    exact ⟨b11_b2_b2, k11_k2_k2, [(.int (nar .byte ((p3 >>> ((0 : Int32) &&& 31)).toInt8.toInt32))), (.int (nar .byte ((p3 >>> ((8 : Int32) &&& 31)).toInt8.toInt32))), (.int (nar .byte ((p4 >>> ((0 : Int32) &&& 31)).toInt8.toInt32))), (.int (nar .byte ((p4 >>> ((8 : Int32) &&& 31)).toInt8.toInt32))), (.int (nar .byte ((p5 >>> ((0 : Int32) &&& 31)).toInt8.toInt32))), (.int (nar .byte ((p5 >>> ((8 : Int32) &&& 31)).toInt8.toInt32)))], rfl, N12, Kp1, sz_b11_b2_b2, o11_1, o11_2⟩
  · refine XS.iloadN X0.here hx rfl (hb hby d4_0) rfl ?_
    refine st8 _ ?_
    refine XS.astoreN X8.here hx rfl (hb hby d4_3) rfl rfl (l' := #[.val (.ref a1), .val (.int 0), .val (.int 3), .val (.ref b8), .unset, .unset]) rfl ?_
    refine XS.aloadN X8.here hx rfl (hb hby d4_4) rfl rfl ?_
    refine XS.iloadN X8.here hx rfl (hb hby d4_5) rfl ?_
    refine XS.aloadN X8.here hx rfl (hb hby d4_6) rfl rfl ?_
    refine XS.iconst X8.here hx rfl (hb hby d4_7) ?_
    refine XS.iloadN X8.here hx rfl (hb hby d4_8) rfl ?_
    refine st10 _ ?_
    refine XS.istore X10.here hx rfl (hb hby d4_12) rfl (l' := #[.val (.ref a1), .val (.int 0), .val (.int 3), .val (.ref b8), .val (.int 0), .unset]) rfl ?_
    refine XS.iload X10.here hx rfl (hb hby d4_14) rfl ?_
    show Steps p.tables e below (T10.setTop (mkF m 16 #[.val (.ref a1), .val (.int 0), .val (.int 3), .val (.ref b8), .val (.int 0), .unset] [(.int 0)])) _
    refine XS.iloadN X10.here hx rfl (hb hby d4_16) rfl ?_
    refine XS.icmpNo X10.here hx rfl (hb hby d4_17) rfl (feq ((by decide : ¬ ((0 : Int32) = (3 : Int32))) : ¬ ((0 : Int32) = (3 : Int32)))).1 ?_
    refine XS.aloadN X10.here hx rfl (hb hby d4_20) rfl rfl ?_
    refine XS.iloadN X10.here hx rfl (hb hby d4_21) rfl ?_
    refine XS.iloadN X10.here hx rfl (hb hby d4_22) rfl ?_
    refine st11 _ ?_
    refine XS.astore X11.here hx rfl (hb hby d4_26) rfl rfl (l' := #[.val (.ref a1), .val (.int 0), .val (.int 3), .val (.ref b8), .val (.int 0), .val (.ref b11_b2_b2)]) rfl ?_
    refine XS.aload X11.here hx rfl (hb hby d4_28) rfl rfl ?_
    refine XS.iload X11.here hx rfl (hb hby d4_30) rfl ?_
    refine st12 _ ?_
    refine XS.sipush X12.here hx rfl (hb hby d4_35) ?_
    refine XS.icmpYes X12.here hx rfl (pc0 := 38) (pc' := 54) rfl (hb hby d4_38) rfl (tlt (cd15 : (255 : Int32) < (nar .char (((((nar .byte ((p3 >>> ((0 : Int32) &&& 31)).toInt8.toInt32)) &&& (255 : Int32)) <<< ((0 : Int32) &&& 31)) ||| (((nar .byte ((p3 >>> ((8 : Int32) &&& 31)).toInt8.toInt32)) &&& (255 : Int32)) <<< ((8 : Int32) &&& 31))).toUInt32.toUInt16.toUInt32.toInt32)))).2.2.1 (by decide) (by decide) ?_
    show Steps p.tables e below (T12.setTop (mkF m 54 #[.val (.ref a1), .val (.int 0), .val (.int 3), .val (.ref b8), .val (.int 0), .val (.ref b11_b2_b2)] [])) _
    refine XS.aload X12.here hx rfl (hb hby d4_54) rfl rfl ?_
    exact retOut X12 hx hret rfl (Or.inr (Or.inr (Or.inr (Or.inr ⟨rfl, rfl, rfl⟩)))) (hb hby d4_56) hr
theorem rm50_1 (l : Launch) (Z : State) (a0 : Array Value) (hw : ∀ d ∈ tables_1, d.before a0 Z = true) (ws : List Jvm.Cond) (a1 : Addr) (p3 : Int32) (p4 : Int32) (p5 : Int32) (k6 : ClassId) (h0 : Heap) (n0 : Nat) (Z0 : n0 ≤ h0.size) (V_a1 : Arv Z h0 a1 k6 .char (3 : Int32) [(.int p3), (.int p4), (.int p5)] (.int 0)) (S__assertionsDisabled : Sta Z Z.heap "java/lang/StringUTF16" "$assertionsDisabled" "Z" (.int 1)) (Od0 : Old Z n0 h0) (S_HI_BYTE_SHIFT : Sta Z Z.heap "java/lang/StringUTF16" "HI_BYTE_SHIFT" "I" (.int 0)) (S_LO_BYTE_SHIFT : Sta Z Z.heap "java/lang/StringUTF16" "LO_BYTE_SHIFT" "I" (.int 8)) (c13 : ¬ (p3 < (0 : Int32))) (c14 : ¬ ((65535 : Int32) < p3)) (c24 : ¬ (p4 < (0 : Int32))) (c25 : ¬ ((65535 : Int32) < p4)) (c35 : ¬ (p5 < (0 : Int32))) (c36 : ¬ ((65535 : Int32) < p5)) (cc1 : ¬ ((255 : Int32) < p3)) (cc2 : (255 : Int32) < p4) :
    OwnMet l Z y_6 jdk_52_method_16_code 6 (some (.array .byte)) ws Rm50 #[(.ref a1), (.int 0), (.int 3)] h0 (Q50 Z a1 p3 p4 p5 k6 h0 n0) := by
  refine own_body (plainFor_of_name pn_0) (ef_7ff9cc a1) ?_
  intro p e s m below meth c s₁ hx hby hml hown hnm hret hZ X0 e0
  have N0 := Fr.nil n0
  obtain ⟨T18, h18, k18, X18, e18, E18, A18, B18, st18⟩ := newPE (aty := .byte) X0 hx hZ (w_20 hw) e0 (g := (mkF m 1 #[.val (.ref a1), .val (.int 0), .val (.int 3), .unset, .unset, .unset] [(.int 3)])) rfl (hb hby d4_1) rfl (by decide) (cap := 3) (by decide) (by decide) (by decide) (by decide) (ad := "[B") (by decide)
  obtain ⟨b18, g18⟩ : ∃ z, z = h0.size := ⟨_, rfl⟩
  rw [← g18] at A18 B18 st18
  have s0 := E18.1
  have Vn18 : Arv Z h18 b18 k18 .byte (3 : Int32) [(.int 0), (.int 0), (.int 0)] (.int 0) := (Arv.new A18 (by decide)).pad (pad_rep [] (.int 0) 3)
  have Va19 := (V_a1.ext E18)
  have g_b18 : n0 ≤ b18 := Nat.le_trans Z0 (Nat.le_of_eq g18.symm)
  have ne_a1_b18 := Nat.ne_of_lt (Nat.lt_of_lt_of_le V_a1.lt (Nat.le_of_eq g18.symm))
  have z1 := Nat.le_trans Z0 s0
  obtain ⟨_, T20, L20, X20, hQ20, st20⟩ := own_callS X18 hx hZ hown (y := y_0) (w_21 hw) (w_22 hw) (w_18 hw) (w_23 hw) (rm45 l Z a0 hw [] a1 b18 p3 p4 p5 k6 k18 h18 n0 z1 Va19 cc1 Vn18 g_b18 ne_a1_b18 cc2 B18) e18 (Ls := #[.val (.ref a1), .val (.int 0), .val (.int 3), .val (.ref b18), .unset, .unset]) (by rw [hml]; rfl) (argsL := [(.ref a1), (.int 0), (.ref b18), (.int 0), (.int 3)]) (rest := []) (lenOf pd_0 rfl) (hb hby d4_9) (W := 0)
  obtain ⟨rfl, Nq20, K20, o20_0, o20_1⟩ := hQ20
  have N20 := Fr.app N0 Nq20
  have s1 := K20.1
  have Va21 := (Va19.keep K20 (ninS ne_a1_b18 nin0))
  have Od1 : Old Z n0 h18 := Od0.ext E18
  have Od2 : Old Z n0 T20.heap := Od1.keep K20 (allS g_b18 all0)
  have z2 := Nat.le_trans Z0 (Nat.le_trans s0 s1)
  obtain ⟨_, T22, L22, X22, hQ22, st22⟩ := own_callS X20 hx hZ hown (y := y_4) (w_67 hw) (w_68 hw) (w_18 hw) (w_69 hw) (rm43 l Z a0 hw [] a1 p3 p4 p5 k6 T20.heap n0 z2 Va21 S__assertionsDisabled Od2 S_HI_BYTE_SHIFT S_LO_BYTE_SHIFT) rfl (Ls := #[.val (.ref a1), .val (.int 0), .val (.int 3), .val (.ref b18), .val (.int 1), .unset]) (by rw [hml]; rfl) (argsL := [(.ref a1), (.int 0), (.int 3)]) (rest := []) (lenOf pd_4 rfl) (hb hby d4_23) (W := 0)
  obtain ⟨b22_b2_b2, k22_k2_k2, rfl, Nq22, K22, o22_0, o22_1, o22_2⟩ := hQ22
  have N22 := Fr.app N20 Nq22
  have s2 := K22.1
  have Od3 : Old Z n0 T22.heap := Od2.keep K22 all0
  have z3 := Nat.le_trans Z0 (Nat.le_trans (Nat.le_trans s0 s1) s2)
  obtain ⟨_, T23, L23, X23, hQ23, st23⟩ := own_callS X22 hx hZ hown (y := y_5) (w_83 hw) (w_84 hw) (w_18 hw) (w_85 hw) (rm46 l Z a0 hw [] b22_b2_b2 (nar .byte ((p3 >>> ((0 : Int32) &&& 31)).toInt8.toInt32)) (nar .byte ((p3 >>> ((8 : Int32) &&& 31)).toInt8.toInt32)) (nar .byte ((p4 >>> ((0 : Int32) &&& 31)).toInt8.toInt32)) (nar .byte ((p4 >>> ((8 : Int32) &&& 31)).toInt8.toInt32)) (nar .byte ((p5 >>> ((0 : Int32) &&& 31)).toInt8.toInt32)) (nar .byte ((p5 >>> ((8 : Int32) &&& 31)).toInt8.toInt32)) k22_k2_k2 T22.heap n0 z3 S__assertionsDisabled Od3 o22_2 S_HI_BYTE_SHIFT S_LO_BYTE_SHIFT) rfl (Ls := #[.val (.ref a1), .val (.int 0), .val (.int 3), .val (.ref b18), .val (.int 1), .val (.ref b22_b2_b2)]) (by rw [hml]; rfl) (argsL := [(.ref b22_b2_b2), (.int 1)]) (rest := []) (lenOf pd_5 rfl) (hb hby d4_32) (W := 0)
  obtain ⟨rfl, Nq23, e23⟩ := hQ23
  have N23 := Fr.app N22 Nq23
  have cd26 : (255 : Int32) < (nar .char (((((nar .byte ((p4 >>> ((0 : Int32) &&& 31)).toInt8.toInt32)) &&& (255 : Int32)) <<< ((0 : Int32) &&& 31)) ||| (((nar .byte ((p4 >>> ((8 : Int32) &&& 31)).toInt8.toInt32)) &&& (255 : Int32)) <<< ((8 : Int32) &&& 31))).toUInt32.toUInt16.toUInt32.toInt32)) := (by rw [own_rcN p4 c24 c25]; exact cc2)
  have sz_b22_b2_b2 : h0.size ≤ b22_b2_b2 := Nat.le_trans (Nat.le_trans s0 s1) o22_0
  have Kp0 : Keep h0 h18 [] := (Keep.refl h0 []).ext E18
  have sz_b18 : h0.size ≤ b18 := (Nat.le_of_eq g18.symm)
  have Kp1 : Keep h0 T20.heap [] := Kp0.trans K20 (allS (Or.inr sz_b18) all0)
  have Kp2 : Keep h0 T22.heap [] := Kp1.trans K22 all0
  refine ⟨T23, _, _, _, (some (.ref b22_b2_b2)), X23, nofun, by decide, by decide, ?_, fun fs hr => ?_⟩
  · rw [e23]
    unfold Q50
    rw [show (if (255 : Int32) < p3 then (6 : Int32) else (if (255 : Int32) < p4 then (6 : Int32) else (if (255 : Int32) < p5 then (6 : Int32) else (3 : Int32)))) = (6 : Int32) from by rw [if_neg cc1, if_pos cc2]]
    exact ⟨b22_b2_b2, k22_k2_k2, [(.int (nar .byte ((p3 >>> ((0 : Int32) &&& 31)).toInt8.toInt32))), (.int (nar .byte ((p3 >>> ((8 : Int32) &&& 31)).toInt8.toInt32))), (.int (nar .byte ((p4 >>> ((0 : Int32) &&& 31)).toInt8.toInt32))), (.int (nar .byte ((p4 >>> ((8 : Int32) &&& 31)).toInt8.toInt32))), (.int (nar .byte ((p5 >>> ((0 : Int32) &&& 31)).toInt8.toInt32))), (.int (nar .byte ((p5 >>> ((8 : Int32) &&& 31)).toInt8.toInt32)))], rfl, N23, Kp2, sz_b22_b2_b2, o22_1, o22_2⟩
  · refine XS.iloadN X0.here hx rfl (hb hby d4_0) rfl ?_
    refine st18 _ ?_
    refine XS.astoreN X18.here hx rfl (hb hby d4_3) rfl rfl (l' := #[.val (.ref a1), .val (.int 0), .val (.int 3), .val (.ref b18), .unset, .unset]) rfl ?_
    refine XS.aloadN X18.here hx rfl (hb hby d4_4) rfl rfl ?_
    refine XS.iloadN X18.here hx rfl (hb hby d4_5) rfl ?_
    refine XS.aloadN X18.here hx rfl (hb hby d4_6) rfl rfl ?_
    refine XS.iconst X18.here hx rfl (hb hby d4_7) ?_
    refine XS.iloadN X18.here hx rfl (hb hby d4_8) rfl ?_
    refine st20 _ ?_
    refine XS.istore X20.here hx rfl (hb hby d4_12) rfl (l' := #[.val (.ref a1), .val (.int 0), .val (.int 3), .val (.ref b18), .val (.int 1), .unset]) rfl ?_
    refine XS.iload X20.here hx rfl (hb hby d4_14) rfl ?_
    show Steps p.tables e below (T20.setTop (mkF m 16 #[.val (.ref a1), .val (.int 0), .val (.int 3), .val (.ref b18), .val (.int 1), .unset] [(.int 1)])) _
    refine XS.iloadN X20.here hx rfl (hb hby d4_16) rfl ?_
    refine XS.icmpNo X20.here hx rfl (hb hby d4_17) rfl (feq ((by decide : ¬ ((1 : Int32) = (3 : Int32))) : ¬ ((1 : Int32) = (3 : Int32)))).1 ?_
    refine XS.aloadN X20.here hx rfl (hb hby d4_20) rfl rfl ?_
    refine XS.iloadN X20.here hx rfl (hb hby d4_21) rfl ?_
    refine XS.iloadN X20.here hx rfl (hb hby d4_22) rfl ?_
    refine st22 _ ?_
    refine XS.astore X22.here hx rfl (hb hby d4_26) rfl rfl (l' := #[.val (.ref a1), .val (.int 0), .val (.int 3), .val (.ref b18), .val (.int 1), .val (.ref b22_b2_b2)]) rfl ?_
    refine XS.aload X22.here hx rfl (hb hby d4_28) rfl rfl ?_
    refine XS.iload X22.here hx rfl (hb hby d4_30) rfl ?_
    refine st23 _ ?_
    refine XS.sipush X23.here hx rfl (hb hby d4_35) ?_
    refine XS.icmpYes X23.here hx rfl (pc0 := 38) (pc' := 54) rfl (hb hby d4_38) rfl (tlt (cd26 : (255 : Int32) < (nar .char (((((nar .byte ((p4 >>> ((0 : Int32) &&& 31)).toInt8.toInt32)) &&& (255 : Int32)) <<< ((0 : Int32) &&& 31)) ||| (((nar .byte ((p4 >>> ((8 : Int32) &&& 31)).toInt8.toInt32)) &&& (255 : Int32)) <<< ((8 : Int32) &&& 31))).toUInt32.toUInt16.toUInt32.toInt32)))).2.2.1 (by decide) (by decide) ?_
    show Steps p.tables e below (T23.setTop (mkF m 54 #[.val (.ref a1), .val (.int 0), .val (.int 3), .val (.ref b18), .val (.int 1), .val (.ref b22_b2_b2)] [])) _
    refine XS.aload X23.here hx rfl (hb hby d4_54) rfl rfl ?_
    exact retOut X23 hx hret rfl (Or.inr (Or.inr (Or.inr (Or.inr ⟨rfl, rfl, rfl⟩)))) (hb hby d4_56) hr
theorem rm50_2 (l : Launch) (Z : State) (a0 : Array Value) (hw : ∀ d ∈ tables_1, d.before a0 Z = true) (ws : List Jvm.Cond) (a1 : Addr) (p3 : Int32) (p4 : Int32) (p5 : Int32) (k6 : ClassId) (h0 : Heap) (n0 : Nat) (Z0 : n0 ≤ h0.size) (V_a1 : Arv Z h0 a1 k6 .char (3 : Int32) [(.int p3), (.int p4), (.int p5)] (.int 0)) (S__assertionsDisabled : Sta Z Z.heap "java/lang/StringUTF16" "$assertionsDisabled" "Z" (.int 1)) (Od0 : Old Z n0 h0) (S_HI_BYTE_SHIFT : Sta Z Z.heap "java/lang/StringUTF16" "HI_BYTE_SHIFT" "I" (.int 0)) (S_LO_BYTE_SHIFT : Sta Z Z.heap "java/lang/StringUTF16" "LO_BYTE_SHIFT" "I" (.int 8)) (c13 : ¬ (p3 < (0 : Int32))) (c14 : ¬ ((65535 : Int32) < p3)) (c24 : ¬ (p4 < (0 : Int32))) (c25 : ¬ ((65535 : Int32) < p4)) (c35 : ¬ (p5 < (0 : Int32))) (c36 : ¬ ((65535 : Int32) < p5)) (cc1 : ¬ ((255 : Int32) < p3)) (cc2 : ¬ ((255 : Int32) < p4)) (cc3 : (255 : Int32) < p5) :
    OwnMet l Z y_6 jdk_52_method_16_code 6 (some (.array .byte)) ws Rm50 #[(.ref a1), (.int 0), (.int 3)] h0 (Q50 Z a1 p3 p4 p5 k6 h0 n0) := by
  refine own_body (plainFor_of_name pn_0) (ef_7ff9cc a1) ?_
  intro p e s m below meth c s₁ hx hby hml hown hnm hret hZ X0 e0
  have N0 := Fr.nil n0
  obtain ⟨T29, h29, k29, X29, e29, E29, A29, B29, st29⟩ := newPE (aty := .byte) X0 hx hZ (w_20 hw) e0 (g := (mkF m 1 #[.val (.ref a1), .val (.int 0), .val (.int 3), .unset, .unset, .unset] [(.int 3)])) rfl (hb hby d4_1) rfl (by decide) (cap := 3) (by decide) (by decide) (by decide) (by decide) (ad := "[B") (by decide)
  obtain ⟨b29, g29⟩ : ∃ z, z = h0.size := ⟨_, rfl⟩
  rw [← g29] at A29 B29 st29
  have s0 := E29.1
  have Vn29 : Arv Z h29 b29 k29 .byte (3 : Int32) [(.int 0), (.int 0), (.int 0)] (.int 0) := (Arv.new A29 (by decide)).pad (pad_rep [] (.int 0) 3)
  have Va30 := (V_a1.ext E29)
  have g_b29 : n0 ≤ b29 := Nat.le_trans Z0 (Nat.le_of_eq g29.symm)
  have ne_a1_b29 := Nat.ne_of_lt (Nat.lt_of_lt_of_le V_a1.lt (Nat.le_of_eq g29.symm))
  have z1 := Nat.le_trans Z0 s0
  obtain ⟨_, T31, L31, X31, hQ31, st31⟩ := own_callS X29 hx hZ hown (y := y_0) (w_21 hw) (w_22 hw) (w_18 hw) (w_23 hw) (rm47 l Z a0 hw [] a1 b29 p3 p4 p5 k6 k29 h29 n0 z1 Va30 cc1 Vn29 g_b29 ne_a1_b29 cc2 cc3 B29) e29 (Ls := #[.val (.ref a1), .val (.int 0), .val (.int 3), .val (.ref b29), .unset, .unset]) (by rw [hml]; rfl) (argsL := [(.ref a1), (.int 0), (.ref b29), (.int 0), (.int 3)]) (rest := []) (lenOf pd_0 rfl) (hb hby d4_9) (W := 0)
  obtain ⟨rfl, Nq31, K31, o31_0, o31_1⟩ := hQ31
  have N31 := Fr.app N0 Nq31
  have s1 := K31.1
  have Va32 := (Va30.keep K31 (ninS ne_a1_b29 nin0))
  have Od1 : Old Z n0 h29 := Od0.ext E29
  have Od2 : Old Z n0 T31.heap := Od1.keep K31 (allS g_b29 all0)
  have z2 := Nat.le_trans Z0 (Nat.le_trans s0 s1)
  obtain ⟨_, T33, L33, X33, hQ33, st33⟩ := own_callS X31 hx hZ hown (y := y_4) (w_67 hw) (w_68 hw) (w_18 hw) (w_69 hw) (rm43 l Z a0 hw [] a1 p3 p4 p5 k6 T31.heap n0 z2 Va32 S__assertionsDisabled Od2 S_HI_BYTE_SHIFT S_LO_BYTE_SHIFT) rfl (Ls := #[.val (.ref a1), .val (.int 0), .val (.int 3), .val (.ref b29), .val (.int 2), .unset]) (by rw [hml]; rfl) (argsL := [(.ref a1), (.int 0), (.int 3)]) (rest := []) (lenOf pd_4 rfl) (hb hby d4_23) (W := 0)
  obtain ⟨b33_b2_b2, k33_k2_k2, rfl, Nq33, K33, o33_0, o33_1, o33_2⟩ := hQ33
  have N33 := Fr.app N31 Nq33
  have s2 := K33.1
  have Od3 : Old Z n0 T33.heap := Od2.keep K33 all0
  have z3 := Nat.le_trans Z0 (Nat.le_trans (Nat.le_trans s0 s1) s2)
  obtain ⟨_, T34, L34, X34, hQ34, st34⟩ := own_callS X33 hx hZ hown (y := y_5) (w_83 hw) (w_84 hw) (w_18 hw) (w_85 hw) (rm48 l Z a0 hw [] b33_b2_b2 (nar .byte ((p3 >>> ((0 : Int32) &&& 31)).toInt8.toInt32)) (nar .byte ((p3 >>> ((8 : Int32) &&& 31)).toInt8.toInt32)) (nar .byte ((p4 >>> ((0 : Int32) &&& 31)).toInt8.toInt32)) (nar .byte ((p4 >>> ((8 : Int32) &&& 31)).toInt8.toInt32)) (nar .byte ((p5 >>> ((0 : Int32) &&& 31)).toInt8.toInt32)) (nar .byte ((p5 >>> ((8 : Int32) &&& 31)).toInt8.toInt32)) k33_k2_k2 T33.heap n0 z3 S__assertionsDisabled Od3 o33_2 S_HI_BYTE_SHIFT S_LO_BYTE_SHIFT) rfl (Ls := #[.val (.ref a1), .val (.int 0), .val (.int 3), .val (.ref b29), .val (.int 2), .val (.ref b33_b2_b2)]) (by rw [hml]; rfl) (argsL := [(.ref b33_b2_b2), (.int 2)]) (rest := []) (lenOf pd_5 rfl) (hb hby d4_32) (W := 0)
  obtain ⟨rfl, Nq34, e34⟩ := hQ34
  have N34 := Fr.app N33 Nq34
  have cd37 : (255 : Int32) < (nar .char (((((nar .byte ((p5 >>> ((0 : Int32) &&& 31)).toInt8.toInt32)) &&& (255 : Int32)) <<< ((0 : Int32) &&& 31)) ||| (((nar .byte ((p5 >>> ((8 : Int32) &&& 31)).toInt8.toInt32)) &&& (255 : Int32)) <<< ((8 : Int32) &&& 31))).toUInt32.toUInt16.toUInt32.toInt32)) := (by rw [own_rcN p5 c35 c36]; exact cc3)
  have sz_b33_b2_b2 : h0.size ≤ b33_b2_b2 := Nat.le_trans (Nat.le_trans s0 s1) o33_0
  have Kp0 : Keep h0 h29 [] := (Keep.refl h0 []).ext E29
  have sz_b29 : h0.size ≤ b29 := (Nat.le_of_eq g29.symm)
  have Kp1 : Keep h0 T31.heap [] := Kp0.trans K31 (allS (Or.inr sz_b29) all0)
  have Kp2 : Keep h0 T33.heap [] := Kp1.trans K33 all0
  refine ⟨T34, _, _, _, (some (.ref b33_b2_b2)), X34, nofun, by decide, by decide, ?_, fun fs hr => ?_⟩
  · rw [e34]
    unfold Q50
    rw [show (if (255 : Int32) < p3 then (6 : Int32) else (if (255 : Int32) < p4 then (6 : Int32) else (if (255 : Int32) < p5 then (6 : Int32) else (3 : Int32)))) = (6 : Int32) from by rw [if_neg cc1, if_neg cc2, if_pos cc3]]
    exact ⟨b33_b2_b2, k33_k2_k2, [(.int (nar .byte ((p3 >>> ((0 : Int32) &&& 31)).toInt8.toInt32))), (.int (nar .byte ((p3 >>> ((8 : Int32) &&& 31)).toInt8.toInt32))), (.int (nar .byte ((p4 >>> ((0 : Int32) &&& 31)).toInt8.toInt32))), (.int (nar .byte ((p4 >>> ((8 : Int32) &&& 31)).toInt8.toInt32))), (.int (nar .byte ((p5 >>> ((0 : Int32) &&& 31)).toInt8.toInt32))), (.int (nar .byte ((p5 >>> ((8 : Int32) &&& 31)).toInt8.toInt32)))], rfl, N34, Kp2, sz_b33_b2_b2, o33_1, o33_2⟩
  · refine XS.iloadN X0.here hx rfl (hb hby d4_0) rfl ?_
    refine st29 _ ?_
    refine XS.astoreN X29.here hx rfl (hb hby d4_3) rfl rfl (l' := #[.val (.ref a1), .val (.int 0), .val (.int 3), .val (.ref b29), .unset, .unset]) rfl ?_
    refine XS.aloadN X29.here hx rfl (hb hby d4_4) rfl rfl ?_
    refine XS.iloadN X29.here hx rfl (hb hby d4_5) rfl ?_
    refine XS.aloadN X29.here hx rfl (hb hby d4_6) rfl rfl ?_
    refine XS.iconst X29.here hx rfl (hb hby d4_7) ?_
    refine XS.iloadN X29.here hx rfl (hb hby d4_8) rfl ?_
    refine st31 _ ?_
    refine XS.istore X31.here hx rfl (hb hby d4_12) rfl (l' := #[.val (.ref a1), .val (.int 0), .val (.int 3), .val (.ref b29), .val (.int 2), .unset]) rfl ?_
    refine XS.iload X31.here hx rfl (hb hby d4_14) rfl ?_
    show Steps p.tables e below (T31.setTop (mkF m 16 #[.val (.ref a1), .val (.int 0), .val (.int 3), .val (.ref b29), .val (.int 2), .unset] [(.int 2)])) _
    refine XS.iloadN X31.here hx rfl (hb hby d4_16) rfl ?_
    refine XS.icmpNo X31.here hx rfl (hb hby d4_17) rfl (feq ((by decide : ¬ ((2 : Int32) = (3 : Int32))) : ¬ ((2 : Int32) = (3 : Int32)))).1 ?_
    refine XS.aloadN X31.here hx rfl (hb hby d4_20) rfl rfl ?_
    refine XS.iloadN X31.here hx rfl (hb hby d4_21) rfl ?_
    refine XS.iloadN X31.here hx rfl (hb hby d4_22) rfl ?_
    refine st33 _ ?_
    refine XS.astore X33.here hx rfl (hb hby d4_26) rfl rfl (l' := #[.val (.ref a1), .val (.int 0), .val (.int 3), .val (.ref b29), .val (.int 2), .val (.ref b33_b2_b2)]) rfl ?_
    refine XS.aload X33.here hx rfl (hb hby d4_28) rfl rfl ?_
    refine XS.iload X33.here hx rfl (hb hby d4_30) rfl ?_
    refine st34 _ ?_
    refine XS.sipush X34.here hx rfl (hb hby d4_35) ?_
    refine XS.icmpYes X34.here hx rfl (pc0 := 38) (pc' := 54) rfl (hb hby d4_38) rfl (tlt (cd37 : (255 : Int32) < (nar .char (((((nar .byte ((p5 >>> ((0 : Int32) &&& 31)).toInt8.toInt32)) &&& (255 : Int32)) <<< ((0 : Int32) &&& 31)) ||| (((nar .byte ((p5 >>> ((8 : Int32) &&& 31)).toInt8.toInt32)) &&& (255 : Int32)) <<< ((8 : Int32) &&& 31))).toUInt32.toUInt16.toUInt32.toInt32)))).2.2.1 (by decide) (by decide) ?_
    show Steps p.tables e below (T34.setTop (mkF m 54 #[.val (.ref a1), .val (.int 0), .val (.int 3), .val (.ref b29), .val (.int 2), .val (.ref b33_b2_b2)] [])) _
    refine XS.aload X34.here hx rfl (hb hby d4_54) rfl rfl ?_
    exact retOut X34 hx hret rfl (Or.inr (Or.inr (Or.inr (Or.inr ⟨rfl, rfl, rfl⟩)))) (hb hby d4_56) hr
theorem rm50_3 (l : Launch) (Z : State) (a0 : Array Value) (hw : ∀ d ∈ tables_1, d.before a0 Z = true) (ws : List Jvm.Cond) (a1 : Addr) (p3 : Int32) (p4 : Int32) (p5 : Int32) (k6 : ClassId) (h0 : Heap) (n0 : Nat) (Z0 : n0 ≤ h0.size) (V_a1 : Arv Z h0 a1 k6 .char (3 : Int32) [(.int p3), (.int p4), (.int p5)] (.int 0)) (S__assertionsDisabled : Sta Z Z.heap "java/lang/StringUTF16" "$assertionsDisabled" "Z" (.int 1)) (Od0 : Old Z n0 h0) (S_HI_BYTE_SHIFT : Sta Z Z.heap "java/lang/StringUTF16" "HI_BYTE_SHIFT" "I" (.int 0)) (S_LO_BYTE_SHIFT : Sta Z Z.heap "java/lang/StringUTF16" "LO_BYTE_SHIFT" "I" (.int 8)) (c13 : ¬ (p3 < (0 : Int32))) (c14 : ¬ ((65535 : Int32) < p3)) (c24 : ¬ (p4 < (0 : Int32))) (c25 : ¬ ((65535 : Int32) < p4)) (c35 : ¬ (p5 < (0 : Int32))) (c36 : ¬ ((65535 : Int32) < p5)) (cc1 : ¬ ((255 : Int32) < p3)) (cc2 : ¬ ((255 : Int32) < p4)) (cc3 : ¬ ((255 : Int32) < p5)) :
    OwnMet l Z y_6 jdk_52_method_16_code 6 (some (.array .byte)) ws Rm50 #[(.ref a1), (.int 0), (.int 3)] h0 (Q50 Z a1 p3 p4 p5 k6 h0 n0) := by
  refine own_body (plainFor_of_name pn_0) (ef_7ff9cc a1) ?_
  intro p e s m below meth c s₁ hx hby hml hown hnm hret hZ X0 e0
  have N0 := Fr.nil n0
  obtain ⟨T38, h38, k38, X38, e38, E38, A38, B38, st38⟩ := newPE (aty := .byte) X0 hx hZ (w_20 hw) e0 (g := (mkF m 1 #[.val (.ref a1), .val (.int 0), .val (.int 3), .unset, .unset, .unset] [(.int 3)])) rfl (hb hby d4_1) rfl (by decide) (cap := 3) (by decide) (by decide) (by decide) (by decide) (ad := "[B") (by decide)
  obtain ⟨b38, g38⟩ : ∃ z, z = h0.size := ⟨_, rfl⟩
  rw [← g38] at A38 B38 st38
  have s0 := E38.1
  have Vn38 : Arv Z h38 b38 k38 .byte (3 : Int32) [(.int 0), (.int 0), (.int 0)] (.int 0) := (Arv.new A38 (by decide)).pad (pad_rep [] (.int 0) 3)
  have Va39 := (V_a1.ext E38)
  have g_b38 : n0 ≤ b38 := Nat.le_trans Z0 (Nat.le_of_eq g38.symm)
  have ne_a1_b38 := Nat.ne_of_lt (Nat.lt_of_lt_of_le V_a1.lt (Nat.le_of_eq g38.symm))
  have z1 := Nat.le_trans Z0 s0
  obtain ⟨_, T40, L40, X40, hQ40, st40⟩ := own_callS X38 hx hZ hown (y := y_0) (w_21 hw) (w_22 hw) (w_18 hw) (w_23 hw) (rm49 l Z a0 hw [] a1 b38 p3 p4 p5 k6 k38 h38 n0 z1 Va39 cc1 Vn38 g_b38 ne_a1_b38 cc2 cc3 B38) e38 (Ls := #[.val (.ref a1), .val (.int 0), .val (.int 3), .val (.ref b38), .unset, .unset]) (by rw [hml]; rfl) (argsL := [(.ref a1), (.int 0), (.ref b38), (.int 0), (.int 3)]) (rest := []) (lenOf pd_0 rfl) (hb hby d4_9) (W := 0)
  obtain ⟨rfl, Nq40, K40, o40_0, o40_1⟩ := hQ40
  have N40 := Fr.app N0 Nq40
  have s1 := K40.1
  have sz_b38 : h0.size ≤ b38 := (Nat.le_of_eq g38.symm)
  have Kp0 : Keep h0 h38 [] := (Keep.refl h0 []).ext E38
  have Kp1 : Keep h0 T40.heap [] := Kp0.trans K40 (allS (Or.inr sz_b38) all0)
  refine ⟨T40, _, _, _, (some (.ref b38)), X40, nofun, by decide, by decide, ?_, fun fs hr => ?_⟩
  · unfold Q50
    rw [show (if (255 : Int32) < p3 then (6 : Int32) else (if (255 : Int32) < p4 then (6 : Int32) else (if (255 : Int32) < p5 then (6 : Int32) else (3 : Int32)))) = (3 : Int32) from by rw [if_neg cc1, if_neg cc2, if_neg cc3]]
    exact ⟨b38, k38, [(.int (nar .byte (p3.toInt8.toInt32))), (.int (nar .byte (p4.toInt8.toInt32))), (.int (nar .byte (p5.toInt8.toInt32)))], rfl, N40, Kp1, sz_b38, o40_0, o40_1⟩
  · refine XS.iloadN X0.here hx rfl (hb hby d4_0) rfl ?_
    refine st38 _ ?_
    refine XS.astoreN X38.here hx rfl (hb hby d4_3) rfl rfl (l' := #[.val (.ref a1), .val (.int 0), .val (.int 3), .val (.ref b38), .unset, .unset]) rfl ?_
    refine XS.aloadN X38.here hx rfl (hb hby d4_4) rfl rfl ?_
    refine XS.iloadN X38.here hx rfl (hb hby d4_5) rfl ?_
    refine XS.aloadN X38.here hx rfl (hb hby d4_6) rfl rfl ?_
    refine XS.iconst X38.here hx rfl (hb hby d4_7) ?_
    refine XS.iloadN X38.here hx rfl (hb hby d4_8) rfl ?_
    refine st40 _ ?_
    refine XS.istore X40.here hx rfl (hb hby d4_12) rfl (l' := #[.val (.ref a1), .val (.int 0), .val (.int 3), .val (.ref b38), .val (.int 3), .unset]) rfl ?_
    refine XS.iload X40.here hx rfl (hb hby d4_14) rfl ?_
    show Steps p.tables e below (T40.setTop (mkF m 16 #[.val (.ref a1), .val (.int 0), .val (.int 3), .val (.ref b38), .val (.int 3), .unset] [(.int 3)])) _
    refine XS.iloadN X40.here hx rfl (hb hby d4_16) rfl ?_
    refine XS.icmpYes X40.here hx rfl (pc0 := 17) (pc' := 57) rfl (hb hby d4_17) rfl (teq ((by decide : (3 : Int32) = (3 : Int32)) : (3 : Int32) = (3 : Int32))).1 (by decide) (by decide) ?_
    refine XS.aloadN X40.here hx rfl (hb hby d4_57) rfl rfl ?_
    exact retOut X40 hx hret rfl (Or.inr (Or.inr (Or.inr (Or.inr ⟨rfl, rfl, rfl⟩)))) (hb hby d4_58) hr
theorem rm50 (l : Launch) (Z : State) (a0 : Array Value) (hw : ∀ d ∈ tables_1, d.before a0 Z = true) (ws : List Jvm.Cond) (a1 : Addr) (p3 : Int32) (p4 : Int32) (p5 : Int32) (k6 : ClassId) (h0 : Heap) (n0 : Nat) (Z0 : n0 ≤ h0.size) (V_a1 : Arv Z h0 a1 k6 .char (3 : Int32) [(.int p3), (.int p4), (.int p5)] (.int 0)) (S__assertionsDisabled : Sta Z Z.heap "java/lang/StringUTF16" "$assertionsDisabled" "Z" (.int 1)) (Od0 : Old Z n0 h0) (S_HI_BYTE_SHIFT : Sta Z Z.heap "java/lang/StringUTF16" "HI_BYTE_SHIFT" "I" (.int 0)) (S_LO_BYTE_SHIFT : Sta Z Z.heap "java/lang/StringUTF16" "LO_BYTE_SHIFT" "I" (.int 8)) (c13 : ¬ (p3 < (0 : Int32))) (c14 : ¬ ((65535 : Int32) < p3)) (c24 : ¬ (p4 < (0 : Int32))) (c25 : ¬ ((65535 : Int32) < p4)) (c35 : ¬ (p5 < (0 : Int32))) (c36 : ¬ ((65535 : Int32) < p5)) :
    OwnMet l Z y_6 jdk_52_method_16_code 6 (some (.array .byte)) ws Rm50 #[(.ref a1), (.int 0), (.int 3)] h0 (Q50 Z a1 p3 p4 p5 k6 h0 n0) := by
  by_cases cc1 : (255 : Int32) < p3
  · exact rm50_0 l Z a0 hw ws a1 p3 p4 p5 k6 h0 n0 Z0 V_a1 S__assertionsDisabled Od0 S_HI_BYTE_SHIFT S_LO_BYTE_SHIFT c13 c14 c24 c25 c35 c36 cc1
  · by_cases cc2 : (255 : Int32) < p4
    · exact rm50_1 l Z a0 hw ws a1 p3 p4 p5 k6 h0 n0 Z0 V_a1 S__assertionsDisabled Od0 S_HI_BYTE_SHIFT S_LO_BYTE_SHIFT c13 c14 c24 c25 c35 c36 cc1 cc2
    · by_cases cc3 : (255 : Int32) < p5
      · exact rm50_2 l Z a0 hw ws a1 p3 p4 p5 k6 h0 n0 Z0 V_a1 S__assertionsDisabled Od0 S_HI_BYTE_SHIFT S_LO_BYTE_SHIFT c13 c14 c24 c25 c35 c36 cc1 cc2 cc3
      · exact rm50_3 l Z a0 hw ws a1 p3 p4 p5 k6 h0 n0 Z0 V_a1 S__assertionsDisabled Od0 S_HI_BYTE_SHIFT S_LO_BYTE_SHIFT c13 c14 c24 c25 c35 c36 cc1 cc2 cc3
theorem ef_6b4fde (a1 : Addr) (m : MethodId) : entryFrame m #[(.ref a1), (.int 3)] 2 = mkF m 0 #[.val (.ref a1), .val (.int 3)] [] := by first | (simp [entryFrame, mkF, argsToLocals, Value.category]; done) | rfl
-- java/lang/StringUTF16.coderFromArrayLen([BI)B
abbrev Rm51 : Room := { frames := 0, cells := 0, slots := 0, locals := 0 }
def Q51 (Z : State) (a1 : Addr) (u2 : List Value) (k3 : ClassId) (p4 : Int32) (h0 : Heap) (n0 : Nat) (v : Option Value) (h : Heap) (L : List Loc) : Prop := v = some (.int (nar .byte (((((3 : Int32) - p4).toUInt32 >>> ((31 : Int32) &&& 31).toUInt32).toInt32).toInt8.toInt32))) ∧ Fr n0 L ∧ h = h0
-- ef_6b4fde
theorem rm51 (l : Launch) (Z : State) (a0 : Array Value) (hw : ∀ d ∈ tables_1, d.before a0 Z = true) (ws : List Jvm.Cond) (a1 : Addr) (u2 : List Value) (k3 : ClassId) (p4 : Int32) (h0 : Heap) (n0 : Nat) (Z0 : n0 ≤ h0.size) (V_a1 : Arv Z h0 a1 k3 .byte p4 u2 (.int 0)) :
    OwnMet l Z y_7 jdk_52_method_15_code 2 (some .byte) ws Rm51 #[(.ref a1), (.int 3)] h0 (Q51 Z a1 u2 k3 p4 h0 n0) := by
  refine own_body (plainFor_of_name pn_0) (ef_6b4fde a1) ?_
  intro p e s m below meth c s₁ hx hby hml hown hnm hret hZ X0 e0
  have N0 := Fr.nil n0
  obtain ⟨cl5, Ar5, q5, S5, M5, Hs5, G5⟩ := id V_a1
  refine ⟨s₁, _, _, _, (some (.int (nar .byte (((((3 : Int32) - p4).toUInt32 >>> ((31 : Int32) &&& 31).toUInt32).toInt32).toInt8.toInt32)))), X0, nofun, by decide, by decide, ?_, fun fs hr => ?_⟩
  · rw [e0]
    exact ⟨rfl, N0, rfl⟩
  · refine XS.iloadN X0.here hx rfl (hb hby d6_0) rfl ?_
    refine XS.aloadN X0.here hx rfl (hb hby d6_1) rfl rfl ?_
    refine X0.arraylength hx (by rw [e0]; exact Ar5.1) (State.isArrayOf_alike hZ.alike Ar5.2.1) (g := (mkF m 2 #[.val (.ref a1), .val (.int 3)] [(.ref a1), (.int 3)])) rfl rfl (hb hby d6_2) _ ?_
    show Steps p.tables e below (s₁.setTop (mkF m 3 #[.val (.ref a1), .val (.int 3)] [(.int cl5.slots.size.toInt32), (.int 3)])) _
    rw [len_of S5 M5]
    refine XS.isub X0.here hx rfl (hb hby d6_3) rfl ?_
    refine XS.bipush X0.here hx rfl (hb hby d6_4) ?_
    refine XS.iushr X0.here hx rfl (hb hby d6_6) rfl ?_
    refine XS.i2b X0.here hx rfl (hb hby d6_7) rfl ?_
    exact retN X0 hx (t := .byte) hret (by simp) (hb hby d6_8) hr
theorem ef_eba9e4 (a1 : Addr) (a2 : Addr) (m : MethodId) : entryFrame m #[(.ref a1), (.ref a2), (.int 0), (.int 3), .null] 6 = mkF m 0 #[.val (.ref a1), .val (.ref a2), .val (.int 0), .val (.int 3), .val .null, .unset] [] := by first | (simp [entryFrame, mkF, argsToLocals, Value.category]; done) | rfl
-- java/lang/String.<init>([CIILjava/lang/Void;)V
abbrev Rm52 : Room := { frames := 4, cells := 2, slots := 9, locals := 57 }
def Q52 (Z : State) (a1 : Addr) (a2 : Addr) (p4 : Int32) (p7 : Int32) (p8 : Int32) (p9 : Int32) (k10 : ClassId) (h0 : Heap) (n0 : Nat) (v : Option Value) (h : Heap) (L : List Loc) : Prop := ∃ b17_m0 : Addr, ∃ k17_kk1 : ClassId, ∃ u17_uu2 : List Value, v = none ∧ Fr n0 L ∧ Keep h0 h [a1] ∧ Exa Z h a1 "java/lang/String" ∧ Fld Z h a1 "java/lang/String" "coder" "B" (.int (nar .byte (nar .byte (((((3 : Int32) - (if (255 : Int32) < p7 then (6 : Int32) else (if (255 : Int32) < p8 then (6 : Int32) else (if (255 : Int32) < p9 then (6 : Int32) else (3 : Int32))))).toUInt32 >>> ((31 : Int32) &&& 31).toUInt32).toInt32).toInt8.toInt32)))) ∧ Fld Z h a1 "java/lang/String" "value" "[B" (.ref b17_m0) ∧ h0.size ≤ b17_m0 ∧ Exa Z h b17_m0 "[B" ∧ Arv Z h b17_m0 k17_kk1 .byte (if (255 : Int32) < p7 then (6 : Int32) else (if (255 : Int32) < p8 then (6 : Int32) else (if (255 : Int32) < p9 then (6 : Int32) else (3 : Int32)))) u17_uu2 (.int 0)
-- ef_eba9e4
theorem rm52 (l : Launch) (Z : State) (a0 : Array Value) (hw : ∀ d ∈ tables_1, d.before a0 Z = true) (ws : List Jvm.Cond) (a1 : Addr) (a2 : Addr) (p4 : Int32) (p7 : Int32) (p8 : Int32) (p9 : Int32) (k10 : ClassId) (h0 : Heap) (n0 : Nat) (Z0 : n0 ≤ h0.size) (S_COMPACT_STRINGS : Sta Z Z.heap "java/lang/String" "COMPACT_STRINGS" "Z" (.int p4)) (Od0 : Old Z n0 h0) (c6 : ¬ (p4 = (0 : Int32))) (V_a2 : Arv Z h0 a2 k10 .char (3 : Int32) [(.int p7), (.int p8), (.int p9)] (.int 0)) (S__assertionsDisabled : Sta Z Z.heap "java/lang/StringUTF16" "$assertionsDisabled" "Z" (.int 1)) (S_HI_BYTE_SHIFT : Sta Z Z.heap "java/lang/StringUTF16" "HI_BYTE_SHIFT" "I" (.int 0)) (S_LO_BYTE_SHIFT : Sta Z Z.heap "java/lang/StringUTF16" "LO_BYTE_SHIFT" "I" (.int 8)) (c11 : ¬ (p7 < (0 : Int32))) (c12 : ¬ ((65535 : Int32) < p7)) (c13 : ¬ (p8 < (0 : Int32))) (c14 : ¬ ((65535 : Int32) < p8)) (c15 : ¬ (p9 < (0 : Int32))) (c16 : ¬ ((65535 : Int32) < p9)) (F_coder_a1 : Fld Z h0 a1 "java/lang/String" "coder" "B" (.int 0)) (E_a1 : Exa Z h0 a1 "java/lang/String") (g_a1 : n0 ≤ a1) (F_value_a1 : Fld Z h0 a1 "java/lang/String" "value" "[B" .null) :
    OwnMet l Z y_8 jdk_42_method_149_code 6 none ws Rm52 #[(.ref a1), (.ref a2), (.int 0), (.int 3), .null] h0 (Q52 Z a1 a2 p4 p7 p8 p9 k10 h0 n0) := by
  refine own_body (plainFor_of_name pn_1) (ef_eba9e4 a1 a2) ?_
  intro p e s m below meth c s₁ hx hby hml hown hnm hret hZ X0 e0
  have N0 := Fr.nil n0
  obtain ⟨T3, X3, e3, st3⟩ := initO X0 hx hZ hown (w_12 hw) (w_13 hw) (w_14 hw) e0 (g := (mkF m 1 #[.val (.ref a1), .val (.ref a2), .val (.int 0), .val (.int 3), .val .null, .unset] [(.ref a1)])) rfl (by rw [hml]; rfl) rfl (hb hby d2_1) (by decide) (W := 0) (by show 2 * 0 + _ ≤ _; exact Nat.le_of_eq rfl) (by decide)
  obtain ⟨T5, X5, e5, st5⟩ := getS2 X3 hx hZ hown (host := "") (Or.inl (w_15 hw)) Via.refl e3 (S_COMPACT_STRINGS.ext Od0.2) (g := (mkF m 27 #[.val (.ref a1), .val (.ref a2), .val (.int 0), .val (.int 3), .val .null, .unset] [])) rfl (hb hby d2_27)
  obtain ⟨_, T17, L17, X17, hQ17, st17⟩ := own_callS X5 hx hZ hown (y := y_6) (w_16 hw) (w_17 hw) (w_18 hw) (w_19 hw) (rm50 l Z a0 hw [] a2 p7 p8 p9 k10 h0 n0 Z0 V_a2 S__assertionsDisabled Od0 S_HI_BYTE_SHIFT S_LO_BYTE_SHIFT c11 c12 c13 c14 c15 c16) e5 (Ls := #[.val (.ref a1), .val (.ref a2), .val (.int 0), .val (.int 3), .val .null, .unset]) (by rw [hml]; rfl) (argsL := [(.ref a2), (.int 0), (.int 3)]) (rest := []) (lenOf pd_4 rfl) (hb hby d2_36) (W := 0)
  obtain ⟨b17_m0, k17_kk1, u17_uu2, rfl, Nq17, K17, o17_0, o17_1, o17_2⟩ := hQ17
  have N17 := Fr.app N0 Nq17
  have s0 := K17.1
  obtain ⟨x18, ex18⟩ : ∃ z, z = (if (255 : Int32) < p7 then (6 : Int32) else (if (255 : Int32) < p8 then (6 : Int32) else (if (255 : Int32) < p9 then (6 : Int32) else (3 : Int32)))) := ⟨_, rfl⟩
  have o17_2' : Arv Z T17.heap b17_m0 k17_kk1 .byte x18 u17_uu2 (.int 0) := by rw [ex18]; exact o17_2
  have z1 := Nat.le_trans Z0 s0
  obtain ⟨_, T19, L19, X19, hQ19, st19⟩ := own_callS X17 hx hZ hown (y := y_7) (w_24 hw) (w_25 hw) (w_18 hw) (w_26 hw) (rm51 l Z a0 hw [] b17_m0 u17_uu2 k17_kk1 x18 T17.heap n0 z1 o17_2') rfl (Ls := #[.val (.ref a1), .val (.ref a2), .val (.int 0), .val (.int 3), .val .null, .val (.ref b17_m0)]) (by rw [hml]; rfl) (argsL := [(.ref b17_m0), (.int 3)]) (rest := [(.ref a1)]) (lenOf pd_6 rfl) (hb hby d2_45) (W := 1)
  obtain ⟨rfl, Nq19, e19⟩ := hQ19
  have N19 := Fr.app N17 Nq19
  have Fl20 := (F_coder_a1.keep K17 nin0)
  have Ex21 := (E_a1.keep K17)
  obtain ⟨T22, h22, X22, e22, W22, st22⟩ := putFN X19 hx hZ hown (w_27 hw) Via.refl e19 Fl20 Ex21 (Or.inr ⟨(w_28 hw), rfl, hnm⟩) (w_2 hw) (ty := .byte) (v' := (.int (nar .byte (nar .byte (((((3 : Int32) - x18).toUInt32 >>> ((31 : Int32) &&& 31).toUInt32).toInt32).toInt8.toInt32))))) (by decide) rfl (fits_nar_byte _) (g := (mkF m 48 #[.val (.ref a1), .val (.ref a2), .val (.int 0), .val (.int 3), .val .null, .val (.ref b17_m0)] [(.int (nar .byte (((((3 : Int32) - x18).toUInt32 >>> ((31 : Int32) &&& 31).toUInt32).toInt32).toInt8.toInt32))), (.ref a1)])) rfl rfl (hb hby d2_48)
  have s1 := (Keep.of_wr W22).1
  have N22 := Fr.snoc X22 N19 g_a1
  have Fw22 : Fld Z h22 a1 "java/lang/String" "coder" "B" (.int (nar .byte (nar .byte (((((3 : Int32) - x18).toUInt32 >>> ((31 : Int32) &&& 31).toUInt32).toInt32).toInt8.toInt32)))) := Fl20.same W22
  have Ex23 := (Ex21.wr W22)
  have Fl24 := ((F_value_a1.keep K17 nin0).other W22 (Or.inr (slot_ne (Or.inr (w_30 hw)) (Or.inr (w_28 hw)) (by decide) (t := (.array .byte)) (t' := .byte) (by decide) (by decide))))
  obtain ⟨T25, h25, X25, e25, W25, st25⟩ := putF X22 hx hZ hown (host := "") (Or.inl (w_29 hw)) Via.refl e22 Fl24 Ex23 (Or.inr ⟨(w_30 hw), rfl, hnm⟩) (w_2 hw) (ty := (.array .byte)) (by decide) rfl rfl (g := (mkF m 54 #[.val (.ref a1), .val (.ref a2), .val (.int 0), .val (.int 3), .val .null, .val (.ref b17_m0)] [(.ref b17_m0), (.ref a1)])) rfl rfl (hb hby d2_54)
  have s2 := (Keep.of_wr W25).1
  have N25 := Fr.snoc X25 N22 g_a1
  have Fw25 : Fld Z h25 a1 "java/lang/String" "value" "[B" (.ref b17_m0) := Fl24.same W25
  have Ex26 := (Ex23.wr W25)
  have Fl27 := (Fw22.other W25 (Or.inr (slot_ne (Or.inr (w_28 hw)) (Or.inr (w_30 hw)) (by decide) (t := .byte) (t' := (.array .byte)) (by decide) (by decide))))
  have sz_b17_m0 : h0.size ≤ b17_m0 := o17_0
  have Ex28 := ((o17_1.wr W22).wr W25)
  have ne_a1_b17_m0 := Nat.ne_of_lt (Nat.lt_of_lt_of_le F_value_a1.lt o17_0)
  have Va29 := ((o17_2'.other W22 (Ne.symm ne_a1_b17_m0)).other W25 (Ne.symm ne_a1_b17_m0))
  have Kp0 : Keep h0 T17.heap [a1] := (Keep.refl h0 [a1]).trans K17 all0
  have Kp1 : Keep h0 h22 [a1] := Kp0.wr W22 (Or.inl (List.mem_of_getElem? (i := 0) rfl))
  have Kp2 : Keep h0 h25 [a1] := Kp1.wr W25 (Or.inl (List.mem_of_getElem? (i := 0) rfl))
  refine ⟨T25, _, _, _, none, X25, (fun _ => rfl), by decide, by decide, ?_, fun fs hr => ?_⟩
  · rw [e25]
    subst ex18
    exact ⟨b17_m0, k17_kk1, u17_uu2, rfl, N25, Kp2, Ex26, Fl27, Fw25, sz_b17_m0, Ex28, Va29⟩
  · refine XS.aloadN X0.here hx rfl (hb hby d2_0) rfl rfl ?_
    refine st3 _ ?_
    refine XS.iloadN X3.here hx rfl (hb hby d2_4) rfl ?_
    refine XS.ifYes X3.here hx rfl (pc0 := 5) (pc' := 27) rfl (hb hby d2_5) rfl ((if0 _ _).trans (feq ((by decide : ¬ ((3 : Int32) = (0 : Int32))) : ¬ ((3 : Int32) = (0 : Int32)))).2) (by decide) (by decide) ?_
    refine st5 _ ?_
    refine XS.ifNo X5.here hx rfl (hb hby d2_30) rfl ((if0 _ _).trans (feq (c6 : ¬ (p4 = (0 : Int32)))).1) ?_
    refine XS.aloadN X5.here hx rfl (hb hby d2_33) rfl rfl ?_
    refine XS.iloadN X5.here hx rfl (hb hby d2_34) rfl ?_
    refine XS.iloadN X5.here hx rfl (hb hby d2_35) rfl ?_
    refine st17 _ ?_
    refine XS.astore X17.here hx rfl (hb hby d2_39) rfl rfl (l' := #[.val (.ref a1), .val (.ref a2), .val (.int 0), .val (.int 3), .val .null, .val (.ref b17_m0)]) rfl ?_
    show Steps p.tables e below (T17.setTop (mkF m 41 #[.val (.ref a1), .val (.ref a2), .val (.int 0), .val (.int 3), .val .null, .val (.ref b17_m0)] [])) _
    refine XS.aloadN X17.here hx rfl (hb hby d2_41) rfl rfl ?_
    refine XS.aload X17.here hx rfl (hb hby d2_42) rfl rfl ?_
    refine XS.iloadN X17.here hx rfl (hb hby d2_44) rfl ?_
    refine st19 _ ?_
    refine st22 _ ?_
    refine XS.aloadN X22.here hx rfl (hb hby d2_51) rfl rfl ?_
    refine XS.aload X22.here hx rfl (hb hby d2_52) rfl rfl ?_
    refine st25 _ ?_
    exact X25.returnOut hx hret (hb hby d2_57) hr
-- java/lang/String.<init>([C)V
abbrev Rm53 : Room := { frames := 5, cells := 2, slots := 9, locals := 74 }
def Q53 (Z : State) (a1 : Addr) (a2 : Addr) (p3 : Int32) (p4 : Int32) (p5 : Int32) (k6 : ClassId) (p8 : Int32) (h0 : Heap) (n0 : Nat) (v : Option Value) (h : Heap) (L : List Loc) : Prop := ∃ b16_b17_m0 : Addr, ∃ k16_k17_kk1 : ClassId, ∃ u16_u17_uu2 : List Value, v = none ∧ Fr n0 L ∧ Keep h0 h [a1] ∧ Exa Z h a1 "java/lang/String" ∧ Fld Z h a1 "java/lang/String" "coder" "B" (.int (nar .byte (nar .byte (((((3 : Int32) - (if (255 : Int32) < p3 then (6 : Int32) else (if (255 : Int32) < p4 then (6 : Int32) else (if (255 : Int32) < p5 then (6 : Int32) else (3 : Int32))))).toUInt32 >>> ((31 : Int32) &&& 31).toUInt32).toInt32).toInt8.toInt32)))) ∧ Fld Z h a1 "java/lang/String" "value" "[B" (.ref b16_b17_m0) ∧ h0.size ≤ b16_b17_m0 ∧ Exa Z h b16_b17_m0 "[B" ∧ Arv Z h b16_b17_m0 k16_k17_kk1 .byte (if (255 : Int32) < p3 then (6 : Int32) else (if (255 : Int32) < p4 then (6 : Int32) else (if (255 : Int32) < p5 then (6 : Int32) else (3 : Int32)))) u16_u17_uu2 (.int 0)
-- ef_463e93
theorem rm53 (l : Launch) (Z : State) (a0 : Array Value) (hw : ∀ d ∈ tables_1, d.before a0 Z = true) (ws : List Jvm.Cond) (a1 : Addr) (a2 : Addr) (p3 : Int32) (p4 : Int32) (p5 : Int32) (k6 : ClassId) (p8 : Int32) (h0 : Heap) (n0 : Nat) (Z0 : n0 ≤ h0.size) (V_a2 : Arv Z h0 a2 k6 .char (3 : Int32) [(.int p3), (.int p4), (.int p5)] (.int 0)) (S_COMPACT_STRINGS : Sta Z Z.heap "java/lang/String" "COMPACT_STRINGS" "Z" (.int p8)) (Od0 : Old Z n0 h0) (c9 : ¬ (p8 = (0 : Int32))) (S__assertionsDisabled : Sta Z Z.heap "java/lang/StringUTF16" "$assertionsDisabled" "Z" (.int 1)) (S_HI_BYTE_SHIFT : Sta Z Z.heap "java/lang/StringUTF16" "HI_BYTE_SHIFT" "I" (.int 0)) (S_LO_BYTE_SHIFT : Sta Z Z.heap "java/lang/StringUTF16" "LO_BYTE_SHIFT" "I" (.int 8)) (c10 : ¬ (p3 < (0 : Int32))) (c11 : ¬ ((65535 : Int32) < p3)) (c12 : ¬ (p4 < (0 : Int32))) (c13 : ¬ ((65535 : Int32) < p4)) (c14 : ¬ (p5 < (0 : Int32))) (c15 : ¬ ((65535 : Int32) < p5)) (F_coder_a1 : Fld Z h0 a1 "java/lang/String" "coder" "B" (.int 0)) (E_a1 : Exa Z h0 a1 "java/lang/String") (g_a1 : n0 ≤ a1) (F_value_a1 : Fld Z h0 a1 "java/lang/String" "value" "[B" .null) :
    OwnMet l Z y_9 jdk_42_method_3_code 2 none ws Rm53 #[(.ref a1), (.ref a2)] h0 (Q53 Z a1 a2 p3 p4 p5 k6 p8 h0 n0) := by
  refine own_body (plainFor_of_name pn_1) (ef_463e93 a1 a2) ?_
  intro p e s m below meth c s₁ hx hby hml hown hnm hret hZ X0 e0
  have N0 := Fr.nil n0
  obtain ⟨cl7, Ar7, q7, S7, M7, Hs7, G7⟩ := id V_a2
  obtain ⟨_, T16, L16, X16, hQ16, st16⟩ := own_special X0 hx hZ hown (y := y_8) (a := a1) (w_8 hw) (w_9 hw) (w_3 hw) (w_11 hw) (rm52 l Z a0 hw [] a1 a2 p8 p3 p4 p5 k6 h0 n0 Z0 S_COMPACT_STRINGS Od0 c9 V_a2 S__assertionsDisabled S_HI_BYTE_SHIFT S_LO_BYTE_SHIFT c10 c11 c12 c13 c14 c15 F_coder_a1 E_a1 g_a1 F_value_a1) e0 (Ls := #[.val (.ref a1), .val (.ref a2)]) (by rw [hml]; rfl) (argsL := [(.ref a2), (.int 0), (.int 3), .null]) (rest := []) (lenOf pd_7 rfl) (hb hby d1_6) (W := 0)
  obtain ⟨b16_b17_m0, k16_k17_kk1, u16_u17_uu2, rfl, Nq16, K16, o16_0, o16_1, o16_2, o16_3, o16_4, o16_5⟩ := hQ16
  have N16 := Fr.app N0 Nq16
  have s0 := K16.1
  obtain ⟨x17, ex17⟩ : ∃ z, z = (if (255 : Int32) < p3 then (6 : Int32) else (if (255 : Int32) < p4 then (6 : Int32) else (if (255 : Int32) < p5 then (6 : Int32) else (3 : Int32)))) := ⟨_, rfl⟩
  have o16_5' : Arv Z T16.heap b16_b17_m0 k16_k17_kk1 .byte x17 u16_u17_uu2 (.int 0) := by rw [ex17]; exact o16_5
  have sz_b16_b17_m0 : h0.size ≤ b16_b17_m0 := o16_3
  have Kp0 : Keep h0 T16.heap [a1] := (Keep.refl h0 [a1]).trans K16 (allS (Or.inl (List.mem_of_getElem? (i := 0) rfl)) all0)
  refine ⟨T16, _, _, _, none, X16, (fun _ => rfl), by decide, by decide, ?_, fun fs hr => ?_⟩
  · subst ex17
    exact ⟨b16_b17_m0, k16_k17_kk1, u16_u17_uu2, rfl, N16, Kp0, o16_0, o16_1, o16_2, sz_b16_b17_m0, o16_4, o16_5'⟩
  · refine XS.aloadN X0.here hx rfl (hb hby d1_0) rfl rfl ?_
    refine XS.aloadN X0.here hx rfl (hb hby d1_1) rfl rfl ?_
    refine XS.iconst X0.here hx rfl (hb hby d1_2) ?_
    refine XS.aloadN X0.here hx rfl (hb hby d1_3) rfl rfl ?_
    refine X0.arraylength hx (by rw [e0]; exact Ar7.1) (State.isArrayOf_alike hZ.alike Ar7.2.1) (g := (mkF m 4 #[.val (.ref a1), .val (.ref a2)] [(.ref a2), (.int 0), (.ref a2), (.ref a1)])) rfl rfl (hb hby d1_4) _ ?_
    show Steps p.tables e below (s₁.setTop (mkF m 5 #[.val (.ref a1), .val (.ref a2)] [(.int cl7.slots.size.toInt32), (.int 0), (.ref a2), (.ref a1)])) _
    rw [len_of S7 M7]
    refine XS.aconstNull X0.here hx rfl (hb hby d1_5) ?_
    refine st16 _ ?_
    exact X16.returnOut hx hret (hb hby d1_9) hr
theorem rm0_4 (l : Launch) (Z : State) (a0 : Array Value) (hw : ∀ d ∈ tables_1, d.before a0 Z = true) (ws : List Jvm.Cond) (p1 : Int32) (p2 : Int32) (p3 : Int32) (p4 : Int32) (p5 : Int32) (p6 : Int32) (sr1 : Value) (si2 : Int32) (h0 : Heap) (n0 : Nat) (Z0 : n0 ≤ h0.size) (Od0 : Old Z n0 h0) (R_sr1 : sr1.isRef = true) (nc6 : ¬ (si2 = (0 : Int32))) (S7_SIOOBE_FORMATTER : Sta Z Z.heap "jdk/internal/util/Preconditions" "SIOOBE_FORMATTER" "Ljava/util/function/BiFunction;" sr1) (S8_COMPACT_STRINGS : Sta Z Z.heap "java/lang/String" "COMPACT_STRINGS" "Z" (.int si2)) (S9__assertionsDisabled : Sta Z Z.heap "java/lang/StringUTF16" "$assertionsDisabled" "Z" (.int 1)) (S10_HI_BYTE_SHIFT : Sta Z Z.heap "java/lang/StringUTF16" "HI_BYTE_SHIFT" "I" (.int 0)) (S11_LO_BYTE_SHIFT : Sta Z Z.heap "java/lang/StringUTF16" "LO_BYTE_SHIFT" "I" (.int 8)) (hk : (p1 &&& (3 : Int32)) = (2 : Int32)) (cc1 : (p6 &&& (1 : Int32)) = (0 : Int32)) :
    OwnMet l Z x code maxLocals ret ws room_1 #[(.int p1), (.int p2), (.int p3), (.int p4), (.int p5), (.int p6)] h0 (Q0 n0) := by
  refine own_body (plainFor_of_name pn_4) (ef0 p1 p2 p3 p4 p5 p6) ?_
  intro p e s m below meth c s₁ hx hby hml hown hnm hret hZ X0 e0
  have N0 := Fr.nil n0
  obtain ⟨x1, ex1⟩ : ∃ z, z = ((p2 &&& (65535 : Int32)).toUInt32.toUInt16.toUInt32.toInt32) := ⟨_, rfl⟩
  obtain ⟨x2, ex2⟩ : ∃ z, z = ((p3 &&& (65535 : Int32)).toUInt32.toUInt16.toUInt32.toInt32) := ⟨_, rfl⟩
  obtain ⟨x3, ex3⟩ : ∃ z, z = ((p4 &&& (65535 : Int32)).toUInt32.toUInt16.toUInt32.toInt32) := ⟨_, rfl⟩
  obtain ⟨x4, ex4⟩ : ∃ z, z = ((p5 &&& (65535 : Int32)).toUInt32.toUInt16.toUInt32.toInt32) := ⟨_, rfl⟩
  obtain ⟨T5, h5, X5, e5, E5, A5, D5, -, st5⟩ := newO X0 hx hZ hown (w_1 hw) (w_2 hw) (w_3 hw) e0 (g := (mkF m 99 #[.val (.int p1), .val (.int p2), .val (.int p3), .val (.int p4), .val (.int p5), .val (.int p6), .val (.int x1), .val (.int x2), .val (.int x3), .val (.int x4), .val (.int 3), .unset, .unset, .unset] [])) rfl (hb hby at_99) (by decide) (by decide)
  obtain ⟨b5, g5⟩ : ∃ z, z = h0.size := ⟨_, rfl⟩
  rw [← g5] at A5 D5 st5
  have s0 := E5.1
  have Fn5_coder : Fld Z h5 b5 "java/lang/String" "coder" "B" (.int 0) := D5 (Or.inr (w_28 hw)) (ty := .byte) (by decide)
  have Fn5_value : Fld Z h5 b5 "java/lang/String" "value" "[B" .null := D5 (Or.inr (w_30 hw)) (ty := (.array .byte)) (by decide)
  obtain ⟨T6, h6, k6, X6, e6, E6, A6, B6, st6⟩ := newPE (aty := .char) X5 hx hZ (w_4 hw) e5 (g := (mkF m 104 #[.val (.int p1), .val (.int p2), .val (.int p3), .val (.int p4), .val (.int p5), .val (.int p6), .val (.int x1), .val (.int x2), .val (.int x3), .val (.int x4), .val (.int 3), .unset, .unset, .unset] [(.int 3), (.ref b5), (.ref b5)])) rfl (hb hby at_104) rfl (by decide) (cap := 3) (by decide) (by decide) (by decide) (by decide) (ad := "[C") (by decide)
  obtain ⟨b6, g6⟩ : ∃ z, z = h5.size := ⟨_, rfl⟩
  rw [← g6] at A6 B6 st6
  have s1 := E6.1
  have Vn6 : Arv Z h6 b6 k6 .char (3 : Int32) [(.int 0), (.int 0), (.int 0)] (.int 0) := (Arv.new A6 (by decide)).pad (pad_rep [] (.int 0) 3)
  obtain ⟨cl7, Ar7, q7, S7, M7, Hs7, G7⟩ := id Vn6
  have hin8 : ¬ ((0 : Int32) < 0 ∨ cl7.slots.size ≤ ((0 : Int32)).toNatClampNeg) := inb_of S7 ⟨(by decide : ¬ ((0 : Int32) < (0 : Int32))), (by decide : (0 : Int32) < (3 : Int32))⟩
  obtain ⟨T9, h9, X9, e9, W9, st9⟩ := stC X6 hx hZ e6 Ar7 (j := (0 : Int32)) hin8 (g := (mkF m 110 #[.val (.int p1), .val (.int p2), .val (.int p3), .val (.int p4), .val (.int p5), .val (.int p6), .val (.int x1), .val (.int x2), .val (.int x3), .val (.int x4), .val (.int 3), .unset, .unset, .unset] [(.int x1), (.int 0), (.ref b6), (.ref b6), (.ref b5), (.ref b5)])) rfl rfl (hb hby at_110)
  have s2 := (Keep.of_wr W9).1
  have z1 := Nat.le_trans Z0 s0
  have g_b6 : n0 ≤ b6 := Nat.le_trans z1 (Nat.le_of_eq g6.symm)
  have N9 := Fr.snoc X9 N0 g_b6
  have Vs9 : Arv Z h9 b6 k6 .char (3 : Int32) [(.int (nar .char x1)), (.int 0), (.int 0)] (.int 0) := Arv.set Ar7 q7 S7 M7 Hs7 G7 (fits_nar_char _) W9 0 rfl (Nat.le_of_ble_eq_true rfl)
  obtain ⟨cl10, Ar10, q10, S10, M10, Hs10, G10⟩ := id Vs9
  have hin11 : ¬ ((1 : Int32) < 0 ∨ cl10.slots.size ≤ ((1 : Int32)).toNatClampNeg) := inb_of S10 ⟨(by decide : ¬ ((1 : Int32) < (0 : Int32))), (by decide : (1 : Int32) < (3 : Int32))⟩
  obtain ⟨T12, h12, X12, e12, W12, st12⟩ := stC X9 hx hZ e9 Ar10 (j := (1 : Int32)) hin11 (g := (mkF m 115 #[.val (.int p1), .val (.int p2), .val (.int p3), .val (.int p4), .val (.int p5), .val (.int p6), .val (.int x1), .val (.int x2), .val (.int x3), .val (.int x4), .val (.int 3), .unset, .unset, .unset] [(.int x2), (.int 1), (.ref b6), (.ref b6), (.ref b5), (.ref b5)])) rfl rfl (hb hby at_115)
  have s3 := (Keep.of_wr W12).1
  have N12 := Fr.snoc X12 N9 g_b6
  have Vs12 : Arv Z h12 b6 k6 .char (3 : Int32) [(.int (nar .char x1)), (.int (nar .char x2)), (.int 0)] (.int 0) := Arv.set Ar10 q10 S10 M10 Hs10 G10 (fits_nar_char _) W12 1 rfl (Nat.le_of_ble_eq_true rfl)
  obtain ⟨cl13, Ar13, q13, S13, M13, Hs13, G13⟩ := id Vs12
  have hin14 : ¬ ((2 : Int32) < 0 ∨ cl13.slots.size ≤ ((2 : Int32)).toNatClampNeg) := inb_of S13 ⟨(by decide : ¬ ((2 : Int32) < (0 : Int32))), (by decide : (2 : Int32) < (3 : Int32))⟩
  obtain ⟨T15, h15, X15, e15, W15, st15⟩ := stC X12 hx hZ e12 Ar13 (j := (2 : Int32)) hin14 (g := (mkF m 120 #[.val (.int p1), .val (.int p2), .val (.int p3), .val (.int p4), .val (.int p5), .val (.int p6), .val (.int x1), .val (.int x2), .val (.int x3), .val (.int x4), .val (.int 3), .unset, .unset, .unset] [(.int x3), (.int 2), (.ref b6), (.ref b6), (.ref b5), (.ref b5)])) rfl rfl (hb hby at_120)
  have s4 := (Keep.of_wr W15).1
  have N15 := Fr.snoc X15 N12 g_b6
  have Vs15 : Arv Z h15 b6 k6 .char (3 : Int32) [(.int (nar .char x1)), (.int (nar .char x2)), (.int (nar .char x3))] (.int 0) := Arv.set Ar13 q13 S13 M13 Hs13 G13 (fits_nar_char _) W15 2 rfl (Nat.le_of_ble_eq_true rfl)
  have Od1 : Old Z n0 h5 := Od0.ext E5
  have Od2 : Old Z n0 h6 := Od1.ext E6
  have Od3 : Old Z n0 h9 := Od2.wr W9 g_b6
  have Od4 : Old Z n0 h12 := Od3.wr W12 g_b6
  have Od5 : Old Z n0 h15 := Od4.wr W15 g_b6
  have cd16 : ¬ ((nar .char ((p2 &&& (65535 : Int32)).toUInt32.toUInt16.toUInt32.toInt32)) < (0 : Int32)) := (by rw [Int32.lt_iff_toInt_lt]; have := rng32 (nar .char ((p2 &&& (65535 : Int32)).toUInt32.toUInt16.toUInt32.toInt32)); have := rng32 ((p2 &&& (65535 : Int32)).toUInt32.toUInt16.toUInt32.toInt32); have := rng32 (p2 &&& (65535 : Int32)); have := rng32 p2; have := own_mask p2 (65535 : Int32) 16 (by decide) (by decide) 65536 (by decide); have := c_i2c (p2 &&& (65535 : Int32)); have := own_c_nar_char ((p2 &&& (65535 : Int32)).toUInt32.toUInt16.toUInt32.toInt32); have : ((0 : Int32)).toInt = 0 := (by decide); omega)
  have cd17 : ¬ ((65535 : Int32) < (nar .char ((p2 &&& (65535 : Int32)).toUInt32.toUInt16.toUInt32.toInt32))) := (by rw [Int32.lt_iff_toInt_lt]; have : ((65535 : Int32)).toInt = 65535 := (by decide); have := rng32 (nar .char ((p2 &&& (65535 : Int32)).toUInt32.toUInt16.toUInt32.toInt32)); have := rng32 ((p2 &&& (65535 : Int32)).toUInt32.toUInt16.toUInt32.toInt32); have := rng32 (p2 &&& (65535 : Int32)); have := rng32 p2; have := own_mask p2 (65535 : Int32) 16 (by decide) (by decide) 65536 (by decide); have := c_i2c (p2 &&& (65535 : Int32)); have := own_c_nar_char ((p2 &&& (65535 : Int32)).toUInt32.toUInt16.toUInt32.toInt32); omega)
  have cd18 : ¬ ((nar .char ((p3 &&& (65535 : Int32)).toUInt32.toUInt16.toUInt32.toInt32)) < (0 : Int32)) := (by rw [Int32.lt_iff_toInt_lt]; have := rng32 (nar .char ((p3 &&& (65535 : Int32)).toUInt32.toUInt16.toUInt32.toInt32)); have := rng32 ((p3 &&& (65535 : Int32)).toUInt32.toUInt16.toUInt32.toInt32); have := rng32 (p3 &&& (65535 : Int32)); have := rng32 p3; have := own_mask p3 (65535 : Int32) 16 (by decide) (by decide) 65536 (by decide); have := c_i2c (p3 &&& (65535 : Int32)); have := own_c_nar_char ((p3 &&& (65535 : Int32)).toUInt32.toUInt16.toUInt32.toInt32); have : ((0 : Int32)).toInt = 0 := (by decide); omega)
  have cd19 : ¬ ((65535 : Int32) < (nar .char ((p3 &&& (65535 : Int32)).toUInt32.toUInt16.toUInt32.toInt32))) := (by rw [Int32.lt_iff_toInt_lt]; have : ((65535 : Int32)).toInt = 65535 := (by decide); have := rng32 (nar .char ((p3 &&& (65535 : Int32)).toUInt32.toUInt16.toUInt32.toInt32)); have := rng32 ((p3 &&& (65535 : Int32)).toUInt32.toUInt16.toUInt32.toInt32); have := rng32 (p3 &&& (65535 : Int32)); have := rng32 p3; have := own_mask p3 (65535 : Int32) 16 (by decide) (by decide) 65536 (by decide); have := c_i2c (p3 &&& (65535 : Int32)); have := own_c_nar_char ((p3 &&& (65535 : Int32)).toUInt32.toUInt16.toUInt32.toInt32); omega)
  have cd20 : ¬ ((nar .char ((p4 &&& (65535 : Int32)).toUInt32.toUInt16.toUInt32.toInt32)) < (0 : Int32)) := (by rw [Int32.lt_iff_toInt_lt]; have := rng32 (nar .char ((p4 &&& (65535 : Int32)).toUInt32.toUInt16.toUInt32.toInt32)); have := rng32 ((p4 &&& (65535 : Int32)).toUInt32.toUInt16.toUInt32.toInt32); have := rng32 (p4 &&& (65535 : Int32)); have := rng32 p4; have := own_mask p4 (65535 : Int32) 16 (by decide) (by decide) 65536 (by decide); have := c_i2c (p4 &&& (65535 : Int32)); have := own_c_nar_char ((p4 &&& (65535 : Int32)).toUInt32.toUInt16.toUInt32.toInt32); have : ((0 : Int32)).toInt = 0 := (by decide); omega)
  have cd21 : ¬ ((65535 : Int32) < (nar .char ((p4 &&& (65535 : Int32)).toUInt32.toUInt16.toUInt32.toInt32))) := (by rw [Int32.lt_iff_toInt_lt]; have : ((65535 : Int32)).toInt = 65535 := (by decide); have := rng32 (nar .char ((p4 &&& (65535 : Int32)).toUInt32.toUInt16.toUInt32.toInt32)); have := rng32 ((p4 &&& (65535 : Int32)).toUInt32.toUInt16.toUInt32.toInt32); have := rng32 (p4 &&& (65535 : Int32)); have := rng32 p4; have := own_mask p4 (65535 : Int32) 16 (by decide) (by decide) 65536 (by decide); have := c_i2c (p4 &&& (65535 : Int32)); have := own_c_nar_char ((p4 &&& (65535 : Int32)).toUInt32.toUInt16.toUInt32.toInt32); omega)
  have ne_b5_b6 := Nat.ne_of_lt (Nat.lt_of_lt_of_le Fn5_value.lt (Nat.le_of_eq g6.symm))
  have Fl22 := ((((Fn5_coder.ext E6).other W9 (Or.inl ne_b5_b6)).other W12 (Or.inl ne_b5_b6)).other W15 (Or.inl ne_b5_b6))
  have Ex23 := ((((A5.ext E6).wr W9).wr W12).wr W15)
  have g_b5 : n0 ≤ b5 := Nat.le_trans Z0 (Nat.le_of_eq g5.symm)
  have Fl24 := ((((Fn5_value.ext E6).other W9 (Or.inl ne_b5_b6)).other W12 (Or.inl ne_b5_b6)).other W15 (Or.inl ne_b5_b6))
  have z5 := Nat.le_trans Z0 (Nat.le_trans (Nat.le_trans (Nat.le_trans (Nat.le_trans s0 s1) s2) s3) s4)
  obtain ⟨_, T25, L25, X25, hQ25, st25⟩ := own_special X15 hx hZ hown (y := y_9) (a := b5) (w_5 hw) (w_6 hw) (w_3 hw) (w_7 hw) (rm53 l Z a0 hw [] b5 b6 (nar .char x1) (nar .char x2) (nar .char x3) k6 si2 h15 n0 z5 Vs15 S8_COMPACT_STRINGS Od5 nc6 S9__assertionsDisabled S10_HI_BYTE_SHIFT S11_LO_BYTE_SHIFT (by rw [ex1]; exact cd16) (by rw [ex1]; exact cd17) (by rw [ex2]; exact cd18) (by rw [ex2]; exact cd19) (by rw [ex3]; exact cd20) (by rw [ex3]; exact cd21) Fl22 Ex23 g_b5 Fl24) e15 (Ls := #[.val (.int p1), .val (.int p2), .val (.int p3), .val (.int p4), .val (.int p5), .val (.int p6), .val (.int x1), .val (.int x2), .val (.int x3), .val (.int x4), .val (.int 3), .unset, .unset, .unset]) (by rw [hml]; rfl) (argsL := [(.ref b6)]) (rest := [(.ref b5)]) (lenOf pd_8 rfl) (hb hby at_121) (W := 1)
  obtain ⟨b25_b16_b17_m0, k25_k16_k17_kk1, u25_u16_u17_uu2, rfl, Nq25, K25, o25_0, o25_1, o25_2, o25_3, o25_4, o25_5⟩ := hQ25
  have N25 := Fr.app N15 Nq25
  have s5 := K25.1
  obtain ⟨x26, ex26⟩ : ∃ z, z = (if (255 : Int32) < (nar .char x1) then (6 : Int32) else (if (255 : Int32) < (nar .char x2) then (6 : Int32) else (if (255 : Int32) < (nar .char x3) then (6 : Int32) else (3 : Int32)))) := ⟨_, rfl⟩
  have o25_5' : Arv Z T25.heap b25_b16_b17_m0 k25_k16_k17_kk1 .byte x26 u25_u16_u17_uu2 (.int 0) := by rw [ex26]; exact o25_5
  obtain ⟨x27, ex27⟩ : ∃ z, z = ((p6.toUInt32 >>> ((1 : Int32) &&& 31).toUInt32).toInt32) := ⟨_, rfl⟩
  obtain ⟨x28, ex28⟩ : ∃ z, z = (x27 &&& (65535 : Int32)) := ⟨_, rfl⟩
  obtain ⟨x29, ex29⟩ : ∃ z, z = (x28.toUInt32.toUInt16.toUInt32.toInt32) := ⟨_, rfl⟩
  have Od6 : Old Z n0 T25.heap := Od5.keep K25 (allS g_b5 all0)
  have z6 := Nat.le_trans Z0 (Nat.le_trans (Nat.le_trans (Nat.le_trans (Nat.le_trans (Nat.le_trans s0 s1) s2) s3) s4) s5)
  obtain ⟨_, T30, L30, X30, hQ30, st30⟩ := own_callS X25 hx hZ hown (y := y_14) (w_53 hw) (w_54 hw) (w_3 hw) (w_55 hw) (rm18 l Z a0 hw [] x29 si2 T25.heap n0 z6 S8_COMPACT_STRINGS Od6 nc6 S9__assertionsDisabled S10_HI_BYTE_SHIFT S11_LO_BYTE_SHIFT) rfl (Ls := #[.val (.int p1), .val (.int p2), .val (.int p3), .val (.int p4), .val (.int p5), .val (.int p6), .val (.int x1), .val (.int x2), .val (.int x3), .val (.int x4), .val (.int 3), .val (.ref b5), .unset, .unset]) (by rw [hml]; rfl) (argsL := [(.int x29)]) (rest := []) (lenOf pd_12 rfl) (hb hby at_183) (W := 0)
  obtain ⟨b30_m0, b30_m1, k30_kk2, u30_uu3, rfl, Nq30, K30, o30_0, o30_1, o30_2, o30_3, o30_4, o30_5, o30_6, o30_7⟩ := hQ30
  have N30 := Fr.app N25 Nq30
  have s6 := K30.1
  obtain ⟨x31, ex31⟩ : ∃ z, z = (if (255 : Int32) < x29 then (1 : Int32) else (0 : Int32)) := ⟨_, rfl⟩
  have o30_2' : Fld Z T30.heap b30_m0 "java/lang/String" "coder" "B" (.int x31) := by rw [ex31]; exact o30_2
  obtain ⟨x32, ex32⟩ : ∃ z, z = (if (255 : Int32) < x29 then (2 : Int32) else (1 : Int32)) := ⟨_, rfl⟩
  have o30_6' : Arv Z T30.heap b30_m1 k30_kk2 .byte x32 u30_uu3 (.int 0) := by rw [ex32]; exact o30_6
  have Ex33 := (o25_0.keep K30)
  have Fl34 := (o25_2.keep K30 nin0)
  have Va35 := (o25_5'.keep K30 nin0)
  have cd36 : ¬ ((if (255 : Int32) < (nar .char ((p2 &&& (65535 : Int32)).toUInt32.toUInt16.toUInt32.toInt32)) then (6 : Int32) else (if (255 : Int32) < (nar .char ((p3 &&& (65535 : Int32)).toUInt32.toUInt16.toUInt32.toInt32)) then (6 : Int32) else (if (255 : Int32) < (nar .char ((p4 &&& (65535 : Int32)).toUInt32.toUInt16.toUInt32.toInt32)) then (6 : Int32) else (3 : Int32)))) = (0 : Int32)) := (by by_cases hi0 : (255 : Int32) < (nar .char ((p2 &&& (65535 : Int32)).toUInt32.toUInt16.toUInt32.toInt32)); exact (by simp only [if_pos hi0]; decide); exact (by simp only [if_neg hi0]; by_cases hi1 : (255 : Int32) < (nar .char ((p3 &&& (65535 : Int32)).toUInt32.toUInt16.toUInt32.toInt32)); exact (by simp only [if_pos hi1]; decide); exact (by simp only [if_neg hi1]; by_cases hi2 : (255 : Int32) < (nar .char ((p4 &&& (65535 : Int32)).toUInt32.toUInt16.toUInt32.toInt32)); exact (by simp only [if_pos hi2]; decide); exact (by simp only [if_neg hi2]; decide))))
  have z7 := Nat.le_trans Z0 (Nat.le_trans (Nat.le_trans (Nat.le_trans (Nat.le_trans (Nat.le_trans (Nat.le_trans s0 s1) s2) s3) s4) s5) s6)
  obtain ⟨_, T37, L37, X37, hQ37, st37⟩ := own_callS X30 hx hZ hown (y := y_16) (w_34 hw) (w_35 hw) (w_36 hw) (w_37 hw) (rm20 l Z a0 hw [] b5 b30_m0 b25_b16_b17_m0 u25_u16_u17_uu2 k25_k16_k17_kk1 x26 T30.heap n0 z7 Ex33 Fl34 Va35 (by rw [ex26, ex3, ex2, ex1]; exact cd36)) rfl (Ls := #[.val (.int p1), .val (.int p2), .val (.int p3), .val (.int p4), .val (.int p5), .val (.int p6), .val (.int x1), .val (.int x2), .val (.int x3), .val (.int x4), .val (.int 3), .val (.ref b5), .val (.ref b30_m0), .unset]) (by rw [hml]; rfl) (argsL := [(.ref b5), (.ref b30_m0)]) (rest := []) (lenOf pd_14 rfl) (hb hby at_192) (W := 0)
  obtain ⟨rfl, Nq37, e37⟩ := hQ37
  have N37 := Fr.app N30 Nq37
  have Od7 : Old Z n0 T30.heap := Od6.keep K30 all0
  have Fl38 := (o25_1.keep K30 nin0)
  obtain ⟨_, T39, L39, X39, hQ39, st39⟩ := own_virtual X37 hx hZ hown (y := y_18) (z := y_18) Ex33 (w_43 hw) (w_44 hw) (notFace_of_selects (args := #[]) (mvT hZ (w_46 hw))) (w_46 hw) (w_45 hw) (w_3 hw) (w_47 hw) (rm22 l Z a0 hw [] b5 b25_b16_b17_m0 u25_u16_u17_uu2 k25_k16_k17_kk1 x26 si2 (nar .byte (nar .byte (((((3 : Int32) - (if (255 : Int32) < (nar .char x1) then (6 : Int32) else (if (255 : Int32) < (nar .char x2) then (6 : Int32) else (if (255 : Int32) < (nar .char x3) then (6 : Int32) else (3 : Int32))))).toUInt32 >>> ((31 : Int32) &&& 31).toUInt32).toInt32).toInt8.toInt32))) T30.heap n0 z7 Fl34 Va35 Ex33 S8_COMPACT_STRINGS Od7 nc6 Fl38) e37 (Ls := #[.val (.int p1), .val (.int p2), .val (.int p3), .val (.int p4), .val (.int p5), .val (.int p6), .val (.int x1), .val (.int x2), .val (.int x3), .val (.int x4), .val (.int 3), .val (.ref b5), .val (.ref b30_m0), .val (.ref b5)]) (by rw [hml]; rfl) (argsL := []) (rest := []) (lenOf pd_16 rfl) (hb hby at_206) (W := 0)
  obtain ⟨rfl, Nq39, e39⟩ := hQ39
  have N39 := Fr.app N37 Nq39
  obtain ⟨x40, ex40⟩ : ∃ z, z = (x26 >>> ((nar .byte (nar .byte (nar .byte (((((3 : Int32) - (if (255 : Int32) < (nar .char x1) then (6 : Int32) else (if (255 : Int32) < (nar .char x2) then (6 : Int32) else (if (255 : Int32) < (nar .char x3) then (6 : Int32) else (3 : Int32))))).toUInt32 >>> ((31 : Int32) &&& 31).toUInt32).toInt32).toInt8.toInt32)))) &&& 31)) := ⟨_, rfl⟩
  have cd41 : ((if (255 : Int32) < (nar .char ((p2 &&& (65535 : Int32)).toUInt32.toUInt16.toUInt32.toInt32)) then (6 : Int32) else (if (255 : Int32) < (nar .char ((p3 &&& (65535 : Int32)).toUInt32.toUInt16.toUInt32.toInt32)) then (6 : Int32) else (if (255 : Int32) < (nar .char ((p4 &&& (65535 : Int32)).toUInt32.toUInt16.toUInt32.toInt32)) then (6 : Int32) else (3 : Int32)))) >>> ((nar .byte (nar .byte (nar .byte (((((3 : Int32) - (if (255 : Int32) < (nar .char ((p2 &&& (65535 : Int32)).toUInt32.toUInt16.toUInt32.toInt32)) then (6 : Int32) else (if (255 : Int32) < (nar .char ((p3 &&& (65535 : Int32)).toUInt32.toUInt16.toUInt32.toInt32)) then (6 : Int32) else (if (255 : Int32) < (nar .char ((p4 &&& (65535 : Int32)).toUInt32.toUInt16.toUInt32.toInt32)) then (6 : Int32) else (3 : Int32))))).toUInt32 >>> ((31 : Int32) &&& 31).toUInt32).toInt32).toInt8.toInt32)))) &&& 31)) = (3 : Int32) := (by by_cases hi0 : (255 : Int32) < (nar .char ((p2 &&& (65535 : Int32)).toUInt32.toUInt16.toUInt32.toInt32)); exact (by simp only [if_pos hi0]; decide); exact (by simp only [if_neg hi0]; by_cases hi1 : (255 : Int32) < (nar .char ((p3 &&& (65535 : Int32)).toUInt32.toUInt16.toUInt32.toInt32)); exact (by simp only [if_pos hi1]; decide); exact (by simp only [if_neg hi1]; by_cases hi2 : (255 : Int32) < (nar .char ((p4 &&& (65535 : Int32)).toUInt32.toUInt16.toUInt32.toInt32)); exact (by simp only [if_pos hi2]; decide); exact (by simp only [if_neg hi2]; decide))))
  refine ⟨T39, _, _, _, (some (.int 1)), X39, nofun, by decide, by decide, ?_, fun fs hr => ?_⟩
  · show Q0 n0 _ T39.heap _
    rw [e39]
    subst ex40
    subst ex32
    subst ex31
    subst ex29
    subst ex28
    subst ex27
    subst ex26
    subst ex4
    subst ex3
    subst ex2
    subst ex1
    exact ⟨rfl, N39⟩
  · refine XS.iloadN X0.here hx rfl (hb hby at_0) rfl ?_
    refine X0.ldcInt hx hown (mvT hZ (w_0 hw)) (g := (mkF m 1 #[.val (.int p1), .val (.int p2), .val (.int p3), .val (.int p4), .val (.int p5), .val (.int p6), .unset, .unset, .unset, .unset, .unset, .unset, .unset, .unset] [(.int p2)])) rfl (hb hby at_1) _ ?_
    refine XS.iand X0.here hx rfl (hb hby at_3) rfl ?_
    refine XS.i2c X0.here hx rfl (hb hby at_4) rfl ?_
    show Steps p.tables e below (s₁.setTop (mkF m 5 #[.val (.int p1), .val (.int p2), .val (.int p3), .val (.int p4), .val (.int p5), .val (.int p6), .unset, .unset, .unset, .unset, .unset, .unset, .unset, .unset] [(.int ((p2 &&& (65535 : Int32)).toUInt32.toUInt16.toUInt32.toInt32))])) _
    rw [← ex1]
    refine XS.istore X0.here hx rfl (hb hby at_5) rfl (l' := #[.val (.int p1), .val (.int p2), .val (.int p3), .val (.int p4), .val (.int p5), .val (.int p6), .val (.int x1), .unset, .unset, .unset, .unset, .unset, .unset, .unset]) rfl ?_
    refine XS.iloadN X0.here hx rfl (hb hby at_7) rfl ?_
    refine X0.ldcInt hx hown (mvT hZ (w_0 hw)) (g := (mkF m 8 #[.val (.int p1), .val (.int p2), .val (.int p3), .val (.int p4), .val (.int p5), .val (.int p6), .val (.int x1), .unset, .unset, .unset, .unset, .unset, .unset, .unset] [(.int p3)])) rfl (hb hby at_8) _ ?_
    refine XS.iand X0.here hx rfl (hb hby at_10) rfl ?_
    refine XS.i2c X0.here hx rfl (hb hby at_11) rfl ?_
    show Steps p.tables e below (s₁.setTop (mkF m 12 #[.val (.int p1), .val (.int p2), .val (.int p3), .val (.int p4), .val (.int p5), .val (.int p6), .val (.int x1), .unset, .unset, .unset, .unset, .unset, .unset, .unset] [(.int ((p3 &&& (65535 : Int32)).toUInt32.toUInt16.toUInt32.toInt32))])) _
    rw [← ex2]
    refine XS.istore X0.here hx rfl (hb hby at_12) rfl (l' := #[.val (.int p1), .val (.int p2), .val (.int p3), .val (.int p4), .val (.int p5), .val (.int p6), .val (.int x1), .val (.int x2), .unset, .unset, .unset, .unset, .unset, .unset]) rfl ?_
    refine XS.iloadN X0.here hx rfl (hb hby at_14) rfl ?_
    refine X0.ldcInt hx hown (mvT hZ (w_0 hw)) (g := (mkF m 15 #[.val (.int p1), .val (.int p2), .val (.int p3), .val (.int p4), .val (.int p5), .val (.int p6), .val (.int x1), .val (.int x2), .unset, .unset, .unset, .unset, .unset, .unset] [(.int p4)])) rfl (hb hby at_15) _ ?_
    refine XS.iand X0.here hx rfl (hb hby at_17) rfl ?_
    refine XS.i2c X0.here hx rfl (hb hby at_18) rfl ?_
    show Steps p.tables e below (s₁.setTop (mkF m 19 #[.val (.int p1), .val (.int p2), .val (.int p3), .val (.int p4), .val (.int p5), .val (.int p6), .val (.int x1), .val (.int x2), .unset, .unset, .unset, .unset, .unset, .unset] [(.int ((p4 &&& (65535 : Int32)).toUInt32.toUInt16.toUInt32.toInt32))])) _
    rw [← ex3]
    refine XS.istore X0.here hx rfl (hb hby at_19) rfl (l' := #[.val (.int p1), .val (.int p2), .val (.int p3), .val (.int p4), .val (.int p5), .val (.int p6), .val (.int x1), .val (.int x2), .val (.int x3), .unset, .unset, .unset, .unset, .unset]) rfl ?_
    refine XS.iload X0.here hx rfl (hb hby at_21) rfl ?_
    refine X0.ldcInt hx hown (mvT hZ (w_0 hw)) (g := (mkF m 23 #[.val (.int p1), .val (.int p2), .val (.int p3), .val (.int p4), .val (.int p5), .val (.int p6), .val (.int x1), .val (.int x2), .val (.int x3), .unset, .unset, .unset, .unset, .unset] [(.int p5)])) rfl (hb hby at_23) _ ?_
    refine XS.iand X0.here hx rfl (hb hby at_25) rfl ?_
    refine XS.i2c X0.here hx rfl (hb hby at_26) rfl ?_
    show Steps p.tables e below (s₁.setTop (mkF m 27 #[.val (.int p1), .val (.int p2), .val (.int p3), .val (.int p4), .val (.int p5), .val (.int p6), .val (.int x1), .val (.int x2), .val (.int x3), .unset, .unset, .unset, .unset, .unset] [(.int ((p5 &&& (65535 : Int32)).toUInt32.toUInt16.toUInt32.toInt32))])) _
    rw [← ex4]
    refine XS.istore X0.here hx rfl (hb hby at_27) rfl (l' := #[.val (.int p1), .val (.int p2), .val (.int p3), .val (.int p4), .val (.int p5), .val (.int p6), .val (.int x1), .val (.int x2), .val (.int x3), .val (.int x4), .unset, .unset, .unset, .unset]) rfl ?_
    refine XS.iloadN X0.here hx rfl (hb hby at_29) rfl ?_
    refine XS.iconst X0.here hx rfl (hb hby at_30) ?_
    refine XS.iand X0.here hx rfl (hb hby at_31) rfl ?_
    show Steps p.tables e below (s₁.setTop (mkF m 32 #[.val (.int p1), .val (.int p2), .val (.int p3), .val (.int p4), .val (.int p5), .val (.int p6), .val (.int x1), .val (.int x2), .val (.int x3), .val (.int x4), .unset, .unset, .unset, .unset] [(.int (p1 &&& (3 : Int32)))])) _
    rw [hk]
    refine XS.iconst X0.here hx rfl (hb hby at_32) ?_
    refine XS.iadd X0.here hx rfl (hb hby at_33) rfl ?_
    refine XS.istore X0.here hx rfl (hb hby at_34) rfl (l' := #[.val (.int p1), .val (.int p2), .val (.int p3), .val (.int p4), .val (.int p5), .val (.int p6), .val (.int x1), .val (.int x2), .val (.int x3), .val (.int x4), .val (.int 3), .unset, .unset, .unset]) rfl ?_
    refine XS.iload X0.here hx rfl (hb hby at_36) rfl ?_
    refine XS.iconst X0.here hx rfl (hb hby at_38) ?_
    refine XS.icmpYes X0.here hx rfl (pc0 := 39) (pc' := 62) rfl (hb hby at_39) rfl (feq ((by decide : ¬ ((3 : Int32) = (1 : Int32))) : ¬ ((3 : Int32) = (1 : Int32)))).2 (by decide) (by decide) ?_
    refine XS.iload X0.here hx rfl (hb hby at_62) rfl ?_
    refine XS.iconst X0.here hx rfl (hb hby at_64) ?_
    refine XS.icmpYes X0.here hx rfl (pc0 := 65) (pc' := 93) rfl (hb hby at_65) rfl (feq ((by decide : ¬ ((3 : Int32) = (2 : Int32))) : ¬ ((3 : Int32) = (2 : Int32)))).2 (by decide) (by decide) ?_
    refine XS.iload X0.here hx rfl (hb hby at_93) rfl ?_
    refine XS.iconst X0.here hx rfl (hb hby at_95) ?_
    show Steps p.tables e below (s₁.setTop (mkF m 96 #[.val (.int p1), .val (.int p2), .val (.int p3), .val (.int p4), .val (.int p5), .val (.int p6), .val (.int x1), .val (.int x2), .val (.int x3), .val (.int x4), .val (.int 3), .unset, .unset, .unset] [(.int 3), (.int 3)])) _
    refine XS.icmpNo X0.here hx rfl (hb hby at_96) rfl (teq ((by decide : (3 : Int32) = (3 : Int32)) : (3 : Int32) = (3 : Int32))).2 ?_
    refine st5 _ ?_
    refine XS.dup X5.here hx rfl (hb hby at_102) rfl rfl ?_
    refine XS.iconst X5.here hx rfl (hb hby at_103) ?_
    refine st6 _ ?_
    refine XS.dup X6.here hx rfl (hb hby at_106) rfl rfl ?_
    refine XS.iconst X6.here hx rfl (hb hby at_107) ?_
    refine XS.iload X6.here hx rfl (hb hby at_108) rfl ?_
    refine st9 _ ?_
    refine XS.dup X9.here hx rfl (hb hby at_111) rfl rfl ?_
    refine XS.iconst X9.here hx rfl (hb hby at_112) ?_
    refine XS.iload X9.here hx rfl (hb hby at_113) rfl ?_
    show Steps p.tables e below (T9.setTop (mkF m 115 #[.val (.int p1), .val (.int p2), .val (.int p3), .val (.int p4), .val (.int p5), .val (.int p6), .val (.int x1), .val (.int x2), .val (.int x3), .val (.int x4), .val (.int 3), .unset, .unset, .unset] [(.int x2), (.int 1), (.ref b6), (.ref b6), (.ref b5), (.ref b5)])) _
    refine st12 _ ?_
    refine XS.dup X12.here hx rfl (hb hby at_116) rfl rfl ?_
    refine XS.iconst X12.here hx rfl (hb hby at_117) ?_
    refine XS.iload X12.here hx rfl (hb hby at_118) rfl ?_
    refine st15 _ ?_
    refine st25 _ ?_
    refine XS.astore X25.here hx rfl (hb hby at_124) rfl rfl (l' := #[.val (.int p1), .val (.int p2), .val (.int p3), .val (.int p4), .val (.int p5), .val (.int p6), .val (.int x1), .val (.int x2), .val (.int x3), .val (.int x4), .val (.int 3), .val (.ref b5), .unset, .unset]) rfl ?_
    refine XS.goto X25.here hx rfl (pc0 := 126) (pc' := 161) rfl (hb hby at_126) (by decide) (by decide) ?_
    refine XS.iload X25.here hx rfl (hb hby at_161) rfl ?_
    refine XS.iconst X25.here hx rfl (hb hby at_163) ?_
    refine XS.iand X25.here hx rfl (hb hby at_164) rfl ?_
    refine XS.ifYes X25.here hx rfl (pc0 := 165) (pc' := 175) rfl (hb hby at_165) rfl ((if0 _ _).trans (teq (cc1 : (p6 &&& (1 : Int32)) = (0 : Int32))).1) (by decide) (by decide) ?_
    show Steps p.tables e below (T25.setTop (mkF m 175 #[.val (.int p1), .val (.int p2), .val (.int p3), .val (.int p4), .val (.int p5), .val (.int p6), .val (.int x1), .val (.int x2), .val (.int x3), .val (.int x4), .val (.int 3), .val (.ref b5), .unset, .unset] [])) _
    refine XS.iload X25.here hx rfl (hb hby at_175) rfl ?_
    refine XS.iconst X25.here hx rfl (hb hby at_177) ?_
    refine XS.iushr X25.here hx rfl (hb hby at_178) rfl ?_
    show Steps p.tables e below (T25.setTop (mkF m 179 #[.val (.int p1), .val (.int p2), .val (.int p3), .val (.int p4), .val (.int p5), .val (.int p6), .val (.int x1), .val (.int x2), .val (.int x3), .val (.int x4), .val (.int 3), .val (.ref b5), .unset, .unset] [(.int ((p6.toUInt32 >>> ((1 : Int32) &&& 31).toUInt32).toInt32))])) _
    rw [← ex27]
    refine X25.ldcInt hx hown (mvT hZ (w_0 hw)) (g := (mkF m 179 #[.val (.int p1), .val (.int p2), .val (.int p3), .val (.int p4), .val (.int p5), .val (.int p6), .val (.int x1), .val (.int x2), .val (.int x3), .val (.int x4), .val (.int 3), .val (.ref b5), .unset, .unset] [(.int x27)])) rfl (hb hby at_179) _ ?_
    refine XS.iand X25.here hx rfl (hb hby at_181) rfl ?_
    show Steps p.tables e below (T25.setTop (mkF m 182 #[.val (.int p1), .val (.int p2), .val (.int p3), .val (.int p4), .val (.int p5), .val (.int p6), .val (.int x1), .val (.int x2), .val (.int x3), .val (.int x4), .val (.int 3), .val (.ref b5), .unset, .unset] [(.int (x27 &&& (65535 : Int32)))])) _
    rw [← ex28]
    refine XS.i2c X25.here hx rfl (hb hby at_182) rfl ?_
    show Steps p.tables e below (T25.setTop (mkF m 183 #[.val (.int p1), .val (.int p2), .val (.int p3), .val (.int p4), .val (.int p5), .val (.int p6), .val (.int x1), .val (.int x2), .val (.int x3), .val (.int x4), .val (.int 3), .val (.ref b5), .unset, .unset] [(.int (x28.toUInt32.toUInt16.toUInt32.toInt32))])) _
    rw [← ex29]
    refine st30 _ ?_
    refine XS.astore X30.here hx rfl (hb hby at_186) rfl rfl (l' := #[.val (.int p1), .val (.int p2), .val (.int p3), .val (.int p4), .val (.int p5), .val (.int p6), .val (.int x1), .val (.int x2), .val (.int x3), .val (.int x4), .val (.int 3), .val (.ref b5), .val (.ref b30_m0), .unset]) rfl ?_
    refine XS.aload X30.here hx rfl (hb hby at_188) rfl rfl ?_
    refine XS.aload X30.here hx rfl (hb hby at_190) rfl rfl ?_
    refine st37 _ ?_
    refine XS.astore X37.here hx rfl (hb hby at_195) rfl rfl (l' := #[.val (.int p1), .val (.int p2), .val (.int p3), .val (.int p4), .val (.int p5), .val (.int p6), .val (.int x1), .val (.int x2), .val (.int x3), .val (.int x4), .val (.int 3), .val (.ref b5), .val (.ref b30_m0), .val (.ref b5)]) rfl ?_
    refine XS.aload X37.here hx rfl (hb hby at_197) rfl rfl ?_
    refine XS.aload X37.here hx rfl (hb hby at_199) rfl rfl ?_
    refine Jvm.RoadKit.acmp (g := (mkF m 201 #[.val (.int p1), .val (.int p2), .val (.int p3), .val (.int p4), .val (.int p5), .val (.int p6), .val (.int x1), .val (.int x2), .val (.int x3), .val (.int x4), .val (.int 3), .val (.ref b5), .val (.ref b30_m0), .val (.ref b5)] [(.ref b5), (.ref b5)])) X37 hx rfl rfl rfl (pc0 := 201) (pc' := 204) (same := true) rfl (hb hby at_201) rfl (decide_eq_true rfl) (by decide) (by decide) ?_
    refine XS.aload X37.here hx rfl (hb hby at_204) rfl rfl ?_
    refine st39 _ ?_
    show Steps p.tables e below (T39.setTop (mkF m 209 #[.val (.int p1), .val (.int p2), .val (.int p3), .val (.int p4), .val (.int p5), .val (.int p6), .val (.int x1), .val (.int x2), .val (.int x3), .val (.int x4), .val (.int 3), .val (.ref b5), .val (.ref b30_m0), .val (.ref b5)] [(.int (x26 >>> ((nar .byte (nar .byte (nar .byte (((((3 : Int32) - (if (255 : Int32) < (nar .char x1) then (6 : Int32) else (if (255 : Int32) < (nar .char x2) then (6 : Int32) else (if (255 : Int32) < (nar .char x3) then (6 : Int32) else (3 : Int32))))).toUInt32 >>> ((31 : Int32) &&& 31).toUInt32).toInt32).toInt8.toInt32)))) &&& 31)))])) _
    rw [← ex40]
    refine XS.iload X39.here hx rfl (hb hby at_209) rfl ?_
    refine XS.icmpNo X39.here hx rfl (hb hby at_211) rfl (teq ((by rw [ex40, ex26, ex3, ex2, ex1]; exact cd41) : x40 = (3 : Int32))).2 ?_
    refine XS.iconst X39.here hx rfl (hb hby at_214) ?_
    refine XS.goto X39.here hx rfl (pc0 := 215) (pc' := 219) rfl (hb hby at_215) (by decide) (by decide) ?_
    exact retN X39 hx (t := .boolean) hret (by simp) (hb hby at_219) hr
theorem rm0_5 (l : Launch) (Z : State) (a0 : Array Value) (hw : ∀ d ∈ tables_1, d.before a0 Z = true) (ws : List Jvm.Cond) (p1 : Int32) (p2 : Int32) (p3 : Int32) (p4 : Int32) (p5 : Int32) (p6 : Int32) (sr1 : Value) (si2 : Int32) (h0 : Heap) (n0 : Nat) (Z0 : n0 ≤ h0.size) (Od0 : Old Z n0 h0) (R_sr1 : sr1.isRef = true) (nc6 : ¬ (si2 = (0 : Int32))) (S7_SIOOBE_FORMATTER : Sta Z Z.heap "jdk/internal/util/Preconditions" "SIOOBE_FORMATTER" "Ljava/util/function/BiFunction;" sr1) (S8_COMPACT_STRINGS : Sta Z Z.heap "java/lang/String" "COMPACT_STRINGS" "Z" (.int si2)) (S9__assertionsDisabled : Sta Z Z.heap "java/lang/StringUTF16" "$assertionsDisabled" "Z" (.int 1)) (S10_HI_BYTE_SHIFT : Sta Z Z.heap "java/lang/StringUTF16" "HI_BYTE_SHIFT" "I" (.int 0)) (S11_LO_BYTE_SHIFT : Sta Z Z.heap "java/lang/StringUTF16" "LO_BYTE_SHIFT" "I" (.int 8)) (hk : (p1 &&& (3 : Int32)) = (2 : Int32)) (cc1 : ¬ ((p6 &&& (1 : Int32)) = (0 : Int32))) :
    OwnMetW l Z x code maxLocals ret ws room_1 #[(.int p1), (.int p2), (.int p3), (.int p4), (.int p5), (.int p6)] h0 (Q0 n0) := by
  refine own_bodyW (plainFor_of_name pn_4) (ef0 p1 p2 p3 p4 p5 p6) ?_
  intro p e s m below meth c s₁ hx hby hml hown hnm hret hZ hs0 hIB X0 e0
  have N0 := Fr.nil n0
  obtain ⟨x1, ex1⟩ : ∃ z, z = ((p2 &&& (65535 : Int32)).toUInt32.toUInt16.toUInt32.toInt32) := ⟨_, rfl⟩
  obtain ⟨x2, ex2⟩ : ∃ z, z = ((p3 &&& (65535 : Int32)).toUInt32.toUInt16.toUInt32.toInt32) := ⟨_, rfl⟩
  obtain ⟨x3, ex3⟩ : ∃ z, z = ((p4 &&& (65535 : Int32)).toUInt32.toUInt16.toUInt32.toInt32) := ⟨_, rfl⟩
  obtain ⟨x4, ex4⟩ : ∃ z, z = ((p5 &&& (65535 : Int32)).toUInt32.toUInt16.toUInt32.toInt32) := ⟨_, rfl⟩
  obtain ⟨T5, h5, X5, e5, E5, A5, D5, -, st5⟩ := newO X0 hx hZ hown (w_1 hw) (w_2 hw) (w_3 hw) e0 (g := (mkF m 99 #[.val (.int p1), .val (.int p2), .val (.int p3), .val (.int p4), .val (.int p5), .val (.int p6), .val (.int x1), .val (.int x2), .val (.int x3), .val (.int x4), .val (.int 3), .unset, .unset, .unset] [])) rfl (hb hby at_99) (by decide) (by decide)
  obtain ⟨b5, g5⟩ : ∃ z, z = h0.size := ⟨_, rfl⟩
  rw [← g5] at A5 D5 st5
  have s0 := E5.1
  have Fn5_coder : Fld Z h5 b5 "java/lang/String" "coder" "B" (.int 0) := D5 (Or.inr (w_28 hw)) (ty := .byte) (by decide)
  have Fn5_value : Fld Z h5 b5 "java/lang/String" "value" "[B" .null := D5 (Or.inr (w_30 hw)) (ty := (.array .byte)) (by decide)
  obtain ⟨T6, h6, k6, X6, e6, E6, A6, B6, st6⟩ := newPE (aty := .char) X5 hx hZ (w_4 hw) e5 (g := (mkF m 104 #[.val (.int p1), .val (.int p2), .val (.int p3), .val (.int p4), .val (.int p5), .val (.int p6), .val (.int x1), .val (.int x2), .val (.int x3), .val (.int x4), .val (.int 3), .unset, .unset, .unset] [(.int 3), (.ref b5), (.ref b5)])) rfl (hb hby at_104) rfl (by decide) (cap := 3) (by decide) (by decide) (by decide) (by decide) (ad := "[C") (by decide)
  obtain ⟨b6, g6⟩ : ∃ z, z = h5.size := ⟨_, rfl⟩
  rw [← g6] at A6 B6 st6
  have s1 := E6.1
  have Vn6 : Arv Z h6 b6 k6 .char (3 : Int32) [(.int 0), (.int 0), (.int 0)] (.int 0) := (Arv.new A6 (by decide)).pad (pad_rep [] (.int 0) 3)
  obtain ⟨cl7, Ar7, q7, S7, M7, Hs7, G7⟩ := id Vn6
  have hin8 : ¬ ((0 : Int32) < 0 ∨ cl7.slots.size ≤ ((0 : Int32)).toNatClampNeg) := inb_of S7 ⟨(by decide : ¬ ((0 : Int32) < (0 : Int32))), (by decide : (0 : Int32) < (3 : Int32))⟩
  obtain ⟨T9, h9, X9, e9, W9, st9⟩ := stC X6 hx hZ e6 Ar7 (j := (0 : Int32)) hin8 (g := (mkF m 110 #[.val (.int p1), .val (.int p2), .val (.int p3), .val (.int p4), .val (.int p5), .val (.int p6), .val (.int x1), .val (.int x2), .val (.int x3), .val (.int x4), .val (.int 3), .unset, .unset, .unset] [(.int x1), (.int 0), (.ref b6), (.ref b6), (.ref b5), (.ref b5)])) rfl rfl (hb hby at_110)
  have s2 := (Keep.of_wr W9).1
  have z1 := Nat.le_trans Z0 s0
  have g_b6 : n0 ≤ b6 := Nat.le_trans z1 (Nat.le_of_eq g6.symm)
  have N9 := Fr.snoc X9 N0 g_b6
  have Vs9 : Arv Z h9 b6 k6 .char (3 : Int32) [(.int (nar .char x1)), (.int 0), (.int 0)] (.int 0) := Arv.set Ar7 q7 S7 M7 Hs7 G7 (fits_nar_char _) W9 0 rfl (Nat.le_of_ble_eq_true rfl)
  obtain ⟨cl10, Ar10, q10, S10, M10, Hs10, G10⟩ := id Vs9
  have hin11 : ¬ ((1 : Int32) < 0 ∨ cl10.slots.size ≤ ((1 : Int32)).toNatClampNeg) := inb_of S10 ⟨(by decide : ¬ ((1 : Int32) < (0 : Int32))), (by decide : (1 : Int32) < (3 : Int32))⟩
  obtain ⟨T12, h12, X12, e12, W12, st12⟩ := stC X9 hx hZ e9 Ar10 (j := (1 : Int32)) hin11 (g := (mkF m 115 #[.val (.int p1), .val (.int p2), .val (.int p3), .val (.int p4), .val (.int p5), .val (.int p6), .val (.int x1), .val (.int x2), .val (.int x3), .val (.int x4), .val (.int 3), .unset, .unset, .unset] [(.int x2), (.int 1), (.ref b6), (.ref b6), (.ref b5), (.ref b5)])) rfl rfl (hb hby at_115)
  have s3 := (Keep.of_wr W12).1
  have N12 := Fr.snoc X12 N9 g_b6
  have Vs12 : Arv Z h12 b6 k6 .char (3 : Int32) [(.int (nar .char x1)), (.int (nar .char x2)), (.int 0)] (.int 0) := Arv.set Ar10 q10 S10 M10 Hs10 G10 (fits_nar_char _) W12 1 rfl (Nat.le_of_ble_eq_true rfl)
  obtain ⟨cl13, Ar13, q13, S13, M13, Hs13, G13⟩ := id Vs12
  have hin14 : ¬ ((2 : Int32) < 0 ∨ cl13.slots.size ≤ ((2 : Int32)).toNatClampNeg) := inb_of S13 ⟨(by decide : ¬ ((2 : Int32) < (0 : Int32))), (by decide : (2 : Int32) < (3 : Int32))⟩
  obtain ⟨T15, h15, X15, e15, W15, st15⟩ := stC X12 hx hZ e12 Ar13 (j := (2 : Int32)) hin14 (g := (mkF m 120 #[.val (.int p1), .val (.int p2), .val (.int p3), .val (.int p4), .val (.int p5), .val (.int p6), .val (.int x1), .val (.int x2), .val (.int x3), .val (.int x4), .val (.int 3), .unset, .unset, .unset] [(.int x3), (.int 2), (.ref b6), (.ref b6), (.ref b5), (.ref b5)])) rfl rfl (hb hby at_120)
  have s4 := (Keep.of_wr W15).1
  have N15 := Fr.snoc X15 N12 g_b6
  have Vs15 : Arv Z h15 b6 k6 .char (3 : Int32) [(.int (nar .char x1)), (.int (nar .char x2)), (.int (nar .char x3))] (.int 0) := Arv.set Ar13 q13 S13 M13 Hs13 G13 (fits_nar_char _) W15 2 rfl (Nat.le_of_ble_eq_true rfl)
  have Od1 : Old Z n0 h5 := Od0.ext E5
  have Od2 : Old Z n0 h6 := Od1.ext E6
  have Od3 : Old Z n0 h9 := Od2.wr W9 g_b6
  have Od4 : Old Z n0 h12 := Od3.wr W12 g_b6
  have Od5 : Old Z n0 h15 := Od4.wr W15 g_b6
  have cd16 : ¬ ((nar .char ((p2 &&& (65535 : Int32)).toUInt32.toUInt16.toUInt32.toInt32)) < (0 : Int32)) := (by rw [Int32.lt_iff_toInt_lt]; have := rng32 (nar .char ((p2 &&& (65535 : Int32)).toUInt32.toUInt16.toUInt32.toInt32)); have := rng32 ((p2 &&& (65535 : Int32)).toUInt32.toUInt16.toUInt32.toInt32); have := rng32 (p2 &&& (65535 : Int32)); have := rng32 p2; have := own_mask p2 (65535 : Int32) 16 (by decide) (by decide) 65536 (by decide); have := c_i2c (p2 &&& (65535 : Int32)); have := own_c_nar_char ((p2 &&& (65535 : Int32)).toUInt32.toUInt16.toUInt32.toInt32); have : ((0 : Int32)).toInt = 0 := (by decide); omega)
  have cd17 : ¬ ((65535 : Int32) < (nar .char ((p2 &&& (65535 : Int32)).toUInt32.toUInt16.toUInt32.toInt32))) := (by rw [Int32.lt_iff_toInt_lt]; have : ((65535 : Int32)).toInt = 65535 := (by decide); have := rng32 (nar .char ((p2 &&& (65535 : Int32)).toUInt32.toUInt16.toUInt32.toInt32)); have := rng32 ((p2 &&& (65535 : Int32)).toUInt32.toUInt16.toUInt32.toInt32); have := rng32 (p2 &&& (65535 : Int32)); have := rng32 p2; have := own_mask p2 (65535 : Int32) 16 (by decide) (by decide) 65536 (by decide); have := c_i2c (p2 &&& (65535 : Int32)); have := own_c_nar_char ((p2 &&& (65535 : Int32)).toUInt32.toUInt16.toUInt32.toInt32); omega)
  have cd18 : ¬ ((nar .char ((p3 &&& (65535 : Int32)).toUInt32.toUInt16.toUInt32.toInt32)) < (0 : Int32)) := (by rw [Int32.lt_iff_toInt_lt]; have := rng32 (nar .char ((p3 &&& (65535 : Int32)).toUInt32.toUInt16.toUInt32.toInt32)); have := rng32 ((p3 &&& (65535 : Int32)).toUInt32.toUInt16.toUInt32.toInt32); have := rng32 (p3 &&& (65535 : Int32)); have := rng32 p3; have := own_mask p3 (65535 : Int32) 16 (by decide) (by decide) 65536 (by decide); have := c_i2c (p3 &&& (65535 : Int32)); have := own_c_nar_char ((p3 &&& (65535 : Int32)).toUInt32.toUInt16.toUInt32.toInt32); have : ((0 : Int32)).toInt = 0 := (by decide); omega)
  have cd19 : ¬ ((65535 : Int32) < (nar .char ((p3 &&& (65535 : Int32)).toUInt32.toUInt16.toUInt32.toInt32))) := (by rw [Int32.lt_iff_toInt_lt]; have : ((65535 : Int32)).toInt = 65535 := (by decide); have := rng32 (nar .char ((p3 &&& (65535 : Int32)).toUInt32.toUInt16.toUInt32.toInt32)); have := rng32 ((p3 &&& (65535 : Int32)).toUInt32.toUInt16.toUInt32.toInt32); have := rng32 (p3 &&& (65535 : Int32)); have := rng32 p3; have := own_mask p3 (65535 : Int32) 16 (by decide) (by decide) 65536 (by decide); have := c_i2c (p3 &&& (65535 : Int32)); have := own_c_nar_char ((p3 &&& (65535 : Int32)).toUInt32.toUInt16.toUInt32.toInt32); omega)
  have cd20 : ¬ ((nar .char ((p4 &&& (65535 : Int32)).toUInt32.toUInt16.toUInt32.toInt32)) < (0 : Int32)) := (by rw [Int32.lt_iff_toInt_lt]; have := rng32 (nar .char ((p4 &&& (65535 : Int32)).toUInt32.toUInt16.toUInt32.toInt32)); have := rng32 ((p4 &&& (65535 : Int32)).toUInt32.toUInt16.toUInt32.toInt32); have := rng32 (p4 &&& (65535 : Int32)); have := rng32 p4; have := own_mask p4 (65535 : Int32) 16 (by decide) (by decide) 65536 (by decide); have := c_i2c (p4 &&& (65535 : Int32)); have := own_c_nar_char ((p4 &&& (65535 : Int32)).toUInt32.toUInt16.toUInt32.toInt32); have : ((0 : Int32)).toInt = 0 := (by decide); omega)
  have cd21 : ¬ ((65535 : Int32) < (nar .char ((p4 &&& (65535 : Int32)).toUInt32.toUInt16.toUInt32.toInt32))) := (by rw [Int32.lt_iff_toInt_lt]; have : ((65535 : Int32)).toInt = 65535 := (by decide); have := rng32 (nar .char ((p4 &&& (65535 : Int32)).toUInt32.toUInt16.toUInt32.toInt32)); have := rng32 ((p4 &&& (65535 : Int32)).toUInt32.toUInt16.toUInt32.toInt32); have := rng32 (p4 &&& (65535 : Int32)); have := rng32 p4; have := own_mask p4 (65535 : Int32) 16 (by decide) (by decide) 65536 (by decide); have := c_i2c (p4 &&& (65535 : Int32)); have := own_c_nar_char ((p4 &&& (65535 : Int32)).toUInt32.toUInt16.toUInt32.toInt32); omega)
  have ne_b5_b6 := Nat.ne_of_lt (Nat.lt_of_lt_of_le Fn5_value.lt (Nat.le_of_eq g6.symm))
  have Fl22 := ((((Fn5_coder.ext E6).other W9 (Or.inl ne_b5_b6)).other W12 (Or.inl ne_b5_b6)).other W15 (Or.inl ne_b5_b6))
  have Ex23 := ((((A5.ext E6).wr W9).wr W12).wr W15)
  have g_b5 : n0 ≤ b5 := Nat.le_trans Z0 (Nat.le_of_eq g5.symm)
  have Fl24 := ((((Fn5_value.ext E6).other W9 (Or.inl ne_b5_b6)).other W12 (Or.inl ne_b5_b6)).other W15 (Or.inl ne_b5_b6))
  have z5 := Nat.le_trans Z0 (Nat.le_trans (Nat.le_trans (Nat.le_trans (Nat.le_trans s0 s1) s2) s3) s4)
  obtain ⟨_, T25, L25, X25, hQ25, st25⟩ := own_special X15 hx hZ hown (y := y_9) (a := b5) (w_5 hw) (w_6 hw) (w_3 hw) (w_7 hw) (rm53 l Z a0 hw [] b5 b6 (nar .char x1) (nar .char x2) (nar .char x3) k6 si2 h15 n0 z5 Vs15 S8_COMPACT_STRINGS Od5 nc6 S9__assertionsDisabled S10_HI_BYTE_SHIFT S11_LO_BYTE_SHIFT (by rw [ex1]; exact cd16) (by rw [ex1]; exact cd17) (by rw [ex2]; exact cd18) (by rw [ex2]; exact cd19) (by rw [ex3]; exact cd20) (by rw [ex3]; exact cd21) Fl22 Ex23 g_b5 Fl24) e15 (Ls := #[.val (.int p1), .val (.int p2), .val (.int p3), .val (.int p4), .val (.int p5), .val (.int p6), .val (.int x1), .val (.int x2), .val (.int x3), .val (.int x4), .val (.int 3), .unset, .unset, .unset]) (by rw [hml]; rfl) (argsL := [(.ref b6)]) (rest := [(.ref b5)]) (lenOf pd_8 rfl) (hb hby at_121) (W := 1)
  obtain ⟨b25_b16_b17_m0, k25_k16_k17_kk1, u25_u16_u17_uu2, rfl, Nq25, K25, o25_0, o25_1, o25_2, o25_3, o25_4, o25_5⟩ := hQ25
  have N25 := Fr.app N15 Nq25
  have s5 := K25.1
  obtain ⟨x26, ex26⟩ : ∃ z, z = (if (255 : Int32) < (nar .char x1) then (6 : Int32) else (if (255 : Int32) < (nar .char x2) then (6 : Int32) else (if (255 : Int32) < (nar .char x3) then (6 : Int32) else (3 : Int32)))) := ⟨_, rfl⟩
  have o25_5' : Arv Z T25.heap b25_b16_b17_m0 k25_k16_k17_kk1 .byte x26 u25_u16_u17_uu2 (.int 0) := by rw [ex26]; exact o25_5
  obtain ⟨a27, T27, h27, kn27, X27, e27, E27, Sn27, kl27, hZ27, hown27, st27⟩ := ldcS (s := s) (vm0 := s.vm) X25 hx hZ hown (w_31 hw) (own_wS hw) rfl (own_since s) (by rw [hs0]; exact (Nat.le_trans (Nat.le_trans (Nat.le_trans (Nat.le_trans (Nat.le_trans s0 s1) s2) s3) s4) s5)) (g := (mkF m 168 #[.val (.int p1), .val (.int p2), .val (.int p3), .val (.int p4), .val (.int p5), .val (.int p6), .val (.int x1), .val (.int x2), .val (.int x3), .val (.int x4), .val (.int 3), .val (.ref b5), .unset, .unset] [])) rfl (hb hby at_168) (n := 0) (by decide) (by decide) (by decide) (by decide)
  have s6 := E27.1
  have Ex28 := (o25_0.ext E27)
  have Fl29 := (o25_2.ext E27)
  have Va30 := (o25_5'.ext E27)
  have cd31 : ¬ ((if (255 : Int32) < (nar .char ((p2 &&& (65535 : Int32)).toUInt32.toUInt16.toUInt32.toInt32)) then (6 : Int32) else (if (255 : Int32) < (nar .char ((p3 &&& (65535 : Int32)).toUInt32.toUInt16.toUInt32.toInt32)) then (6 : Int32) else (if (255 : Int32) < (nar .char ((p4 &&& (65535 : Int32)).toUInt32.toUInt16.toUInt32.toInt32)) then (6 : Int32) else (3 : Int32)))) = (0 : Int32)) := (by by_cases hi0 : (255 : Int32) < (nar .char ((p2 &&& (65535 : Int32)).toUInt32.toUInt16.toUInt32.toInt32)); exact (by simp only [if_pos hi0]; decide); exact (by simp only [if_neg hi0]; by_cases hi1 : (255 : Int32) < (nar .char ((p3 &&& (65535 : Int32)).toUInt32.toUInt16.toUInt32.toInt32)); exact (by simp only [if_pos hi1]; decide); exact (by simp only [if_neg hi1]; by_cases hi2 : (255 : Int32) < (nar .char ((p4 &&& (65535 : Int32)).toUInt32.toUInt16.toUInt32.toInt32)); exact (by simp only [if_pos hi2]; decide); exact (by simp only [if_neg hi2]; decide))))
  have z7 := Nat.le_trans Z0 (Nat.le_trans (Nat.le_trans (Nat.le_trans (Nat.le_trans (Nat.le_trans (Nat.le_trans s0 s1) s2) s3) s4) s5) s6)
  obtain ⟨_, T32, L32, X32, hQ32, st32⟩ := own_callS X27 hx hZ27 hown27 (y := y_16) (w_34 hw) (w_35 hw) (w_36 hw) (w_37 hw) (rm20 l Z a0 hw [] b5 a27 b25_b16_b17_m0 u25_u16_u17_uu2 k25_k16_k17_kk1 x26 h27 n0 z7 Ex28 Fl29 Va30 (by rw [ex26, ex3, ex2, ex1]; exact cd31)) e27 (Ls := #[.val (.int p1), .val (.int p2), .val (.int p3), .val (.int p4), .val (.int p5), .val (.int p6), .val (.int x1), .val (.int x2), .val (.int x3), .val (.int x4), .val (.int 3), .val (.ref b5), .val (.ref a27), .unset]) (by rw [hml]; rfl) (argsL := [(.ref b5), (.ref a27)]) (rest := []) (lenOf pd_14 rfl) (hb hby at_192) (W := 0)
  obtain ⟨rfl, Nq32, e32⟩ := hQ32
  have N32 := Fr.app N25 Nq32
  have Od6 : Old Z n0 T25.heap := Od5.keep K25 (allS g_b5 all0)
  have Od7 : Old Z n0 h27 := Od6.ext E27
  have Fl33 := (o25_1.ext E27)
  obtain ⟨_, T34, L34, X34, hQ34, st34⟩ := own_virtual X32 hx hZ27 hown27 (y := y_18) (z := y_18) Ex28 (w_43 hw) (w_44 hw) (notFace_of_selects (args := #[]) (mvT hZ27 (w_46 hw))) (w_46 hw) (w_45 hw) (w_3 hw) (w_47 hw) (rm22 l Z a0 hw [] b5 b25_b16_b17_m0 u25_u16_u17_uu2 k25_k16_k17_kk1 x26 si2 (nar .byte (nar .byte (((((3 : Int32) - (if (255 : Int32) < (nar .char x1) then (6 : Int32) else (if (255 : Int32) < (nar .char x2) then (6 : Int32) else (if (255 : Int32) < (nar .char x3) then (6 : Int32) else (3 : Int32))))).toUInt32 >>> ((31 : Int32) &&& 31).toUInt32).toInt32).toInt8.toInt32))) h27 n0 z7 Fl29 Va30 Ex28 S8_COMPACT_STRINGS Od7 nc6 Fl33) e32 (Ls := #[.val (.int p1), .val (.int p2), .val (.int p3), .val (.int p4), .val (.int p5), .val (.int p6), .val (.int x1), .val (.int x2), .val (.int x3), .val (.int x4), .val (.int 3), .val (.ref b5), .val (.ref a27), .val (.ref b5)]) (by rw [hml]; rfl) (argsL := []) (rest := []) (lenOf pd_16 rfl) (hb hby at_206) (W := 0)
  obtain ⟨rfl, Nq34, e34⟩ := hQ34
  have N34 := Fr.app N32 Nq34
  obtain ⟨x35, ex35⟩ : ∃ z, z = (x26 >>> ((nar .byte (nar .byte (nar .byte (((((3 : Int32) - (if (255 : Int32) < (nar .char x1) then (6 : Int32) else (if (255 : Int32) < (nar .char x2) then (6 : Int32) else (if (255 : Int32) < (nar .char x3) then (6 : Int32) else (3 : Int32))))).toUInt32 >>> ((31 : Int32) &&& 31).toUInt32).toInt32).toInt8.toInt32)))) &&& 31)) := ⟨_, rfl⟩
  have cd36 : ((if (255 : Int32) < (nar .char ((p2 &&& (65535 : Int32)).toUInt32.toUInt16.toUInt32.toInt32)) then (6 : Int32) else (if (255 : Int32) < (nar .char ((p3 &&& (65535 : Int32)).toUInt32.toUInt16.toUInt32.toInt32)) then (6 : Int32) else (if (255 : Int32) < (nar .char ((p4 &&& (65535 : Int32)).toUInt32.toUInt16.toUInt32.toInt32)) then (6 : Int32) else (3 : Int32)))) >>> ((nar .byte (nar .byte (nar .byte (((((3 : Int32) - (if (255 : Int32) < (nar .char ((p2 &&& (65535 : Int32)).toUInt32.toUInt16.toUInt32.toInt32)) then (6 : Int32) else (if (255 : Int32) < (nar .char ((p3 &&& (65535 : Int32)).toUInt32.toUInt16.toUInt32.toInt32)) then (6 : Int32) else (if (255 : Int32) < (nar .char ((p4 &&& (65535 : Int32)).toUInt32.toUInt16.toUInt32.toInt32)) then (6 : Int32) else (3 : Int32))))).toUInt32 >>> ((31 : Int32) &&& 31).toUInt32).toInt32).toInt8.toInt32)))) &&& 31)) = (3 : Int32) := (by by_cases hi0 : (255 : Int32) < (nar .char ((p2 &&& (65535 : Int32)).toUInt32.toUInt16.toUInt32.toInt32)); exact (by simp only [if_pos hi0]; decide); exact (by simp only [if_neg hi0]; by_cases hi1 : (255 : Int32) < (nar .char ((p3 &&& (65535 : Int32)).toUInt32.toUInt16.toUInt32.toInt32)); exact (by simp only [if_pos hi1]; decide); exact (by simp only [if_neg hi1]; by_cases hi2 : (255 : Int32) < (nar .char ((p4 &&& (65535 : Int32)).toUInt32.toUInt16.toUInt32.toInt32)); exact (by simp only [if_pos hi2]; decide); exact (by simp only [if_neg hi2]; decide))))
  refine ⟨T34, _, _, _, (some (.int 1)), T27.vm, kn27, X34, Sn27, (by rw [e34]; exact Nat.le_trans kl27 (Nat.le_refl _)), nofun, by decide, by decide, ?_, fun fs hr => ?_⟩
  · show Q0 n0 _ T34.heap _
    rw [e34]
    subst ex35
    subst ex26
    subst ex4
    subst ex3
    subst ex2
    subst ex1
    exact ⟨rfl, N34⟩
  · refine XS.iloadN X0.here hx rfl (hb hby at_0) rfl ?_
    refine X0.ldcInt hx hown (mvT hZ (w_0 hw)) (g := (mkF m 1 #[.val (.int p1), .val (.int p2), .val (.int p3), .val (.int p4), .val (.int p5), .val (.int p6), .unset, .unset, .unset, .unset, .unset, .unset, .unset, .unset] [(.int p2)])) rfl (hb hby at_1) _ ?_
    refine XS.iand X0.here hx rfl (hb hby at_3) rfl ?_
    refine XS.i2c X0.here hx rfl (hb hby at_4) rfl ?_
    show Steps p.tables e below (s₁.setTop (mkF m 5 #[.val (.int p1), .val (.int p2), .val (.int p3), .val (.int p4), .val (.int p5), .val (.int p6), .unset, .unset, .unset, .unset, .unset, .unset, .unset, .unset] [(.int ((p2 &&& (65535 : Int32)).toUInt32.toUInt16.toUInt32.toInt32))])) _
    rw [← ex1]
    refine XS.istore X0.here hx rfl (hb hby at_5) rfl (l' := #[.val (.int p1), .val (.int p2), .val (.int p3), .val (.int p4), .val (.int p5), .val (.int p6), .val (.int x1), .unset, .unset, .unset, .unset, .unset, .unset, .unset]) rfl ?_
    refine XS.iloadN X0.here hx rfl (hb hby at_7) rfl ?_
    refine X0.ldcInt hx hown (mvT hZ (w_0 hw)) (g := (mkF m 8 #[.val (.int p1), .val (.int p2), .val (.int p3), .val (.int p4), .val (.int p5), .val (.int p6), .val (.int x1), .unset, .unset, .unset, .unset, .unset, .unset, .unset] [(.int p3)])) rfl (hb hby at_8) _ ?_
    refine XS.iand X0.here hx rfl (hb hby at_10) rfl ?_
    refine XS.i2c X0.here hx rfl (hb hby at_11) rfl ?_
    show Steps p.tables e below (s₁.setTop (mkF m 12 #[.val (.int p1), .val (.int p2), .val (.int p3), .val (.int p4), .val (.int p5), .val (.int p6), .val (.int x1), .unset, .unset, .unset, .unset, .unset, .unset, .unset] [(.int ((p3 &&& (65535 : Int32)).toUInt32.toUInt16.toUInt32.toInt32))])) _
    rw [← ex2]
    refine XS.istore X0.here hx rfl (hb hby at_12) rfl (l' := #[.val (.int p1), .val (.int p2), .val (.int p3), .val (.int p4), .val (.int p5), .val (.int p6), .val (.int x1), .val (.int x2), .unset, .unset, .unset, .unset, .unset, .unset]) rfl ?_
    refine XS.iloadN X0.here hx rfl (hb hby at_14) rfl ?_
    refine X0.ldcInt hx hown (mvT hZ (w_0 hw)) (g := (mkF m 15 #[.val (.int p1), .val (.int p2), .val (.int p3), .val (.int p4), .val (.int p5), .val (.int p6), .val (.int x1), .val (.int x2), .unset, .unset, .unset, .unset, .unset, .unset] [(.int p4)])) rfl (hb hby at_15) _ ?_
    refine XS.iand X0.here hx rfl (hb hby at_17) rfl ?_
    refine XS.i2c X0.here hx rfl (hb hby at_18) rfl ?_
    show Steps p.tables e below (s₁.setTop (mkF m 19 #[.val (.int p1), .val (.int p2), .val (.int p3), .val (.int p4), .val (.int p5), .val (.int p6), .val (.int x1), .val (.int x2), .unset, .unset, .unset, .unset, .unset, .unset] [(.int ((p4 &&& (65535 : Int32)).toUInt32.toUInt16.toUInt32.toInt32))])) _
    rw [← ex3]
    refine XS.istore X0.here hx rfl (hb hby at_19) rfl (l' := #[.val (.int p1), .val (.int p2), .val (.int p3), .val (.int p4), .val (.int p5), .val (.int p6), .val (.int x1), .val (.int x2), .val (.int x3), .unset, .unset, .unset, .unset, .unset]) rfl ?_
    refine XS.iload X0.here hx rfl (hb hby at_21) rfl ?_
    refine X0.ldcInt hx hown (mvT hZ (w_0 hw)) (g := (mkF m 23 #[.val (.int p1), .val (.int p2), .val (.int p3), .val (.int p4), .val (.int p5), .val (.int p6), .val (.int x1), .val (.int x2), .val (.int x3), .unset, .unset, .unset, .unset, .unset] [(.int p5)])) rfl (hb hby at_23) _ ?_
    refine XS.iand X0.here hx rfl (hb hby at_25) rfl ?_
    refine XS.i2c X0.here hx rfl (hb hby at_26) rfl ?_
    show Steps p.tables e below (s₁.setTop (mkF m 27 #[.val (.int p1), .val (.int p2), .val (.int p3), .val (.int p4), .val (.int p5), .val (.int p6), .val (.int x1), .val (.int x2), .val (.int x3), .unset, .unset, .unset, .unset, .unset] [(.int ((p5 &&& (65535 : Int32)).toUInt32.toUInt16.toUInt32.toInt32))])) _
    rw [← ex4]
    refine XS.istore X0.here hx rfl (hb hby at_27) rfl (l' := #[.val (.int p1), .val (.int p2), .val (.int p3), .val (.int p4), .val (.int p5), .val (.int p6), .val (.int x1), .val (.int x2), .val (.int x3), .val (.int x4), .unset, .unset, .unset, .unset]) rfl ?_
    refine XS.iloadN X0.here hx rfl (hb hby at_29) rfl ?_
    refine XS.iconst X0.here hx rfl (hb hby at_30) ?_
    refine XS.iand X0.here hx rfl (hb hby at_31) rfl ?_
    show Steps p.tables e below (s₁.setTop (mkF m 32 #[.val (.int p1), .val (.int p2), .val (.int p3), .val (.int p4), .val (.int p5), .val (.int p6), .val (.int x1), .val (.int x2), .val (.int x3), .val (.int x4), .unset, .unset, .unset, .unset] [(.int (p1 &&& (3 : Int32)))])) _
    rw [hk]
    refine XS.iconst X0.here hx rfl (hb hby at_32) ?_
    refine XS.iadd X0.here hx rfl (hb hby at_33) rfl ?_
    refine XS.istore X0.here hx rfl (hb hby at_34) rfl (l' := #[.val (.int p1), .val (.int p2), .val (.int p3), .val (.int p4), .val (.int p5), .val (.int p6), .val (.int x1), .val (.int x2), .val (.int x3), .val (.int x4), .val (.int 3), .unset, .unset, .unset]) rfl ?_
    refine XS.iload X0.here hx rfl (hb hby at_36) rfl ?_
    refine XS.iconst X0.here hx rfl (hb hby at_38) ?_
    refine XS.icmpYes X0.here hx rfl (pc0 := 39) (pc' := 62) rfl (hb hby at_39) rfl (feq ((by decide : ¬ ((3 : Int32) = (1 : Int32))) : ¬ ((3 : Int32) = (1 : Int32)))).2 (by decide) (by decide) ?_
    refine XS.iload X0.here hx rfl (hb hby at_62) rfl ?_
    refine XS.iconst X0.here hx rfl (hb hby at_64) ?_
    refine XS.icmpYes X0.here hx rfl (pc0 := 65) (pc' := 93) rfl (hb hby at_65) rfl (feq ((by decide : ¬ ((3 : Int32) = (2 : Int32))) : ¬ ((3 : Int32) = (2 : Int32)))).2 (by decide) (by decide) ?_
    refine XS.iload X0.here hx rfl (hb hby at_93) rfl ?_
    refine XS.iconst X0.here hx rfl (hb hby at_95) ?_
    show Steps p.tables e below (s₁.setTop (mkF m 96 #[.val (.int p1), .val (.int p2), .val (.int p3), .val (.int p4), .val (.int p5), .val (.int p6), .val (.int x1), .val (.int x2), .val (.int x3), .val (.int x4), .val (.int 3), .unset, .unset, .unset] [(.int 3), (.int 3)])) _
    refine XS.icmpNo X0.here hx rfl (hb hby at_96) rfl (teq ((by decide : (3 : Int32) = (3 : Int32)) : (3 : Int32) = (3 : Int32))).2 ?_
    refine st5 _ ?_
    refine XS.dup X5.here hx rfl (hb hby at_102) rfl rfl ?_
    refine XS.iconst X5.here hx rfl (hb hby at_103) ?_
    refine st6 _ ?_
    refine XS.dup X6.here hx rfl (hb hby at_106) rfl rfl ?_
    refine XS.iconst X6.here hx rfl (hb hby at_107) ?_
    refine XS.iload X6.here hx rfl (hb hby at_108) rfl ?_
    refine st9 _ ?_
    refine XS.dup X9.here hx rfl (hb hby at_111) rfl rfl ?_
    refine XS.iconst X9.here hx rfl (hb hby at_112) ?_
    refine XS.iload X9.here hx rfl (hb hby at_113) rfl ?_
    show Steps p.tables e below (T9.setTop (mkF m 115 #[.val (.int p1), .val (.int p2), .val (.int p3), .val (.int p4), .val (.int p5), .val (.int p6), .val (.int x1), .val (.int x2), .val (.int x3), .val (.int x4), .val (.int 3), .unset, .unset, .unset] [(.int x2), (.int 1), (.ref b6), (.ref b6), (.ref b5), (.ref b5)])) _
    refine st12 _ ?_
    refine XS.dup X12.here hx rfl (hb hby at_116) rfl rfl ?_
    refine XS.iconst X12.here hx rfl (hb hby at_117) ?_
    refine XS.iload X12.here hx rfl (hb hby at_118) rfl ?_
    refine st15 _ ?_
    refine st25 _ ?_
    refine XS.astore X25.here hx rfl (hb hby at_124) rfl rfl (l' := #[.val (.int p1), .val (.int p2), .val (.int p3), .val (.int p4), .val (.int p5), .val (.int p6), .val (.int x1), .val (.int x2), .val (.int x3), .val (.int x4), .val (.int 3), .val (.ref b5), .unset, .unset]) rfl ?_
    refine XS.goto X25.here hx rfl (pc0 := 126) (pc' := 161) rfl (hb hby at_126) (by decide) (by decide) ?_
    refine XS.iload X25.here hx rfl (hb hby at_161) rfl ?_
    refine XS.iconst X25.here hx rfl (hb hby at_163) ?_
    refine XS.iand X25.here hx rfl (hb hby at_164) rfl ?_
    refine XS.ifNo X25.here hx rfl (hb hby at_165) rfl ((if0 _ _).trans (feq (cc1 : ¬ ((p6 &&& (1 : Int32)) = (0 : Int32)))).1) ?_
    show Steps p.tables e below (T25.setTop (mkF m 168 #[.val (.int p1), .val (.int p2), .val (.int p3), .val (.int p4), .val (.int p5), .val (.int p6), .val (.int x1), .val (.int x2), .val (.int x3), .val (.int x4), .val (.int 3), .val (.ref b5), .unset, .unset] [])) _
    refine st27 _ ?_
    refine XS.astore X27.here hx rfl (hb hby at_170) rfl rfl (l' := #[.val (.int p1), .val (.int p2), .val (.int p3), .val (.int p4), .val (.int p5), .val (.int p6), .val (.int x1), .val (.int x2), .val (.int x3), .val (.int x4), .val (.int 3), .val (.ref b5), .val (.ref a27), .unset]) rfl ?_
    refine XS.goto X27.here hx rfl (pc0 := 172) (pc' := 188) rfl (hb hby at_172) (by decide) (by decide) ?_
    refine XS.aload X27.here hx rfl (hb hby at_188) rfl rfl ?_
    refine XS.aload X27.here hx rfl (hb hby at_190) rfl rfl ?_
    refine st32 _ ?_
    refine XS.astore X32.here hx rfl (hb hby at_195) rfl rfl (l' := #[.val (.int p1), .val (.int p2), .val (.int p3), .val (.int p4), .val (.int p5), .val (.int p6), .val (.int x1), .val (.int x2), .val (.int x3), .val (.int x4), .val (.int 3), .val (.ref b5), .val (.ref a27), .val (.ref b5)]) rfl ?_
    refine XS.aload X32.here hx rfl (hb hby at_197) rfl rfl ?_
    refine XS.aload X32.here hx rfl (hb hby at_199) rfl rfl ?_
    refine Jvm.RoadKit.acmp (g := (mkF m 201 #[.val (.int p1), .val (.int p2), .val (.int p3), .val (.int p4), .val (.int p5), .val (.int p6), .val (.int x1), .val (.int x2), .val (.int x3), .val (.int x4), .val (.int 3), .val (.ref b5), .val (.ref a27), .val (.ref b5)] [(.ref b5), (.ref b5)])) X32 hx rfl rfl rfl (pc0 := 201) (pc' := 204) (same := true) rfl (hb hby at_201) rfl (decide_eq_true rfl) (by decide) (by decide) ?_
    refine XS.aload X32.here hx rfl (hb hby at_204) rfl rfl ?_
    refine st34 _ ?_
    show Steps p.tables e below (T34.setTop (mkF m 209 #[.val (.int p1), .val (.int p2), .val (.int p3), .val (.int p4), .val (.int p5), .val (.int p6), .val (.int x1), .val (.int x2), .val (.int x3), .val (.int x4), .val (.int 3), .val (.ref b5), .val (.ref a27), .val (.ref b5)] [(.int (x26 >>> ((nar .byte (nar .byte (nar .byte (((((3 : Int32) - (if (255 : Int32) < (nar .char x1) then (6 : Int32) else (if (255 : Int32) < (nar .char x2) then (6 : Int32) else (if (255 : Int32) < (nar .char x3) then (6 : Int32) else (3 : Int32))))).toUInt32 >>> ((31 : Int32) &&& 31).toUInt32).toInt32).toInt8.toInt32)))) &&& 31)))])) _
    rw [← ex35]
    refine XS.iload X34.here hx rfl (hb hby at_209) rfl ?_
    refine XS.icmpNo X34.here hx rfl (hb hby at_211) rfl (teq ((by rw [ex35, ex26, ex3, ex2, ex1]; exact cd36) : x35 = (3 : Int32))).2 ?_
    refine XS.iconst X34.here hx rfl (hb hby at_214) ?_
    refine XS.goto X34.here hx rfl (pc0 := 215) (pc' := 219) rfl (hb hby at_215) (by decide) (by decide) ?_
    exact retN X34 hx (t := .boolean) hret (by simp) (hb hby at_219) hr
theorem ef_b2aa3e (a1 : Addr) (a2 : Addr) (m : MethodId) : entryFrame m #[(.ref a1), (.int 0), (.ref a2), (.int 0), (.int 4)] 7 = mkF m 0 #[.val (.ref a1), .val (.int 0), .val (.ref a2), .val (.int 0), .val (.int 4), .unset, .unset] [] := by first | (simp [entryFrame, mkF, argsToLocals, Value.category]; done) | rfl
-- java/lang/StringUTF16.compress([CI[BII)I
abbrev Rm54 : Room := { frames := 0, cells := 0, slots := 0, locals := 0 }
def Q54 (Z : State) (a1 : Addr) (a2 : Addr) (p3 : Int32) (p4 : Int32) (p5 : Int32) (p6 : Int32) (k7 : ClassId) (h0 : Heap) (n0 : Nat) (v : Option Value) (h : Heap) (L : List Loc) : Prop := v = some (.int 0) ∧ Fr n0 L ∧ h = h0
-- ef_b2aa3e
theorem rm54 (l : Launch) (Z : State) (a0 : Array Value) (hw : ∀ d ∈ tables_1, d.before a0 Z = true) (ws : List Jvm.Cond) (a1 : Addr) (a2 : Addr) (p3 : Int32) (p4 : Int32) (p5 : Int32) (p6 : Int32) (k7 : ClassId) (h0 : Heap) (n0 : Nat) (Z0 : n0 ≤ h0.size) (V_a1 : Arv Z h0 a1 k7 .char (4 : Int32) [(.int p3), (.int p4), (.int p5), (.int p6)] (.int 0)) (c10 : (255 : Int32) < p3) :
    OwnMet l Z y_0 jdk_52_method_21_code 7 (some .int) ws Rm54 #[(.ref a1), (.int 0), (.ref a2), (.int 0), (.int 4)] h0 (Q54 Z a1 a2 p3 p4 p5 p6 k7 h0 n0) := by
  refine own_body (plainFor_of_name pn_0) (ef_b2aa3e a1 a2) ?_
  intro p e s m below meth c s₁ hx hby hml hown hnm hret hZ X0 e0
  have N0 := Fr.nil n0
  obtain ⟨cl8, Ar8, q8, S8, M8, Hs8, G8⟩ := id V_a1
  have hin9 : ¬ ((0 : Int32) < 0 ∨ cl8.slots.size ≤ ((0 : Int32)).toNatClampNeg) := inb_of S8 ⟨(by decide : ¬ ((0 : Int32) < (0 : Int32))), (by decide : (0 : Int32) < (4 : Int32))⟩
  refine ⟨s₁, _, _, _, (some (.int 0)), X0, nofun, by decide, by decide, ?_, fun fs hr => ?_⟩
  · rw [e0]
    exact ⟨rfl, N0, rfl⟩
  · refine XS.iconst X0.here hx rfl (hb hby d5_0) ?_
    refine XS.istore X0.here hx rfl (hb hby d5_1) rfl (l' := #[.val (.ref a1), .val (.int 0), .val (.ref a2), .val (.int 0), .val (.int 4), .val (.int 0), .unset]) rfl ?_
    refine XS.iload X0.here hx rfl (hb hby d5_3) rfl ?_
    refine XS.iload X0.here hx rfl (hb hby d5_5) rfl ?_
    refine XS.icmpNo X0.here hx rfl (hb hby d5_7) rfl (tlt ((by decide : (0 : Int32) < (4 : Int32)) : (0 : Int32) < (4 : Int32))).2.1 ?_
    refine XS.aloadN X0.here hx rfl (hb hby d5_10) rfl rfl ?_
    refine XS.iloadN X0.here hx rfl (hb hby d5_11) rfl ?_
    refine X0.caload hx (j := (0 : Int32)) (v := (.int p3)) (by rw [e0]; exact Ar8.1) (State.isArrayOf_alike hZ.alike Ar8.2.1) Ar8.2.2 hin9 (Has.at Hs8 hin9 rfl) (g := (mkF m 12 #[.val (.ref a1), .val (.int 0), .val (.ref a2), .val (.int 0), .val (.int 4), .val (.int 0), .unset] [(.int 0), (.ref a1)])) rfl rfl (hb hby d5_12) _ ?_
    refine XS.istore X0.here hx rfl (hb hby d5_13) rfl (l' := #[.val (.ref a1), .val (.int 0), .val (.ref a2), .val (.int 0), .val (.int 4), .val (.int 0), .val (.int p3)]) rfl ?_
    refine XS.iload X0.here hx rfl (hb hby d5_15) rfl ?_
    refine XS.sipush X0.here hx rfl (hb hby d5_17) ?_
    show Steps p.tables e below (s₁.setTop (mkF m 20 #[.val (.ref a1), .val (.int 0), .val (.ref a2), .val (.int 0), .val (.int 4), .val (.int 0), .val (.int p3)] [(.int 255), (.int p3)])) _
    refine XS.icmpNo X0.here hx rfl (hb hby d5_20) rfl (tlt (c10 : (255 : Int32) < p3)).2.2.2 ?_
    refine XS.iload X0.here hx rfl (hb hby d5_23) rfl ?_
    exact retI X0 hx hret (hb hby d5_25) hr
theorem ef_ec7995  (m : MethodId) : entryFrame m #[(.int 4)] 1 = mkF m 0 #[.val (.int 4)] [] := by first | (simp [entryFrame, mkF, argsToLocals, Value.category]; done) | rfl
-- java/lang/StringUTF16.newBytesLength(I)I
abbrev Rm55 : Room := { frames := 0, cells := 0, slots := 0, locals := 0 }
def Q55 (Z : State)  (h0 : Heap) (n0 : Nat) (v : Option Value) (h : Heap) (L : List Loc) : Prop := v = some (.int 8) ∧ Fr n0 L ∧ h = h0
-- ef_ec7995
theorem rm55 (l : Launch) (Z : State) (a0 : Array Value) (hw : ∀ d ∈ tables_1, d.before a0 Z = true) (ws : List Jvm.Cond)  (h0 : Heap) (n0 : Nat) (Z0 : n0 ≤ h0.size) :
    OwnMet l Z y_1 jdk_52_method_3_code 1 (some .int) ws Rm55 #[(.int 4)] h0 (Q55 Z  h0 n0) := by
  refine own_body (plainFor_of_name pn_0) (ef_ec7995) ?_
  intro p e s m below meth c s₁ hx hby hml hown hnm hret hZ X0 e0
  have N0 := Fr.nil n0
  refine ⟨s₁, _, _, _, (some (.int 8)), X0, nofun, by decide, by decide, ?_, fun fs hr => ?_⟩
  · rw [e0]
    exact ⟨rfl, N0, rfl⟩
  · refine XS.iloadN X0.here hx rfl (hb hby d17_0) rfl ?_
    refine XS.ifYes X0.here hx rfl (pc0 := 1) (pc' := 12) rfl (hb hby d17_1) rfl ((if0 _ _).trans (flt ((by decide : ¬ ((4 : Int32) < (0 : Int32))) : ¬ ((4 : Int32) < (0 : Int32)))).2.1) (by decide) (by decide) ?_
    refine XS.iloadN X0.here hx rfl (hb hby d17_12) rfl ?_
    refine X0.ldcInt hx hown (mvT hZ (w_76 hw)) (g := (mkF m 13 #[.val (.int 4)] [(.int 4)])) rfl (hb hby d17_13) _ ?_
    refine XS.icmpYes X0.here hx rfl (pc0 := 15) (pc' := 55) rfl (hb hby d17_15) rfl (tlt ((by decide : (4 : Int32) < (1073741823 : Int32)) : (4 : Int32) < (1073741823 : Int32))).1 (by decide) (by decide) ?_
    refine XS.iloadN X0.here hx rfl (hb hby d17_55) rfl ?_
    refine XS.iconst X0.here hx rfl (hb hby d17_56) ?_
    refine XS.ishl X0.here hx rfl (hb hby d17_57) rfl ?_
    exact retI X0 hx hret (hb hby d17_58) hr
-- java/lang/StringUTF16.newBytesFor(I)[B
abbrev Rm56 : Room := { frames := 1, cells := 1, slots := 8, locals := 12 }
def Q56 (Z : State)  (h0 : Heap) (n0 : Nat) (v : Option Value) (h : Heap) (L : List Loc) : Prop := ∃ b2 : Addr, ∃ k2 : ClassId, v = some (.ref b2) ∧ Fr n0 L ∧ Keep h0 h [] ∧ h0.size ≤ b2 ∧ Exa Z h b2 "[B" ∧ Arv Z h b2 k2 .byte (8 : Int32) [(.int 0), (.int 0), (.int 0), (.int 0), (.int 0), (.int 0), (.int 0), (.int 0)] (.int 0)
-- ef_ec7995
theorem rm56 (l : Launch) (Z : State) (a0 : Array Value) (hw : ∀ d ∈ tables_1, d.before a0 Z = true) (ws : List Jvm.Cond)  (h0 : Heap) (n0 : Nat) (Z0 : n0 ≤ h0.size) :
    OwnMet l Z y_2 jdk_52_method_2_code 1 (some (.array .byte)) ws Rm56 #[(.int 4)] h0 (Q56 Z  h0 n0) := by
  refine own_body (plainFor_of_name pn_0) (ef_ec7995) ?_
  intro p e s m below meth c s₁ hx hby hml hown hnm hret hZ X0 e0
  have N0 := Fr.nil n0
  obtain ⟨_, T1, L1, X1, hQ1, st1⟩ := own_callS X0 hx hZ hown (y := y_1) (w_73 hw) (w_74 hw) (w_18 hw) (w_75 hw) (rm55 l Z a0 hw []  h0 n0 Z0) e0 (Ls := #[.val (.int 4)]) (by rw [hml]; rfl) (argsL := [(.int 4)]) (rest := []) (lenOf pd_1 rfl) (hb hby d16_1) (W := 0)
  obtain ⟨rfl, Nq1, e1⟩ := hQ1
  have N1 := Fr.app N0 Nq1
  obtain ⟨T2, h2, k2, X2, e2, E2, A2, B2, st2⟩ := newPE (aty := .byte) X1 hx hZ (w_20 hw) e1 (g := (mkF m 4 #[.val (.int 4)] [(.int 8)])) rfl (hb hby d16_4) rfl (by decide) (cap := 8) (by decide) (by decide) (by decide) (by decide) (ad := "[B") (by decide)
  obtain ⟨b2, g2⟩ : ∃ z, z = h0.size := ⟨_, rfl⟩
  rw [← g2] at A2 B2 st2
  have s0 := E2.1
  have Vn2 : Arv Z h2 b2 k2 .byte (8 : Int32) [(.int 0), (.int 0), (.int 0), (.int 0), (.int 0), (.int 0), (.int 0), (.int 0)] (.int 0) := (Arv.new A2 (by decide)).pad (pad_rep [] (.int 0) 8)
  have sz_b2 : h0.size ≤ b2 := (Nat.le_of_eq g2.symm)
  have Kp0 : Keep h0 h2 [] := (Keep.refl h0 []).ext E2
  refine ⟨T2, _, _, _, (some (.ref b2)), X2, nofun, by decide, by decide, ?_, fun fs hr => ?_⟩
  · rw [e2]
    exact ⟨b2, k2, rfl, N1, Kp0, sz_b2, B2, Vn2⟩
  · refine XS.iloadN X0.here hx rfl (hb hby d16_0) rfl ?_
    refine st1 _ ?_
    refine st2 _ ?_
    exact retOut X2 hx hret rfl (Or.inr (Or.inr (Or.inr (Or.inr ⟨rfl, rfl, rfl⟩)))) (hb hby d16_6) hr
-- java/lang/StringUTF16.putChar([BII)V
abbrev Rm57 : Room := { frames := 0, cells := 0, slots := 0, locals := 0 }
def Q57 (Z : State) (a1 : Addr) (p2 : Int32) (k5 : ClassId) (h0 : Heap) (n0 : Nat) (v : Option Value) (h : Heap) (L : List Loc) : Prop := v = none ∧ Fr n0 L ∧ Keep h0 h [a1] ∧ Exa Z h a1 "[B" ∧ Arv Z h a1 k5 .byte (8 : Int32) [(.int (nar .byte ((p2 >>> ((0 : Int32) &&& 31)).toInt8.toInt32))), (.int (nar .byte ((p2 >>> ((8 : Int32) &&& 31)).toInt8.toInt32))), (.int 0), (.int 0), (.int 0), (.int 0), (.int 0), (.int 0)] (.int 0)
-- ef_6a6989
theorem rm57 (l : Launch) (Z : State) (a0 : Array Value) (hw : ∀ d ∈ tables_1, d.before a0 Z = true) (ws : List Jvm.Cond) (a1 : Addr) (p2 : Int32) (k5 : ClassId) (h0 : Heap) (n0 : Nat) (Z0 : n0 ≤ h0.size) (S__assertionsDisabled : Sta Z Z.heap "java/lang/StringUTF16" "$assertionsDisabled" "Z" (.int 1)) (Od0 : Old Z n0 h0) (S_HI_BYTE_SHIFT : Sta Z Z.heap "java/lang/StringUTF16" "HI_BYTE_SHIFT" "I" (.int 0)) (V_a1 : Arv Z h0 a1 k5 .byte (8 : Int32) [(.int 0), (.int 0), (.int 0), (.int 0), (.int 0), (.int 0), (.int 0), (.int 0)] (.int 0)) (g_a1 : n0 ≤ a1) (S_LO_BYTE_SHIFT : Sta Z Z.heap "java/lang/StringUTF16" "LO_BYTE_SHIFT" "I" (.int 8)) (E_a1 : Exa Z h0 a1 "[B") :
    OwnMet l Z y_3 jdk_52_method_4_code 3 none ws Rm57 #[(.ref a1), (.int 0), (.int p2)] h0 (Q57 Z a1 p2 k5 h0 n0) := by
  refine own_body (plainFor_of_name pn_0) (ef_6a6989 a1 p2) ?_
  intro p e s m below meth c s₁ hx hby hml hown hnm hret hZ X0 e0
  have N0 := Fr.nil n0
  obtain ⟨T3, X3, e3, st3⟩ := getS2 X0 hx hZ hown (host := "") (Or.inl (w_80 hw)) Via.refl e0 (S__assertionsDisabled.ext Od0.2) (g := (mkF m 0 #[.val (.ref a1), .val (.int 0), .val (.int p2)] [])) rfl (hb hby d18_0)
  obtain ⟨T4, X4, e4, st4⟩ := getS2 X3 hx hZ hown (host := "") (Or.inl (w_81 hw)) Via.refl e3 (S_HI_BYTE_SHIFT.ext Od0.2) (g := (mkF m 38 #[.val (.ref a1), .val (.int 1), .val (.int p2)] [(.int p2), (.int 0), (.ref a1)])) rfl (hb hby d18_38)
  obtain ⟨cl6, Ar6, q6, S6, M6, Hs6, G6⟩ := id V_a1
  have hin7 : ¬ ((0 : Int32) < 0 ∨ cl6.slots.size ≤ ((0 : Int32)).toNatClampNeg) := inb_of S6 ⟨(by decide : ¬ ((0 : Int32) < (0 : Int32))), (by decide : (0 : Int32) < (8 : Int32))⟩
  obtain ⟨T8, h8, X8, e8, W8, st8⟩ := stB X4 hx hZ e4 Ar6 (j := (0 : Int32)) hin7 (g := (mkF m 43 #[.val (.ref a1), .val (.int 1), .val (.int p2)] [(.int ((p2 >>> ((0 : Int32) &&& 31)).toInt8.toInt32)), (.int 0), (.ref a1)])) rfl rfl (hb hby d18_43)
  have s0 := (Keep.of_wr W8).1
  have N8 := Fr.snoc X8 N0 g_a1
  have Vs8 : Arv Z h8 a1 k5 .byte (8 : Int32) [(.int (nar .byte ((p2 >>> ((0 : Int32) &&& 31)).toInt8.toInt32))), (.int 0), (.int 0), (.int 0), (.int 0), (.int 0), (.int 0), (.int 0)] (.int 0) := Arv.set Ar6 q6 S6 M6 Hs6 G6 (fits_nar_byte _) W8 0 rfl (Nat.le_of_ble_eq_true rfl)
  have Od1 : Old Z n0 h8 := Od0.wr W8 g_a1
  obtain ⟨T9, X9, e9, st9⟩ := getS2 X8 hx hZ hown (host := "") (Or.inl (w_82 hw)) Via.refl e8 (S_LO_BYTE_SHIFT.ext Od1.2) (g := (mkF m 47 #[.val (.ref a1), .val (.int 1), .val (.int p2)] [(.int p2), (.int 1), (.ref a1)])) rfl (hb hby d18_47)
  obtain ⟨cl10, Ar10, q10, S10, M10, Hs10, G10⟩ := id Vs8
  have hin11 : ¬ ((1 : Int32) < 0 ∨ cl10.slots.size ≤ ((1 : Int32)).toNatClampNeg) := inb_of S10 ⟨(by decide : ¬ ((1 : Int32) < (0 : Int32))), (by decide : (1 : Int32) < (8 : Int32))⟩
  obtain ⟨T12, h12, X12, e12, W12, st12⟩ := stB X9 hx hZ e9 Ar10 (j := (1 : Int32)) hin11 (g := (mkF m 52 #[.val (.ref a1), .val (.int 1), .val (.int p2)] [(.int ((p2 >>> ((8 : Int32) &&& 31)).toInt8.toInt32)), (.int 1), (.ref a1)])) rfl rfl (hb hby d18_52)
  have s1 := (Keep.of_wr W12).1
  have N12 := Fr.snoc X12 N8 g_a1
  have Vs12 : Arv Z h12 a1 k5 .byte (8 : Int32) [(.int (nar .byte ((p2 >>> ((0 : Int32) &&& 31)).toInt8.toInt32))), (.int (nar .byte ((p2 >>> ((8 : Int32) &&& 31)).toInt8.toInt32))), (.int 0), (.int 0), (.int 0), (.int 0), (.int 0), (.int 0)] (.int 0) := Arv.set Ar10 q10 S10 M10 Hs10 G10 (fits_nar_byte _) W12 1 rfl (Nat.le_of_ble_eq_true rfl)
  have Ex13 := ((E_a1.wr W8).wr W12)
  have Kp0 : Keep h0 h8 [a1] := (Keep.refl h0 [a1]).wr W8 (Or.inl (List.mem_of_getElem? (i := 0) rfl))
  have Kp1 : Keep h0 h12 [a1] := Kp0.wr W12 (Or.inl (List.mem_of_getElem? (i := 0) rfl))
  refine ⟨T12, _, _, _, none, X12, (fun _ => rfl), by decide, by decide, ?_, fun fs hr => ?_⟩
  · rw [e12]
    exact ⟨rfl, N12, Kp1, Ex13, Vs12⟩
  · refine st3 _ ?_
    refine XS.ifYes X3.here hx rfl (pc0 := 3) (pc' := 28) rfl (hb hby d18_3) rfl ((if0 _ _).trans (feq ((by decide : ¬ ((1 : Int32) = (0 : Int32))) : ¬ ((1 : Int32) = (0 : Int32)))).2) (by decide) (by decide) ?_
    refine XS.iloadN X3.here hx rfl (hb hby d18_28) rfl ?_
    refine XS.iconst X3.here hx rfl (hb hby d18_29) ?_
    refine XS.ishl X3.here hx rfl (hb hby d18_30) rfl ?_
    refine XS.istoreN X3.here hx rfl (hb hby d18_31) rfl (l' := #[.val (.ref a1), .val (.int 0), .val (.int p2)]) rfl ?_
    refine XS.aloadN X3.here hx rfl (hb hby d18_32) rfl rfl ?_
    refine XS.iloadN X3.here hx rfl (hb hby d18_33) rfl ?_
    refine XS.iinc X3.here hx rfl (hb hby d18_34) rfl (l' := #[.val (.ref a1), .val (.int 1), .val (.int p2)]) rfl ?_
    refine XS.iloadN X3.here hx rfl (hb hby d18_37) rfl ?_
    refine st4 _ ?_
    show Steps p.tables e below (T4.setTop (mkF m 41 #[.val (.ref a1), .val (.int 1), .val (.int p2)] [(.int 0), (.int p2), (.int 0), (.ref a1)])) _
    refine XS.ishr X4.here hx rfl (hb hby d18_41) rfl ?_
    refine XS.i2b X4.here hx rfl (hb hby d18_42) rfl ?_
    refine st8 _ ?_
    refine XS.aloadN X8.here hx rfl (hb hby d18_44) rfl rfl ?_
    refine XS.iloadN X8.here hx rfl (hb hby d18_45) rfl ?_
    refine XS.iloadN X8.here hx rfl (hb hby d18_46) rfl ?_
    refine st9 _ ?_
    refine XS.ishr X9.here hx rfl (hb hby d18_50) rfl ?_
    refine XS.i2b X9.here hx rfl (hb hby d18_51) rfl ?_
    refine st12 _ ?_
    exact X12.returnOut hx hret (hb hby d18_53) hr
-- java/lang/StringUTF16.putChar([BII)V
abbrev Rm58 : Room := { frames := 0, cells := 0, slots := 0, locals := 0 }
def Q58 (Z : State) (a1 : Addr) (p2 : Int32) (p5 : Int32) (p6 : Int32) (k7 : ClassId) (h0 : Heap) (n0 : Nat) (v : Option Value) (h : Heap) (L : List Loc) : Prop := v = none ∧ Fr n0 L ∧ Keep h0 h [a1] ∧ Exa Z h a1 "[B" ∧ Arv Z h a1 k7 .byte (8 : Int32) [(.int p5), (.int p6), (.int (nar .byte ((p2 >>> ((0 : Int32) &&& 31)).toInt8.toInt32))), (.int (nar .byte ((p2 >>> ((8 : Int32) &&& 31)).toInt8.toInt32))), (.int 0), (.int 0), (.int 0), (.int 0)] (.int 0)
-- ef_93e316
theorem rm58 (l : Launch) (Z : State) (a0 : Array Value) (hw : ∀ d ∈ tables_1, d.before a0 Z = true) (ws : List Jvm.Cond) (a1 : Addr) (p2 : Int32) (p5 : Int32) (p6 : Int32) (k7 : ClassId) (h0 : Heap) (n0 : Nat) (Z0 : n0 ≤ h0.size) (S__assertionsDisabled : Sta Z Z.heap "java/lang/StringUTF16" "$assertionsDisabled" "Z" (.int 1)) (Od0 : Old Z n0 h0) (S_HI_BYTE_SHIFT : Sta Z Z.heap "java/lang/StringUTF16" "HI_BYTE_SHIFT" "I" (.int 0)) (V_a1 : Arv Z h0 a1 k7 .byte (8 : Int32) [(.int p5), (.int p6), (.int 0), (.int 0), (.int 0), (.int 0), (.int 0), (.int 0)] (.int 0)) (g_a1 : n0 ≤ a1) (S_LO_BYTE_SHIFT : Sta Z Z.heap "java/lang/StringUTF16" "LO_BYTE_SHIFT" "I" (.int 8)) (E_a1 : Exa Z h0 a1 "[B") :
    OwnMet l Z y_3 jdk_52_method_4_code 3 none ws Rm58 #[(.ref a1), (.int 1), (.int p2)] h0 (Q58 Z a1 p2 p5 p6 k7 h0 n0) := by
  refine own_body (plainFor_of_name pn_0) (ef_93e316 a1 p2) ?_
  intro p e s m below meth c s₁ hx hby hml hown hnm hret hZ X0 e0
  have N0 := Fr.nil n0
  obtain ⟨T3, X3, e3, st3⟩ := getS2 X0 hx hZ hown (host := "") (Or.inl (w_80 hw)) Via.refl e0 (S__assertionsDisabled.ext Od0.2) (g := (mkF m 0 #[.val (.ref a1), .val (.int 1), .val (.int p2)] [])) rfl (hb hby d18_0)
  obtain ⟨T4, X4, e4, st4⟩ := getS2 X3 hx hZ hown (host := "") (Or.inl (w_81 hw)) Via.refl e3 (S_HI_BYTE_SHIFT.ext Od0.2) (g := (mkF m 38 #[.val (.ref a1), .val (.int 3), .val (.int p2)] [(.int p2), (.int 2), (.ref a1)])) rfl (hb hby d18_38)
  obtain ⟨cl8, Ar8, q8, S8, M8, Hs8, G8⟩ := id V_a1
  have hin9 : ¬ ((2 : Int32) < 0 ∨ cl8.slots.size ≤ ((2 : Int32)).toNatClampNeg) := inb_of S8 ⟨(by decide : ¬ ((2 : Int32) < (0 : Int32))), (by decide : (2 : Int32) < (8 : Int32))⟩
  obtain ⟨T10, h10, X10, e10, W10, st10⟩ := stB X4 hx hZ e4 Ar8 (j := (2 : Int32)) hin9 (g := (mkF m 43 #[.val (.ref a1), .val (.int 3), .val (.int p2)] [(.int ((p2 >>> ((0 : Int32) &&& 31)).toInt8.toInt32)), (.int 2), (.ref a1)])) rfl rfl (hb hby d18_43)
  have s0 := (Keep.of_wr W10).1
  have N10 := Fr.snoc X10 N0 g_a1
  have Vs10 : Arv Z h10 a1 k7 .byte (8 : Int32) [(.int p5), (.int p6), (.int (nar .byte ((p2 >>> ((0 : Int32) &&& 31)).toInt8.toInt32))), (.int 0), (.int 0), (.int 0), (.int 0), (.int 0)] (.int 0) := Arv.set Ar8 q8 S8 M8 Hs8 G8 (fits_nar_byte _) W10 2 rfl (Nat.le_of_ble_eq_true rfl)
  have Od1 : Old Z n0 h10 := Od0.wr W10 g_a1
  obtain ⟨T11, X11, e11, st11⟩ := getS2 X10 hx hZ hown (host := "") (Or.inl (w_82 hw)) Via.refl e10 (S_LO_BYTE_SHIFT.ext Od1.2) (g := (mkF m 47 #[.val (.ref a1), .val (.int 3), .val (.int p2)] [(.int p2), (.int 3), (.ref a1)])) rfl (hb hby d18_47)
  obtain ⟨cl12, Ar12, q12, S12, M12, Hs12, G12⟩ := id Vs10
  have hin13 : ¬ ((3 : Int32) < 0 ∨ cl12.slots.size ≤ ((3 : Int32)).toNatClampNeg) := inb_of S12 ⟨(by decide : ¬ ((3 : Int32) < (0 : Int32))), (by decide : (3 : Int32) < (8 : Int32))⟩
  obtain ⟨T14, h14, X14, e14, W14, st14⟩ := stB X11 hx hZ e11 Ar12 (j := (3 : Int32)) hin13 (g := (mkF m 52 #[.val (.ref a1), .val (.int 3), .val (.int p2)] [(.int ((p2 >>> ((8 : Int32) &&& 31)).toInt8.toInt32)), (.int 3), (.ref a1)])) rfl rfl (hb hby d18_52)
  have s1 := (Keep.of_wr W14).1
  have N14 := Fr.snoc X14 N10 g_a1
  have Vs14 : Arv Z h14 a1 k7 .byte (8 : Int32) [(.int p5), (.int p6), (.int (nar .byte ((p2 >>> ((0 : Int32) &&& 31)).toInt8.toInt32))), (.int (nar .byte ((p2 >>> ((8 : Int32) &&& 31)).toInt8.toInt32))), (.int 0), (.int 0), (.int 0), (.int 0)] (.int 0) := Arv.set Ar12 q12 S12 M12 Hs12 G12 (fits_nar_byte _) W14 3 rfl (Nat.le_of_ble_eq_true rfl)
  have Ex15 := ((E_a1.wr W10).wr W14)
  have Kp0 : Keep h0 h10 [a1] := (Keep.refl h0 [a1]).wr W10 (Or.inl (List.mem_of_getElem? (i := 0) rfl))
  have Kp1 : Keep h0 h14 [a1] := Kp0.wr W14 (Or.inl (List.mem_of_getElem? (i := 0) rfl))
  refine ⟨T14, _, _, _, none, X14, (fun _ => rfl), by decide, by decide, ?_, fun fs hr => ?_⟩
  · rw [e14]
    exact ⟨rfl, N14, Kp1, Ex15, Vs14⟩
  · refine st3 _ ?_
    refine XS.ifYes X3.here hx rfl (pc0 := 3) (pc' := 28) rfl (hb hby d18_3) rfl ((if0 _ _).trans (feq ((by decide : ¬ ((1 : Int32) = (0 : Int32))) : ¬ ((1 : Int32) = (0 : Int32)))).2) (by decide) (by decide) ?_
    refine XS.iloadN X3.here hx rfl (hb hby d18_28) rfl ?_
    refine XS.iconst X3.here hx rfl (hb hby d18_29) ?_
    refine XS.ishl X3.here hx rfl (hb hby d18_30) rfl ?_
    refine XS.istoreN X3.here hx rfl (hb hby d18_31) rfl (l' := #[.val (.ref a1), .val (.int 2), .val (.int p2)]) rfl ?_
    refine XS.aloadN X3.here hx rfl (hb hby d18_32) rfl rfl ?_
    refine XS.iloadN X3.here hx rfl (hb hby d18_33) rfl ?_
    refine XS.iinc X3.here hx rfl (hb hby d18_34) rfl (l' := #[.val (.ref a1), .val (.int 3), .val (.int p2)]) rfl ?_
    refine XS.iloadN X3.here hx rfl (hb hby d18_37) rfl ?_
    refine st4 _ ?_
    show Steps p.tables e below (T4.setTop (mkF m 41 #[.val (.ref a1), .val (.int 3), .val (.int p2)] [(.int 0), (.int p2), (.int 2), (.ref a1)])) _
    refine XS.ishr X4.here hx rfl (hb hby d18_41) rfl ?_
    refine XS.i2b X4.here hx rfl (hb hby d18_42) rfl ?_
    refine st10 _ ?_
    refine XS.aloadN X10.here hx rfl (hb hby d18_44) rfl rfl ?_
    refine XS.iloadN X10.here hx rfl (hb hby d18_45) rfl ?_
    refine XS.iloadN X10.here hx rfl (hb hby d18_46) rfl ?_
    refine st11 _ ?_
    refine XS.ishr X11.here hx rfl (hb hby d18_50) rfl ?_
    refine XS.i2b X11.here hx rfl (hb hby d18_51) rfl ?_
    refine st14 _ ?_
    exact X14.returnOut hx hret (hb hby d18_53) hr
-- java/lang/StringUTF16.putChar([BII)V
abbrev Rm59 : Room := { frames := 0, cells := 0, slots := 0, locals := 0 }
def Q59 (Z : State) (a1 : Addr) (p2 : Int32) (p5 : Int32) (p6 : Int32) (p7 : Int32) (p8 : Int32) (k9 : ClassId) (h0 : Heap) (n0 : Nat) (v : Option Value) (h : Heap) (L : List Loc) : Prop := v = none ∧ Fr n0 L ∧ Keep h0 h [a1] ∧ Exa Z h a1 "[B" ∧ Arv Z h a1 k9 .byte (8 : Int32) [(.int p5), (.int p6), (.int p7), (.int p8), (.int (nar .byte ((p2 >>> ((0 : Int32) &&& 31)).toInt8.toInt32))), (.int (nar .byte ((p2 >>> ((8 : Int32) &&& 31)).toInt8.toInt32))), (.int 0), (.int 0)] (.int 0)
-- ef_ea841f
theorem rm59 (l : Launch) (Z : State) (a0 : Array Value) (hw : ∀ d ∈ tables_1, d.before a0 Z = true) (ws : List Jvm.Cond) (a1 : Addr) (p2 : Int32) (p5 : Int32) (p6 : Int32) (p7 : Int32) (p8 : Int32) (k9 : ClassId) (h0 : Heap) (n0 : Nat) (Z0 : n0 ≤ h0.size) (S__assertionsDisabled : Sta Z Z.heap "java/lang/StringUTF16" "$assertionsDisabled" "Z" (.int 1)) (Od0 : Old Z n0 h0) (S_HI_BYTE_SHIFT : Sta Z Z.heap "java/lang/StringUTF16" "HI_BYTE_SHIFT" "I" (.int 0)) (V_a1 : Arv Z h0 a1 k9 .byte (8 : Int32) [(.int p5), (.int p6), (.int p7), (.int p8), (.int 0), (.int 0), (.int 0), (.int 0)] (.int 0)) (g_a1 : n0 ≤ a1) (S_LO_BYTE_SHIFT : Sta Z Z.heap "java/lang/StringUTF16" "LO_BYTE_SHIFT" "I" (.int 8)) (E_a1 : Exa Z h0 a1 "[B") :
    OwnMet l Z y_3 jdk_52_method_4_code 3 none ws Rm59 #[(.ref a1), (.int 2), (.int p2)] h0 (Q59 Z a1 p2 p5 p6 p7 p8 k9 h0 n0) := by
  refine own_body (plainFor_of_name pn_0) (ef_ea841f a1 p2) ?_
  intro p e s m below meth c s₁ hx hby hml hown hnm hret hZ X0 e0
  have N0 := Fr.nil n0
  obtain ⟨T3, X3, e3, st3⟩ := getS2 X0 hx hZ hown (host := "") (Or.inl (w_80 hw)) Via.refl e0 (S__assertionsDisabled.ext Od0.2) (g := (mkF m 0 #[.val (.ref a1), .val (.int 2), .val (.int p2)] [])) rfl (hb hby d18_0)
  obtain ⟨T4, X4, e4, st4⟩ := getS2 X3 hx hZ hown (host := "") (Or.inl (w_81 hw)) Via.refl e3 (S_HI_BYTE_SHIFT.ext Od0.2) (g := (mkF m 38 #[.val (.ref a1), .val (.int 5), .val (.int p2)] [(.int p2), (.int 4), (.ref a1)])) rfl (hb hby d18_38)
  obtain ⟨cl10, Ar10, q10, S10, M10, Hs10, G10⟩ := id V_a1
  have hin11 : ¬ ((4 : Int32) < 0 ∨ cl10.slots.size ≤ ((4 : Int32)).toNatClampNeg) := inb_of S10 ⟨(by decide : ¬ ((4 : Int32) < (0 : Int32))), (by decide : (4 : Int32) < (8 : Int32))⟩
  obtain ⟨T12, h12, X12, e12, W12, st12⟩ := stB X4 hx hZ e4 Ar10 (j := (4 : Int32)) hin11 (g := (mkF m 43 #[.val (.ref a1), .val (.int 5), .val (.int p2)] [(.int ((p2 >>> ((0 : Int32) &&& 31)).toInt8.toInt32)), (.int 4), (.ref a1)])) rfl rfl (hb hby d18_43)
  have s0 := (Keep.of_wr W12).1
  have N12 := Fr.snoc X12 N0 g_a1
  have Vs12 : Arv Z h12 a1 k9 .byte (8 : Int32) [(.int p5), (.int p6), (.int p7), (.int p8), (.int (nar .byte ((p2 >>> ((0 : Int32) &&& 31)).toInt8.toInt32))), (.int 0), (.int 0), (.int 0)] (.int 0) := Arv.set Ar10 q10 S10 M10 Hs10 G10 (fits_nar_byte _) W12 4 rfl (Nat.le_of_ble_eq_true rfl)
  have Od1 : Old Z n0 h12 := Od0.wr W12 g_a1
  obtain ⟨T13, X13, e13, st13⟩ := getS2 X12 hx hZ hown (host := "") (Or.inl (w_82 hw)) Via.refl e12 (S_LO_BYTE_SHIFT.ext Od1.2) (g := (mkF m 47 #[.val (.ref a1), .val (.int 5), .val (.int p2)] [(.int p2), (.int 5), (.ref a1)])) rfl (hb hby d18_47)
  obtain ⟨cl14, Ar14, q14, S14, M14, Hs14, G14⟩ := id Vs12
  have hin15 : ¬ ((5 : Int32) < 0 ∨ cl14.slots.size ≤ ((5 : Int32)).toNatClampNeg) := inb_of S14 ⟨(by decide : ¬ ((5 : Int32) < (0 : Int32))), (by decide : (5 : Int32) < (8 : Int32))⟩
  obtain ⟨T16, h16, X16, e16, W16, st16⟩ := stB X13 hx hZ e13 Ar14 (j := (5 : Int32)) hin15 (g := (mkF m 52 #[.val (.ref a1), .val (.int 5), .val (.int p2)] [(.int ((p2 >>> ((8 : Int32) &&& 31)).toInt8.toInt32)), (.int 5), (.ref a1)])) rfl rfl (hb hby d18_52)
  have s1 := (Keep.of_wr W16).1
  have N16 := Fr.snoc X16 N12 g_a1
  have Vs16 : Arv Z h16 a1 k9 .byte (8 : Int32) [(.int p5), (.int p6), (.int p7), (.int p8), (.int (nar .byte ((p2 >>> ((0 : Int32) &&& 31)).toInt8.toInt32))), (.int (nar .byte ((p2 >>> ((8 : Int32) &&& 31)).toInt8.toInt32))), (.int 0), (.int 0)] (.int 0) := Arv.set Ar14 q14 S14 M14 Hs14 G14 (fits_nar_byte _) W16 5 rfl (Nat.le_of_ble_eq_true rfl)
  have Ex17 := ((E_a1.wr W12).wr W16)
  have Kp0 : Keep h0 h12 [a1] := (Keep.refl h0 [a1]).wr W12 (Or.inl (List.mem_of_getElem? (i := 0) rfl))
  have Kp1 : Keep h0 h16 [a1] := Kp0.wr W16 (Or.inl (List.mem_of_getElem? (i := 0) rfl))
  refine ⟨T16, _, _, _, none, X16, (fun _ => rfl), by decide, by decide, ?_, fun fs hr => ?_⟩
  · rw [e16]
    exact ⟨rfl, N16, Kp1, Ex17, Vs16⟩
  · refine st3 _ ?_
    refine XS.ifYes X3.here hx rfl (pc0 := 3) (pc' := 28) rfl (hb hby d18_3) rfl ((if0 _ _).trans (feq ((by decide : ¬ ((1 : Int32) = (0 : Int32))) : ¬ ((1 : Int32) = (0 : Int32)))).2) (by decide) (by decide) ?_
    refine XS.iloadN X3.here hx rfl (hb hby d18_28) rfl ?_
    refine XS.iconst X3.here hx rfl (hb hby d18_29) ?_
    refine XS.ishl X3.here hx rfl (hb hby d18_30) rfl ?_
    refine XS.istoreN X3.here hx rfl (hb hby d18_31) rfl (l' := #[.val (.ref a1), .val (.int 4), .val (.int p2)]) rfl ?_
    refine XS.aloadN X3.here hx rfl (hb hby d18_32) rfl rfl ?_
    refine XS.iloadN X3.here hx rfl (hb hby d18_33) rfl ?_
    refine XS.iinc X3.here hx rfl (hb hby d18_34) rfl (l' := #[.val (.ref a1), .val (.int 5), .val (.int p2)]) rfl ?_
    refine XS.iloadN X3.here hx rfl (hb hby d18_37) rfl ?_
    refine st4 _ ?_
    show Steps p.tables e below (T4.setTop (mkF m 41 #[.val (.ref a1), .val (.int 5), .val (.int p2)] [(.int 0), (.int p2), (.int 4), (.ref a1)])) _
    refine XS.ishr X4.here hx rfl (hb hby d18_41) rfl ?_
    refine XS.i2b X4.here hx rfl (hb hby d18_42) rfl ?_
    refine st12 _ ?_
    refine XS.aloadN X12.here hx rfl (hb hby d18_44) rfl rfl ?_
    refine XS.iloadN X12.here hx rfl (hb hby d18_45) rfl ?_
    refine XS.iloadN X12.here hx rfl (hb hby d18_46) rfl ?_
    refine st13 _ ?_
    refine XS.ishr X13.here hx rfl (hb hby d18_50) rfl ?_
    refine XS.i2b X13.here hx rfl (hb hby d18_51) rfl ?_
    refine st16 _ ?_
    exact X16.returnOut hx hret (hb hby d18_53) hr
theorem ef_4801b2 (a1 : Addr) (p2 : Int32) (m : MethodId) : entryFrame m #[(.ref a1), (.int 3), (.int p2)] 3 = mkF m 0 #[.val (.ref a1), .val (.int 3), .val (.int p2)] [] := by first | (simp [entryFrame, mkF, argsToLocals, Value.category]; done) | rfl
-- java/lang/StringUTF16.putChar([BII)V
abbrev Rm60 : Room := { frames := 0, cells := 0, slots := 0, locals := 0 }
def Q60 (Z : State) (a1 : Addr) (p2 : Int32) (p5 : Int32) (p6 : Int32) (p7 : Int32) (p8 : Int32) (p9 : Int32) (p10 : Int32) (k11 : ClassId) (h0 : Heap) (n0 : Nat) (v : Option Value) (h : Heap) (L : List Loc) : Prop := v = none ∧ Fr n0 L ∧ Keep h0 h [a1] ∧ Exa Z h a1 "[B" ∧ Arv Z h a1 k11 .byte (8 : Int32) [(.int p5), (.int p6), (.int p7), (.int p8), (.int p9), (.int p10), (.int (nar .byte ((p2 >>> ((0 : Int32) &&& 31)).toInt8.toInt32))), (.int (nar .byte ((p2 >>> ((8 : Int32) &&& 31)).toInt8.toInt32)))] (.int 0)
-- ef_4801b2
theorem rm60 (l : Launch) (Z : State) (a0 : Array Value) (hw : ∀ d ∈ tables_1, d.before a0 Z = true) (ws : List Jvm.Cond) (a1 : Addr) (p2 : Int32) (p5 : Int32) (p6 : Int32) (p7 : Int32) (p8 : Int32) (p9 : Int32) (p10 : Int32) (k11 : ClassId) (h0 : Heap) (n0 : Nat) (Z0 : n0 ≤ h0.size) (S__assertionsDisabled : Sta Z Z.heap "java/lang/StringUTF16" "$assertionsDisabled" "Z" (.int 1)) (Od0 : Old Z n0 h0) (S_HI_BYTE_SHIFT : Sta Z Z.heap "java/lang/StringUTF16" "HI_BYTE_SHIFT" "I" (.int 0)) (V_a1 : Arv Z h0 a1 k11 .byte (8 : Int32) [(.int p5), (.int p6), (.int p7), (.int p8), (.int p9), (.int p10), (.int 0), (.int 0)] (.int 0)) (g_a1 : n0 ≤ a1) (S_LO_BYTE_SHIFT : Sta Z Z.heap "java/lang/StringUTF16" "LO_BYTE_SHIFT" "I" (.int 8)) (E_a1 : Exa Z h0 a1 "[B") :
    OwnMet l Z y_3 jdk_52_method_4_code 3 none ws Rm60 #[(.ref a1), (.int 3), (.int p2)] h0 (Q60 Z a1 p2 p5 p6 p7 p8 p9 p10 k11 h0 n0) := by
  refine own_body (plainFor_of_name pn_0) (ef_4801b2 a1 p2) ?_
  intro p e s m below meth c s₁ hx hby hml hown hnm hret hZ X0 e0
  have N0 := Fr.nil n0
  obtain ⟨T3, X3, e3, st3⟩ := getS2 X0 hx hZ hown (host := "") (Or.inl (w_80 hw)) Via.refl e0 (S__assertionsDisabled.ext Od0.2) (g := (mkF m 0 #[.val (.ref a1), .val (.int 3), .val (.int p2)] [])) rfl (hb hby d18_0)
  obtain ⟨T4, X4, e4, st4⟩ := getS2 X3 hx hZ hown (host := "") (Or.inl (w_81 hw)) Via.refl e3 (S_HI_BYTE_SHIFT.ext Od0.2) (g := (mkF m 38 #[.val (.ref a1), .val (.int 7), .val (.int p2)] [(.int p2), (.int 6), (.ref a1)])) rfl (hb hby d18_38)
  obtain ⟨cl12, Ar12, q12, S12, M12, Hs12, G12⟩ := id V_a1
  have hin13 : ¬ ((6 : Int32) < 0 ∨ cl12.slots.size ≤ ((6 : Int32)).toNatClampNeg) := inb_of S12 ⟨(by decide : ¬ ((6 : Int32) < (0 : Int32))), (by decide : (6 : Int32) < (8 : Int32))⟩
  obtain ⟨T14, h14, X14, e14, W14, st14⟩ := stB X4 hx hZ e4 Ar12 (j := (6 : Int32)) hin13 (g := (mkF m 43 #[.val (.ref a1), .val (.int 7), .val (.int p2)] [(.int ((p2 >>> ((0 : Int32) &&& 31)).toInt8.toInt32)), (.int 6), (.ref a1)])) rfl rfl (hb hby d18_43)
  have s0 := (Keep.of_wr W14).1
  have N14 := Fr.snoc X14 N0 g_a1
  have Vs14 : Arv Z h14 a1 k11 .byte (8 : Int32) [(.int p5), (.int p6), (.int p7), (.int p8), (.int p9), (.int p10), (.int (nar .byte ((p2 >>> ((0 : Int32) &&& 31)).toInt8.toInt32))), (.int 0)] (.int 0) := Arv.set Ar12 q12 S12 M12 Hs12 G12 (fits_nar_byte _) W14 6 rfl (Nat.le_of_ble_eq_true rfl)
  have Od1 : Old Z n0 h14 := Od0.wr W14 g_a1
  obtain ⟨T15, X15, e15, st15⟩ := getS2 X14 hx hZ hown (host := "") (Or.inl (w_82 hw)) Via.refl e14 (S_LO_BYTE_SHIFT.ext Od1.2) (g := (mkF m 47 #[.val (.ref a1), .val (.int 7), .val (.int p2)] [(.int p2), (.int 7), (.ref a1)])) rfl (hb hby d18_47)
  obtain ⟨cl16, Ar16, q16, S16, M16, Hs16, G16⟩ := id Vs14
  have hin17 : ¬ ((7 : Int32) < 0 ∨ cl16.slots.size ≤ ((7 : Int32)).toNatClampNeg) := inb_of S16 ⟨(by decide : ¬ ((7 : Int32) < (0 : Int32))), (by decide : (7 : Int32) < (8 : Int32))⟩
  obtain ⟨T18, h18, X18, e18, W18, st18⟩ := stB X15 hx hZ e15 Ar16 (j := (7 : Int32)) hin17 (g := (mkF m 52 #[.val (.ref a1), .val (.int 7), .val (.int p2)] [(.int ((p2 >>> ((8 : Int32) &&& 31)).toInt8.toInt32)), (.int 7), (.ref a1)])) rfl rfl (hb hby d18_52)
  have s1 := (Keep.of_wr W18).1
  have N18 := Fr.snoc X18 N14 g_a1
  have Vs18 : Arv Z h18 a1 k11 .byte (8 : Int32) [(.int p5), (.int p6), (.int p7), (.int p8), (.int p9), (.int p10), (.int (nar .byte ((p2 >>> ((0 : Int32) &&& 31)).toInt8.toInt32))), (.int (nar .byte ((p2 >>> ((8 : Int32) &&& 31)).toInt8.toInt32)))] (.int 0) := Arv.set Ar16 q16 S16 M16 Hs16 G16 (fits_nar_byte _) W18 7 rfl (Nat.le_of_ble_eq_true rfl)
  have Ex19 := ((E_a1.wr W14).wr W18)
  have Kp0 : Keep h0 h14 [a1] := (Keep.refl h0 [a1]).wr W14 (Or.inl (List.mem_of_getElem? (i := 0) rfl))
  have Kp1 : Keep h0 h18 [a1] := Kp0.wr W18 (Or.inl (List.mem_of_getElem? (i := 0) rfl))
  refine ⟨T18, _, _, _, none, X18, (fun _ => rfl), by decide, by decide, ?_, fun fs hr => ?_⟩
  · rw [e18]
    exact ⟨rfl, N18, Kp1, Ex19, Vs18⟩
  · refine st3 _ ?_
    refine XS.ifYes X3.here hx rfl (pc0 := 3) (pc' := 28) rfl (hb hby d18_3) rfl ((if0 _ _).trans (feq ((by decide : ¬ ((1 : Int32) = (0 : Int32))) : ¬ ((1 : Int32) = (0 : Int32)))).2) (by decide) (by decide) ?_
    refine XS.iloadN X3.here hx rfl (hb hby d18_28) rfl ?_
    refine XS.iconst X3.here hx rfl (hb hby d18_29) ?_
    refine XS.ishl X3.here hx rfl (hb hby d18_30) rfl ?_
    refine XS.istoreN X3.here hx rfl (hb hby d18_31) rfl (l' := #[.val (.ref a1), .val (.int 6), .val (.int p2)]) rfl ?_
    refine XS.aloadN X3.here hx rfl (hb hby d18_32) rfl rfl ?_
    refine XS.iloadN X3.here hx rfl (hb hby d18_33) rfl ?_
    refine XS.iinc X3.here hx rfl (hb hby d18_34) rfl (l' := #[.val (.ref a1), .val (.int 7), .val (.int p2)]) rfl ?_
    refine XS.iloadN X3.here hx rfl (hb hby d18_37) rfl ?_
    refine st4 _ ?_
    show Steps p.tables e below (T4.setTop (mkF m 41 #[.val (.ref a1), .val (.int 7), .val (.int p2)] [(.int 0), (.int p2), (.int 6), (.ref a1)])) _
    refine XS.ishr X4.here hx rfl (hb hby d18_41) rfl ?_
    refine XS.i2b X4.here hx rfl (hb hby d18_42) rfl ?_
    refine st14 _ ?_
    refine XS.aloadN X14.here hx rfl (hb hby d18_44) rfl rfl ?_
    refine XS.iloadN X14.here hx rfl (hb hby d18_45) rfl ?_
    refine XS.iloadN X14.here hx rfl (hb hby d18_46) rfl ?_
    refine st15 _ ?_
    refine XS.ishr X15.here hx rfl (hb hby d18_50) rfl ?_
    refine XS.i2b X15.here hx rfl (hb hby d18_51) rfl ?_
    refine st18 _ ?_
    exact X18.returnOut hx hret (hb hby d18_53) hr
theorem ef_39a2d8 (a1 : Addr) (m : MethodId) : entryFrame m #[(.ref a1), (.int 0), (.int 4)] 5 = mkF m 0 #[.val (.ref a1), .val (.int 0), .val (.int 4), .unset, .unset] [] := by first | (simp [entryFrame, mkF, argsToLocals, Value.category]; done) | rfl
-- java/lang/StringUTF16.toBytes([CII)[B
abbrev Rm61 : Room := { frames := 2, cells := 1, slots := 8, locals := 24 }
def Q61 (Z : State) (a1 : Addr) (p3 : Int32) (p4 : Int32) (p5 : Int32) (p6 : Int32) (k7 : ClassId) (h0 : Heap) (n0 : Nat) (v : Option Value) (h : Heap) (L : List Loc) : Prop := ∃ b2_b2 : Addr, ∃ k2_k2 : ClassId, v = some (.ref b2_b2) ∧ Fr n0 L ∧ Keep h0 h [] ∧ h0.size ≤ b2_b2 ∧ Exa Z h b2_b2 "[B" ∧ Arv Z h b2_b2 k2_k2 .byte (8 : Int32) [(.int (nar .byte ((p3 >>> ((0 : Int32) &&& 31)).toInt8.toInt32))), (.int (nar .byte ((p3 >>> ((8 : Int32) &&& 31)).toInt8.toInt32))), (.int (nar .byte ((p4 >>> ((0 : Int32) &&& 31)).toInt8.toInt32))), (.int (nar .byte ((p4 >>> ((8 : Int32) &&& 31)).toInt8.toInt32))), (.int (nar .byte ((p5 >>> ((0 : Int32) &&& 31)).toInt8.toInt32))), (.int (nar .byte ((p5 >>> ((8 : Int32) &&& 31)).toInt8.toInt32))), (.int (nar .byte ((p6 >>> ((0 : Int32) &&& 31)).toInt8.toInt32))), (.int (nar .byte ((p6 >>> ((8 : Int32) &&& 31)).toInt8.toInt32)))] (.int 0)
-- ef_39a2d8
theorem rm61 (l : Launch) (Z : State) (a0 : Array Value) (hw : ∀ d ∈ tables_1, d.before a0 Z = true) (ws : List Jvm.Cond) (a1 : Addr) (p3 : Int32) (p4 : Int32) (p5 : Int32) (p6 : Int32) (k7 : ClassId) (h0 : Heap) (n0 : Nat) (Z0 : n0 ≤ h0.size) (V_a1 : Arv Z h0 a1 k7 .char (4 : Int32) [(.int p3), (.int p4), (.int p5), (.int p6)] (.int 0)) (S__assertionsDisabled : Sta Z Z.heap "java/lang/StringUTF16" "$assertionsDisabled" "Z" (.int 1)) (Od0 : Old Z n0 h0) (S_HI_BYTE_SHIFT : Sta Z Z.heap "java/lang/StringUTF16" "HI_BYTE_SHIFT" "I" (.int 0)) (S_LO_BYTE_SHIFT : Sta Z Z.heap "java/lang/StringUTF16" "LO_BYTE_SHIFT" "I" (.int 8)) :
    OwnMet l Z y_4 jdk_52_method_14_code 5 (some (.array .byte)) ws Rm61 #[(.ref a1), (.int 0), (.int 4)] h0 (Q61 Z a1 p3 p4 p5 p6 k7 h0 n0) := by
  refine own_body (plainFor_of_name pn_0) (ef_39a2d8 a1) ?_
  intro p e s m below meth c s₁ hx hby hml hown hnm hret hZ X0 e0
  have N0 := Fr.nil n0
  obtain ⟨_, T2, L2, X2, hQ2, st2⟩ := own_callS X0 hx hZ hown (y := y_2) (w_70 hw) (w_71 hw) (w_18 hw) (w_72 hw) (rm56 l Z a0 hw []  h0 n0 Z0) e0 (Ls := #[.val (.ref a1), .val (.int 0), .val (.int 4), .unset, .unset]) (by rw [hml]; rfl) (argsL := [(.int 4)]) (rest := []) (lenOf pd_2 rfl) (hb hby d15_1) (W := 0)
  obtain ⟨b2_b2, k2_k2, rfl, Nq2, K2, o2_0, o2_1, o2_2⟩ := hQ2
  have N2 := Fr.app N0 Nq2
  have s0 := K2.1
  have Va8 := (V_a1.keep K2 nin0)
  obtain ⟨cl9, Ar9, q9, S9, M9, Hs9, G9⟩ := id Va8
  have hin10 : ¬ ((0 : Int32) < 0 ∨ cl9.slots.size ≤ ((0 : Int32)).toNatClampNeg) := inb_of S9 ⟨(by decide : ¬ ((0 : Int32) < (0 : Int32))), (by decide : (0 : Int32) < (4 : Int32))⟩
  have Od1 : Old Z n0 T2.heap := Od0.keep K2 all0
  have g_b2_b2 : n0 ≤ b2_b2 := Nat.le_trans Z0 o2_0
  have z1 := Nat.le_trans Z0 s0
  obtain ⟨_, T11, L11, X11, hQ11, st11⟩ := own_callS X2 hx hZ hown (y := y_3) (w_77 hw) (w_78 hw) (w_18 hw) (w_79 hw) (rm57 l Z a0 hw [] b2_b2 p3 k2_k2 T2.heap n0 z1 S__assertionsDisabled Od1 S_HI_BYTE_SHIFT o2_2 g_b2_b2 S_LO_BYTE_SHIFT o2_1) rfl (Ls := #[.val (.ref a1), .val (.int 0), .val (.int 4), .val (.ref b2_b2), .val (.int 0)]) (by rw [hml]; rfl) (argsL := [(.ref b2_b2), (.int 0), (.int p3)]) (rest := []) (lenOf pd_3 rfl) (hb hby d15_20) (W := 0)
  obtain ⟨rfl, Nq11, K11, o11_0, o11_1⟩ := hQ11
  have N11 := Fr.app N2 Nq11
  have s1 := K11.1
  have ne_a1_b2_b2 := Nat.ne_of_lt (Nat.lt_of_lt_of_le V_a1.lt o2_0)
  have Va12 := (Va8.keep K11 (ninS ne_a1_b2_b2 nin0))
  obtain ⟨cl13, Ar13, q13, S13, M13, Hs13, G13⟩ := id Va12
  have hin14 : ¬ ((1 : Int32) < 0 ∨ cl13.slots.size ≤ ((1 : Int32)).toNatClampNeg) := inb_of S13 ⟨(by decide : ¬ ((1 : Int32) < (0 : Int32))), (by decide : (1 : Int32) < (4 : Int32))⟩
  have Od2 : Old Z n0 T11.heap := Od1.keep K11 (allS g_b2_b2 all0)
  have z2 := Nat.le_trans Z0 (Nat.le_trans s0 s1)
  obtain ⟨_, T15, L15, X15, hQ15, st15⟩ := own_callS X11 hx hZ hown (y := y_3) (w_77 hw) (w_78 hw) (w_18 hw) (w_79 hw) (rm58 l Z a0 hw [] b2_b2 p4 (nar .byte ((p3 >>> ((0 : Int32) &&& 31)).toInt8.toInt32)) (nar .byte ((p3 >>> ((8 : Int32) &&& 31)).toInt8.toInt32)) k2_k2 T11.heap n0 z2 S__assertionsDisabled Od2 S_HI_BYTE_SHIFT o11_1 g_b2_b2 S_LO_BYTE_SHIFT o11_0) rfl (Ls := #[.val (.ref a1), .val (.int 1), .val (.int 4), .val (.ref b2_b2), .val (.int 1)]) (by rw [hml]; rfl) (argsL := [(.ref b2_b2), (.int 1), (.int p4)]) (rest := []) (lenOf pd_3 rfl) (hb hby d15_20) (W := 0)
  obtain ⟨rfl, Nq15, K15, o15_0, o15_1⟩ := hQ15
  have N15 := Fr.app N11 Nq15
  have s2 := K15.1
  have Va16 := (Va12.keep K15 (ninS ne_a1_b2_b2 nin0))
  obtain ⟨cl17, Ar17, q17, S17, M17, Hs17, G17⟩ := id Va16
  have hin18 : ¬ ((2 : Int32) < 0 ∨ cl17.slots.size ≤ ((2 : Int32)).toNatClampNeg) := inb_of S17 ⟨(by decide : ¬ ((2 : Int32) < (0 : Int32))), (by decide : (2 : Int32) < (4 : Int32))⟩
  have Od3 : Old Z n0 T15.heap := Od2.keep K15 (allS g_b2_b2 all0)
  have z3 := Nat.le_trans Z0 (Nat.le_trans (Nat.le_trans s0 s1) s2)
  obtain ⟨_, T19, L19, X19, hQ19, st19⟩ := own_callS X15 hx hZ hown (y := y_3) (w_77 hw) (w_78 hw) (w_18 hw) (w_79 hw) (rm59 l Z a0 hw [] b2_b2 p5 (nar .byte ((p3 >>> ((0 : Int32) &&& 31)).toInt8.toInt32)) (nar .byte ((p3 >>> ((8 : Int32) &&& 31)).toInt8.toInt32)) (nar .byte ((p4 >>> ((0 : Int32) &&& 31)).toInt8.toInt32)) (nar .byte ((p4 >>> ((8 : Int32) &&& 31)).toInt8.toInt32)) k2_k2 T15.heap n0 z3 S__assertionsDisabled Od3 S_HI_BYTE_SHIFT o15_1 g_b2_b2 S_LO_BYTE_SHIFT o15_0) rfl (Ls := #[.val (.ref a1), .val (.int 2), .val (.int 4), .val (.ref b2_b2), .val (.int 2)]) (by rw [hml]; rfl) (argsL := [(.ref b2_b2), (.int 2), (.int p5)]) (rest := []) (lenOf pd_3 rfl) (hb hby d15_20) (W := 0)
  obtain ⟨rfl, Nq19, K19, o19_0, o19_1⟩ := hQ19
  have N19 := Fr.app N15 Nq19
  have s3 := K19.1
  have Va20 := (Va16.keep K19 (ninS ne_a1_b2_b2 nin0))
  obtain ⟨cl21, Ar21, q21, S21, M21, Hs21, G21⟩ := id Va20
  have hin22 : ¬ ((3 : Int32) < 0 ∨ cl21.slots.size ≤ ((3 : Int32)).toNatClampNeg) := inb_of S21 ⟨(by decide : ¬ ((3 : Int32) < (0 : Int32))), (by decide : (3 : Int32) < (4 : Int32))⟩
  have Od4 : Old Z n0 T19.heap := Od3.keep K19 (allS g_b2_b2 all0)
  have z4 := Nat.le_trans Z0 (Nat.le_trans (Nat.le_trans (Nat.le_trans s0 s1) s2) s3)
  obtain ⟨_, T23, L23, X23, hQ23, st23⟩ := own_callS X19 hx hZ hown (y := y_3) (w_77 hw) (w_78 hw) (w_18 hw) (w_79 hw) (rm60 l Z a0 hw [] b2_b2 p6 (nar .byte ((p3 >>> ((0 : Int32) &&& 31)).toInt8.toInt32)) (nar .byte ((p3 >>> ((8 : Int32) &&& 31)).toInt8.toInt32)) (nar .byte ((p4 >>> ((0 : Int32) &&& 31)).toInt8.toInt32)) (nar .byte ((p4 >>> ((8 : Int32) &&& 31)).toInt8.toInt32)) (nar .byte ((p5 >>> ((0 : Int32) &&& 31)).toInt8.toInt32)) (nar .byte ((p5 >>> ((8 : Int32) &&& 31)).toInt8.toInt32)) k2_k2 T19.heap n0 z4 S__assertionsDisabled Od4 S_HI_BYTE_SHIFT o19_1 g_b2_b2 S_LO_BYTE_SHIFT o19_0) rfl (Ls := #[.val (.ref a1), .val (.int 3), .val (.int 4), .val (.ref b2_b2), .val (.int 3)]) (by rw [hml]; rfl) (argsL := [(.ref b2_b2), (.int 3), (.int p6)]) (rest := []) (lenOf pd_3 rfl) (hb hby d15_20) (W := 0)
  obtain ⟨rfl, Nq23, K23, o23_0, o23_1⟩ := hQ23
  have N23 := Fr.app N19 Nq23
  have s4 := K23.1
  have sz_b2_b2 : h0.size ≤ b2_b2 := o2_0
  have Kp0 : Keep h0 T2.heap [] := (Keep.refl h0 []).trans K2 all0
  have Kp1 : Keep h0 T11.heap [] := Kp0.trans K11 (allS (Or.inr sz_b2_b2) all0)
  have Kp2 : Keep h0 T15.heap [] := Kp1.trans K15 (allS (Or.inr sz_b2_b2) all0)
  have Kp3 : Keep h0 T19.heap [] := Kp2.trans K19 (allS (Or.inr sz_b2_b2) all0)
  have Kp4 : Keep h0 T23.heap [] := Kp3.trans K23 (allS (Or.inr sz_b2_b2) all0)
  refine ⟨T23, _, _, _, (some (.ref b2_b2)), X23, nofun, by decide, by decide, ?_, fun fs hr => ?_⟩
  · exact ⟨b2_b2, k2_k2, rfl, N23, Kp4, sz_b2_b2, o23_0, o23_1⟩
  · refine XS.iloadN X0.here hx rfl (hb hby d15_0) rfl ?_
    refine st2 _ ?_
    refine XS.astoreN X2.here hx rfl (hb hby d15_4) rfl rfl (l' := #[.val (.ref a1), .val (.int 0), .val (.int 4), .val (.ref b2_b2), .unset]) rfl ?_
    refine XS.iconst X2.here hx rfl (hb hby d15_5) ?_
    refine XS.istore X2.here hx rfl (hb hby d15_6) rfl (l' := #[.val (.ref a1), .val (.int 0), .val (.int 4), .val (.ref b2_b2), .val (.int 0)]) rfl ?_
    refine XS.iload X2.here hx rfl (hb hby d15_8) rfl ?_
    refine XS.iloadN X2.here hx rfl (hb hby d15_10) rfl ?_
    refine XS.icmpNo X2.here hx rfl (hb hby d15_11) rfl (tlt ((by decide : (0 : Int32) < (4 : Int32)) : (0 : Int32) < (4 : Int32))).2.1 ?_
    refine XS.aloadN X2.here hx rfl (hb hby d15_14) rfl rfl ?_
    refine XS.iload X2.here hx rfl (hb hby d15_15) rfl ?_
    refine XS.aloadN X2.here hx rfl (hb hby d15_17) rfl rfl ?_
    show Steps p.tables e below (T2.setTop (mkF m 18 #[.val (.ref a1), .val (.int 0), .val (.int 4), .val (.ref b2_b2), .val (.int 0)] [(.ref a1), (.int 0), (.ref b2_b2)])) _
    refine XS.iloadN X2.here hx rfl (hb hby d15_18) rfl ?_
    refine X2.caload hx (j := (0 : Int32)) (v := (.int p3)) (Ar9.1) (State.isArrayOf_alike hZ.alike Ar9.2.1) Ar9.2.2 hin10 (Has.at Hs9 hin10 rfl) (g := (mkF m 19 #[.val (.ref a1), .val (.int 0), .val (.int 4), .val (.ref b2_b2), .val (.int 0)] [(.int 0), (.ref a1), (.int 0), (.ref b2_b2)])) rfl rfl (hb hby d15_19) _ ?_
    refine st11 _ ?_
    refine XS.iinc X11.here hx rfl (hb hby d15_23) rfl (l' := #[.val (.ref a1), .val (.int 1), .val (.int 4), .val (.ref b2_b2), .val (.int 0)]) rfl ?_
    refine XS.iinc X11.here hx rfl (hb hby d15_26) rfl (l' := #[.val (.ref a1), .val (.int 1), .val (.int 4), .val (.ref b2_b2), .val (.int 1)]) rfl ?_
    refine XS.goto X11.here hx rfl (pc0 := 29) (pc' := 8) rfl (hb hby d15_29) (by decide) (by decide) ?_
    refine XS.iload X11.here hx rfl (hb hby d15_8) rfl ?_
    refine XS.iloadN X11.here hx rfl (hb hby d15_10) rfl ?_
    refine XS.icmpNo X11.here hx rfl (hb hby d15_11) rfl (tlt ((by decide : (1 : Int32) < (4 : Int32)) : (1 : Int32) < (4 : Int32))).2.1 ?_
    refine XS.aloadN X11.here hx rfl (hb hby d15_14) rfl rfl ?_
    refine XS.iload X11.here hx rfl (hb hby d15_15) rfl ?_
    refine XS.aloadN X11.here hx rfl (hb hby d15_17) rfl rfl ?_
    show Steps p.tables e below (T11.setTop (mkF m 18 #[.val (.ref a1), .val (.int 1), .val (.int 4), .val (.ref b2_b2), .val (.int 1)] [(.ref a1), (.int 1), (.ref b2_b2)])) _
    refine XS.iloadN X11.here hx rfl (hb hby d15_18) rfl ?_
    refine X11.caload hx (j := (1 : Int32)) (v := (.int p4)) (Ar13.1) (State.isArrayOf_alike hZ.alike Ar13.2.1) Ar13.2.2 hin14 (Has.at Hs13 hin14 rfl) (g := (mkF m 19 #[.val (.ref a1), .val (.int 1), .val (.int 4), .val (.ref b2_b2), .val (.int 1)] [(.int 1), (.ref a1), (.int 1), (.ref b2_b2)])) rfl rfl (hb hby d15_19) _ ?_
    refine st15 _ ?_
    refine XS.iinc X15.here hx rfl (hb hby d15_23) rfl (l' := #[.val (.ref a1), .val (.int 2), .val (.int 4), .val (.ref b2_b2), .val (.int 1)]) rfl ?_
    refine XS.iinc X15.here hx rfl (hb hby d15_26) rfl (l' := #[.val (.ref a1), .val (.int 2), .val (.int 4), .val (.ref b2_b2), .val (.int 2)]) rfl ?_
    refine XS.goto X15.here hx rfl (pc0 := 29) (pc' := 8) rfl (hb hby d15_29) (by decide) (by decide) ?_
    refine XS.iload X15.here hx rfl (hb hby d15_8) rfl ?_
    refine XS.iloadN X15.here hx rfl (hb hby d15_10) rfl ?_
    refine XS.icmpNo X15.here hx rfl (hb hby d15_11) rfl (tlt ((by decide : (2 : Int32) < (4 : Int32)) : (2 : Int32) < (4 : Int32))).2.1 ?_
    refine XS.aloadN X15.here hx rfl (hb hby d15_14) rfl rfl ?_
    refine XS.iload X15.here hx rfl (hb hby d15_15) rfl ?_
    refine XS.aloadN X15.here hx rfl (hb hby d15_17) rfl rfl ?_
    show Steps p.tables e below (T15.setTop (mkF m 18 #[.val (.ref a1), .val (.int 2), .val (.int 4), .val (.ref b2_b2), .val (.int 2)] [(.ref a1), (.int 2), (.ref b2_b2)])) _
    refine XS.iloadN X15.here hx rfl (hb hby d15_18) rfl ?_
    refine X15.caload hx (j := (2 : Int32)) (v := (.int p5)) (Ar17.1) (State.isArrayOf_alike hZ.alike Ar17.2.1) Ar17.2.2 hin18 (Has.at Hs17 hin18 rfl) (g := (mkF m 19 #[.val (.ref a1), .val (.int 2), .val (.int 4), .val (.ref b2_b2), .val (.int 2)] [(.int 2), (.ref a1), (.int 2), (.ref b2_b2)])) rfl rfl (hb hby d15_19) _ ?_
    refine st19 _ ?_
    refine XS.iinc X19.here hx rfl (hb hby d15_23) rfl (l' := #[.val (.ref a1), .val (.int 3), .val (.int 4), .val (.ref b2_b2), .val (.int 2)]) rfl ?_
    refine XS.iinc X19.here hx rfl (hb hby d15_26) rfl (l' := #[.val (.ref a1), .val (.int 3), .val (.int 4), .val (.ref b2_b2), .val (.int 3)]) rfl ?_
    refine XS.goto X19.here hx rfl (pc0 := 29) (pc' := 8) rfl (hb hby d15_29) (by decide) (by decide) ?_
    refine XS.iload X19.here hx rfl (hb hby d15_8) rfl ?_
    refine XS.iloadN X19.here hx rfl (hb hby d15_10) rfl ?_
    refine XS.icmpNo X19.here hx rfl (hb hby d15_11) rfl (tlt ((by decide : (3 : Int32) < (4 : Int32)) : (3 : Int32) < (4 : Int32))).2.1 ?_
    refine XS.aloadN X19.here hx rfl (hb hby d15_14) rfl rfl ?_
    refine XS.iload X19.here hx rfl (hb hby d15_15) rfl ?_
    refine XS.aloadN X19.here hx rfl (hb hby d15_17) rfl rfl ?_
    show Steps p.tables e below (T19.setTop (mkF m 18 #[.val (.ref a1), .val (.int 3), .val (.int 4), .val (.ref b2_b2), .val (.int 3)] [(.ref a1), (.int 3), (.ref b2_b2)])) _
    refine XS.iloadN X19.here hx rfl (hb hby d15_18) rfl ?_
    refine X19.caload hx (j := (3 : Int32)) (v := (.int p6)) (Ar21.1) (State.isArrayOf_alike hZ.alike Ar21.2.1) Ar21.2.2 hin22 (Has.at Hs21 hin22 rfl) (g := (mkF m 19 #[.val (.ref a1), .val (.int 3), .val (.int 4), .val (.ref b2_b2), .val (.int 3)] [(.int 3), (.ref a1), (.int 3), (.ref b2_b2)])) rfl rfl (hb hby d15_19) _ ?_
    refine st23 _ ?_
    refine XS.iinc X23.here hx rfl (hb hby d15_23) rfl (l' := #[.val (.ref a1), .val (.int 4), .val (.int 4), .val (.ref b2_b2), .val (.int 3)]) rfl ?_
    refine XS.iinc X23.here hx rfl (hb hby d15_26) rfl (l' := #[.val (.ref a1), .val (.int 4), .val (.int 4), .val (.ref b2_b2), .val (.int 4)]) rfl ?_
    refine XS.goto X23.here hx rfl (pc0 := 29) (pc' := 8) rfl (hb hby d15_29) (by decide) (by decide) ?_
    refine XS.iload X23.here hx rfl (hb hby d15_8) rfl ?_
    refine XS.iloadN X23.here hx rfl (hb hby d15_10) rfl ?_
    refine XS.icmpYes X23.here hx rfl (pc0 := 11) (pc' := 32) rfl (hb hby d15_11) rfl (flt ((by decide : ¬ ((4 : Int32) < (4 : Int32))) : ¬ ((4 : Int32) < (4 : Int32)))).2.1 (by decide) (by decide) ?_
    refine XS.aloadN X23.here hx rfl (hb hby d15_32) rfl rfl ?_
    exact retOut X23 hx hret rfl (Or.inr (Or.inr (Or.inr (Or.inr ⟨rfl, rfl, rfl⟩)))) (hb hby d15_33) hr
-- java/lang/StringUTF16.getChar([BI)C
abbrev Rm62 : Room := { frames := 0, cells := 0, slots := 0, locals := 0 }
def Q62 (Z : State) (a1 : Addr) (p3 : Int32) (p4 : Int32) (p5 : Int32) (p6 : Int32) (p7 : Int32) (p8 : Int32) (p9 : Int32) (p10 : Int32) (k11 : ClassId) (h0 : Heap) (n0 : Nat) (v : Option Value) (h : Heap) (L : List Loc) : Prop := v = some (.int (nar .char ((((p3 &&& (255 : Int32)) <<< ((0 : Int32) &&& 31)) ||| ((p4 &&& (255 : Int32)) <<< ((8 : Int32) &&& 31))).toUInt32.toUInt16.toUInt32.toInt32))) ∧ Fr n0 L ∧ h = h0
-- ef_ed7d6e
theorem rm62 (l : Launch) (Z : State) (a0 : Array Value) (hw : ∀ d ∈ tables_1, d.before a0 Z = true) (ws : List Jvm.Cond) (a1 : Addr) (p3 : Int32) (p4 : Int32) (p5 : Int32) (p6 : Int32) (p7 : Int32) (p8 : Int32) (p9 : Int32) (p10 : Int32) (k11 : ClassId) (h0 : Heap) (n0 : Nat) (Z0 : n0 ≤ h0.size) (S__assertionsDisabled : Sta Z Z.heap "java/lang/StringUTF16" "$assertionsDisabled" "Z" (.int 1)) (Od0 : Old Z n0 h0) (V_a1 : Arv Z h0 a1 k11 .byte (8 : Int32) [(.int p3), (.int p4), (.int p5), (.int p6), (.int p7), (.int p8), (.int p9), (.int p10)] (.int 0)) (S_HI_BYTE_SHIFT : Sta Z Z.heap "java/lang/StringUTF16" "HI_BYTE_SHIFT" "I" (.int 0)) (S_LO_BYTE_SHIFT : Sta Z Z.heap "java/lang/StringUTF16" "LO_BYTE_SHIFT" "I" (.int 8)) :
    OwnMet l Z y_5 jdk_52_method_5_code 2 (some .char) ws Rm62 #[(.ref a1), (.int 0)] h0 (Q62 Z a1 p3 p4 p5 p6 p7 p8 p9 p10 k11 h0 n0) := by
  refine own_body (plainFor_of_name pn_0) (ef_ed7d6e a1) ?_
  intro p e s m below meth c s₁ hx hby hml hown hnm hret hZ X0 e0
  have N0 := Fr.nil n0
  obtain ⟨T2, X2, e2, st2⟩ := getS2 X0 hx hZ hown (host := "") (Or.inl (w_80 hw)) Via.refl e0 (S__assertionsDisabled.ext Od0.2) (g := (mkF m 0 #[.val (.ref a1), .val (.int 0)] [])) rfl (hb hby d19_0)
  obtain ⟨cl12, Ar12, q12, S12, M12, Hs12, G12⟩ := id V_a1
  have hin13 : ¬ ((0 : Int32) < 0 ∨ cl12.slots.size ≤ ((0 : Int32)).toNatClampNeg) := inb_of S12 ⟨(by decide : ¬ ((0 : Int32) < (0 : Int32))), (by decide : (0 : Int32) < (8 : Int32))⟩
  obtain ⟨T14, X14, e14, st14⟩ := getS2 X2 hx hZ hown (host := "") (Or.inl (w_81 hw)) Via.refl e2 (S_HI_BYTE_SHIFT.ext Od0.2) (g := (mkF m 42 #[.val (.ref a1), .val (.int 1)] [(.int (p3 &&& (255 : Int32)))])) rfl (hb hby d19_42)
  have hin15 : ¬ ((1 : Int32) < 0 ∨ cl12.slots.size ≤ ((1 : Int32)).toNatClampNeg) := inb_of S12 ⟨(by decide : ¬ ((1 : Int32) < (0 : Int32))), (by decide : (1 : Int32) < (8 : Int32))⟩
  obtain ⟨T16, X16, e16, st16⟩ := getS2 X14 hx hZ hown (host := "") (Or.inl (w_82 hw)) Via.refl e14 (S_LO_BYTE_SHIFT.ext Od0.2) (g := (mkF m 53 #[.val (.ref a1), .val (.int 1)] [(.int (p4 &&& (255 : Int32))), (.int ((p3 &&& (255 : Int32)) <<< ((0 : Int32) &&& 31)))])) rfl (hb hby d19_53)
  refine ⟨T16, _, _, _, (some (.int (nar .char ((((p3 &&& (255 : Int32)) <<< ((0 : Int32) &&& 31)) ||| ((p4 &&& (255 : Int32)) <<< ((8 : Int32) &&& 31))).toUInt32.toUInt16.toUInt32.toInt32)))), X16, nofun, by decide, by decide, ?_, fun fs hr => ?_⟩
  · rw [e16]
    exact ⟨rfl, N0, rfl⟩
  · refine st2 _ ?_
    refine XS.ifYes X2.here hx rfl (pc0 := 3) (pc' := 28) rfl (hb hby d19_3) rfl ((if0 _ _).trans (feq ((by decide : ¬ ((1 : Int32) = (0 : Int32))) : ¬ ((1 : Int32) = (0 : Int32)))).2) (by decide) (by decide) ?_
    refine XS.iloadN X2.here hx rfl (hb hby d19_28) rfl ?_
    refine XS.iconst X2.here hx rfl (hb hby d19_29) ?_
    refine XS.ishl X2.here hx rfl (hb hby d19_30) rfl ?_
    refine XS.istoreN X2.here hx rfl (hb hby d19_31) rfl (l' := #[.val (.ref a1), .val (.int 0)]) rfl ?_
    refine XS.aloadN X2.here hx rfl (hb hby d19_32) rfl rfl ?_
    refine XS.iloadN X2.here hx rfl (hb hby d19_33) rfl ?_
    refine XS.iinc X2.here hx rfl (hb hby d19_34) rfl (l' := #[.val (.ref a1), .val (.int 1)]) rfl ?_
    refine X2.baloadBytes hx (j := (0 : Int32)) (v := (.int p3)) (by rw [e2]; exact Ar12.1) (State.isArrayOf_alike hZ.alike Ar12.2.1) Ar12.2.2 hin13 (Has.at Hs12 hin13 rfl) (g := (mkF m 37 #[.val (.ref a1), .val (.int 1)] [(.int 0), (.ref a1)])) rfl rfl (hb hby d19_37) _ ?_
    refine XS.sipush X2.here hx rfl (hb hby d19_38) ?_
    show Steps p.tables e below (T2.setTop (mkF m 41 #[.val (.ref a1), .val (.int 1)] [(.int 255), (.int p3)])) _
    refine XS.iand X2.here hx rfl (hb hby d19_41) rfl ?_
    refine st14 _ ?_
    refine XS.ishl X14.here hx rfl (hb hby d19_45) rfl ?_
    refine XS.aloadN X14.here hx rfl (hb hby d19_46) rfl rfl ?_
    refine XS.iloadN X14.here hx rfl (hb hby d19_47) rfl ?_
    refine X14.baloadBytes hx (j := (1 : Int32)) (v := (.int p4)) (by rw [e14]; exact Ar12.1) (State.isArrayOf_alike hZ.alike Ar12.2.1) Ar12.2.2 hin15 (Has.at Hs12 hin15 rfl) (g := (mkF m 48 #[.val (.ref a1), .val (.int 1)] [(.int 1), (.ref a1), (.int ((p3 &&& (255 : Int32)) <<< ((0 : Int32) &&& 31)))])) rfl rfl (hb hby d19_48) _ ?_
    refine XS.sipush X14.here hx rfl (hb hby d19_49) ?_
    refine XS.iand X14.here hx rfl (hb hby d19_52) rfl ?_
    refine st16 _ ?_
    refine XS.ishl X16.here hx rfl (hb hby d19_56) rfl ?_
    refine XS.ior X16.here hx rfl (hb hby d19_57) rfl ?_
    refine XS.i2c X16.here hx rfl (hb hby d19_58) rfl ?_
    show Steps p.tables e below (T16.setTop (mkF m 59 #[.val (.ref a1), .val (.int 1)] [(.int ((((p3 &&& (255 : Int32)) <<< ((0 : Int32) &&& 31)) ||| ((p4 &&& (255 : Int32)) <<< ((8 : Int32) &&& 31))).toUInt32.toUInt16.toUInt32.toInt32))])) _
    exact retN X16 hx (t := .char) hret (by simp) (hb hby d19_59) hr
-- java/lang/StringUTF16.compress([CI[BII)I
abbrev Rm63 : Room := { frames := 0, cells := 0, slots := 0, locals := 0 }
def Q63 (Z : State) (a1 : Addr) (a2 : Addr) (p3 : Int32) (p4 : Int32) (p5 : Int32) (p6 : Int32) (k7 : ClassId) (k11 : ClassId) (h0 : Heap) (n0 : Nat) (v : Option Value) (h : Heap) (L : List Loc) : Prop := v = some (.int 1) ∧ Fr n0 L ∧ Keep h0 h [a2] ∧ Exa Z h a2 "[B" ∧ Arv Z h a2 k11 .byte (4 : Int32) [(.int (nar .byte (p3.toInt8.toInt32))), (.int 0), (.int 0), (.int 0)] (.int 0)
-- ef_b2aa3e
theorem rm63 (l : Launch) (Z : State) (a0 : Array Value) (hw : ∀ d ∈ tables_1, d.before a0 Z = true) (ws : List Jvm.Cond) (a1 : Addr) (a2 : Addr) (p3 : Int32) (p4 : Int32) (p5 : Int32) (p6 : Int32) (k7 : ClassId) (k11 : ClassId) (h0 : Heap) (n0 : Nat) (Z0 : n0 ≤ h0.size) (V_a1 : Arv Z h0 a1 k7 .char (4 : Int32) [(.int p3), (.int p4), (.int p5), (.int p6)] (.int 0)) (c10 : ¬ ((255 : Int32) < p3)) (V_a2 : Arv Z h0 a2 k11 .byte (4 : Int32) [(.int 0), (.int 0), (.int 0), (.int 0)] (.int 0)) (g_a2 : n0 ≤ a2) (ne_a1_a2 : a1 ≠ a2) (c18 : (255 : Int32) < p4) (E_a2 : Exa Z h0 a2 "[B") :
    OwnMet l Z y_0 jdk_52_method_21_code 7 (some .int) ws Rm63 #[(.ref a1), (.int 0), (.ref a2), (.int 0), (.int 4)] h0 (Q63 Z a1 a2 p3 p4 p5 p6 k7 k11 h0 n0) := by
  refine own_body (plainFor_of_name pn_0) (ef_b2aa3e a1 a2) ?_
  intro p e s m below meth c s₁ hx hby hml hown hnm hret hZ X0 e0
  have N0 := Fr.nil n0
  obtain ⟨cl8, Ar8, q8, S8, M8, Hs8, G8⟩ := id V_a1
  have hin9 : ¬ ((0 : Int32) < 0 ∨ cl8.slots.size ≤ ((0 : Int32)).toNatClampNeg) := inb_of S8 ⟨(by decide : ¬ ((0 : Int32) < (0 : Int32))), (by decide : (0 : Int32) < (4 : Int32))⟩
  obtain ⟨cl12, Ar12, q12, S12, M12, Hs12, G12⟩ := id V_a2
  have hin13 : ¬ ((0 : Int32) < 0 ∨ cl12.slots.size ≤ ((0 : Int32)).toNatClampNeg) := inb_of S12 ⟨(by decide : ¬ ((0 : Int32) < (0 : Int32))), (by decide : (0 : Int32) < (4 : Int32))⟩
  obtain ⟨T14, h14, X14, e14, W14, st14⟩ := stB X0 hx hZ e0 Ar12 (j := (0 : Int32)) hin13 (g := (mkF m 31 #[.val (.ref a1), .val (.int 0), .val (.ref a2), .val (.int 0), .val (.int 4), .val (.int 0), .val (.int p3)] [(.int (p3.toInt8.toInt32)), (.int 0), (.ref a2)])) rfl rfl (hb hby d5_31)
  have s0 := (Keep.of_wr W14).1
  have N14 := Fr.snoc X14 N0 g_a2
  have Vs14 : Arv Z h14 a2 k11 .byte (4 : Int32) [(.int (nar .byte (p3.toInt8.toInt32))), (.int 0), (.int 0), (.int 0)] (.int 0) := Arv.set Ar12 q12 S12 M12 Hs12 G12 (fits_nar_byte _) W14 0 rfl (Nat.le_of_ble_eq_true rfl)
  have Va15 := (V_a1.other W14 ne_a1_a2)
  obtain ⟨cl16, Ar16, q16, S16, M16, Hs16, G16⟩ := id Va15
  have hin17 : ¬ ((1 : Int32) < 0 ∨ cl16.slots.size ≤ ((1 : Int32)).toNatClampNeg) := inb_of S16 ⟨(by decide : ¬ ((1 : Int32) < (0 : Int32))), (by decide : (1 : Int32) < (4 : Int32))⟩
  have Ex19 := (E_a2.wr W14)
  have Kp0 : Keep h0 h14 [a2] := (Keep.refl h0 [a2]).wr W14 (Or.inl (List.mem_of_getElem? (i := 0) rfl))
  refine ⟨T14, _, _, _, (some (.int 1)), X14, nofun, by decide, by decide, ?_, fun fs hr => ?_⟩
  · rw [e14]
    exact ⟨rfl, N14, Kp0, Ex19, Vs14⟩
  · refine XS.iconst X0.here hx rfl (hb hby d5_0) ?_
    refine XS.istore X0.here hx rfl (hb hby d5_1) rfl (l' := #[.val (.ref a1), .val (.int 0), .val (.ref a2), .val (.int 0), .val (.int 4), .val (.int 0), .unset]) rfl ?_
    refine XS.iload X0.here hx rfl (hb hby d5_3) rfl ?_
    refine XS.iload X0.here hx rfl (hb hby d5_5) rfl ?_
    refine XS.icmpNo X0.here hx rfl (hb hby d5_7) rfl (tlt ((by decide : (0 : Int32) < (4 : Int32)) : (0 : Int32) < (4 : Int32))).2.1 ?_
    refine XS.aloadN X0.here hx rfl (hb hby d5_10) rfl rfl ?_
    refine XS.iloadN X0.here hx rfl (hb hby d5_11) rfl ?_
    refine X0.caload hx (j := (0 : Int32)) (v := (.int p3)) (by rw [e0]; exact Ar8.1) (State.isArrayOf_alike hZ.alike Ar8.2.1) Ar8.2.2 hin9 (Has.at Hs8 hin9 rfl) (g := (mkF m 12 #[.val (.ref a1), .val (.int 0), .val (.ref a2), .val (.int 0), .val (.int 4), .val (.int 0), .unset] [(.int 0), (.ref a1)])) rfl rfl (hb hby d5_12) _ ?_
    refine XS.istore X0.here hx rfl (hb hby d5_13) rfl (l' := #[.val (.ref a1), .val (.int 0), .val (.ref a2), .val (.int 0), .val (.int 4), .val (.int 0), .val (.int p3)]) rfl ?_
    refine XS.iload X0.here hx rfl (hb hby d5_15) rfl ?_
    refine XS.sipush X0.here hx rfl (hb hby d5_17) ?_
    show Steps p.tables e below (s₁.setTop (mkF m 20 #[.val (.ref a1), .val (.int 0), .val (.ref a2), .val (.int 0), .val (.int 4), .val (.int 0), .val (.int p3)] [(.int 255), (.int p3)])) _
    refine XS.icmpYes X0.here hx rfl (pc0 := 20) (pc' := 26) rfl (hb hby d5_20) rfl (flt (c10 : ¬ ((255 : Int32) < p3))).2.2.2 (by decide) (by decide) ?_
    refine XS.aloadN X0.here hx rfl (hb hby d5_26) rfl rfl ?_
    refine XS.iloadN X0.here hx rfl (hb hby d5_27) rfl ?_
    refine XS.iload X0.here hx rfl (hb hby d5_28) rfl ?_
    refine XS.i2b X0.here hx rfl (hb hby d5_30) rfl ?_
    refine st14 _ ?_
    refine XS.iinc X14.here hx rfl (hb hby d5_32) rfl (l' := #[.val (.ref a1), .val (.int 1), .val (.ref a2), .val (.int 0), .val (.int 4), .val (.int 0), .val (.int p3)]) rfl ?_
    refine XS.iinc X14.here hx rfl (hb hby d5_35) rfl (l' := #[.val (.ref a1), .val (.int 1), .val (.ref a2), .val (.int 1), .val (.int 4), .val (.int 0), .val (.int p3)]) rfl ?_
    refine XS.iinc X14.here hx rfl (hb hby d5_38) rfl (l' := #[.val (.ref a1), .val (.int 1), .val (.ref a2), .val (.int 1), .val (.int 4), .val (.int 1), .val (.int p3)]) rfl ?_
    refine XS.goto X14.here hx rfl (pc0 := 41) (pc' := 3) rfl (hb hby d5_41) (by decide) (by decide) ?_
    refine XS.iload X14.here hx rfl (hb hby d5_3) rfl ?_
    refine XS.iload X14.here hx rfl (hb hby d5_5) rfl ?_
    show Steps p.tables e below (T14.setTop (mkF m 7 #[.val (.ref a1), .val (.int 1), .val (.ref a2), .val (.int 1), .val (.int 4), .val (.int 1), .val (.int p3)] [(.int 4), (.int 1)])) _
    refine XS.icmpNo X14.here hx rfl (hb hby d5_7) rfl (tlt ((by decide : (1 : Int32) < (4 : Int32)) : (1 : Int32) < (4 : Int32))).2.1 ?_
    refine XS.aloadN X14.here hx rfl (hb hby d5_10) rfl rfl ?_
    refine XS.iloadN X14.here hx rfl (hb hby d5_11) rfl ?_
    refine X14.caload hx (j := (1 : Int32)) (v := (.int p4)) (by rw [e14]; exact Ar16.1) (State.isArrayOf_alike hZ.alike Ar16.2.1) Ar16.2.2 hin17 (Has.at Hs16 hin17 rfl) (g := (mkF m 12 #[.val (.ref a1), .val (.int 1), .val (.ref a2), .val (.int 1), .val (.int 4), .val (.int 1), .val (.int p3)] [(.int 1), (.ref a1)])) rfl rfl (hb hby d5_12) _ ?_
    refine XS.istore X14.here hx rfl (hb hby d5_13) rfl (l' := #[.val (.ref a1), .val (.int 1), .val (.ref a2), .val (.int 1), .val (.int 4), .val (.int 1), .val (.int p4)]) rfl ?_
    refine XS.iload X14.here hx rfl (hb hby d5_15) rfl ?_
    refine XS.sipush X14.here hx rfl (hb hby d5_17) ?_
    refine XS.icmpNo X14.here hx rfl (hb hby d5_20) rfl (tlt (c18 : (255 : Int32) < p4)).2.2.2 ?_
    refine XS.iload X14.here hx rfl (hb hby d5_23) rfl ?_
    exact retI X14 hx hret (hb hby d5_25) hr
-- java/lang/StringUTF16.getChar([BI)C
abbrev Rm64 : Room := { frames := 0, cells := 0, slots := 0, locals := 0 }
def Q64 (Z : State) (a1 : Addr) (p3 : Int32) (p4 : Int32) (p5 : Int32) (p6 : Int32) (p7 : Int32) (p8 : Int32) (p9 : Int32) (p10 : Int32) (k11 : ClassId) (h0 : Heap) (n0 : Nat) (v : Option Value) (h : Heap) (L : List Loc) : Prop := v = some (.int (nar .char ((((p5 &&& (255 : Int32)) <<< ((0 : Int32) &&& 31)) ||| ((p6 &&& (255 : Int32)) <<< ((8 : Int32) &&& 31))).toUInt32.toUInt16.toUInt32.toInt32))) ∧ Fr n0 L ∧ h = h0
-- ef_218e7d
theorem rm64 (l : Launch) (Z : State) (a0 : Array Value) (hw : ∀ d ∈ tables_1, d.before a0 Z = true) (ws : List Jvm.Cond) (a1 : Addr) (p3 : Int32) (p4 : Int32) (p5 : Int32) (p6 : Int32) (p7 : Int32) (p8 : Int32) (p9 : Int32) (p10 : Int32) (k11 : ClassId) (h0 : Heap) (n0 : Nat) (Z0 : n0 ≤ h0.size) (S__assertionsDisabled : Sta Z Z.heap "java/lang/StringUTF16" "$assertionsDisabled" "Z" (.int 1)) (Od0 : Old Z n0 h0) (V_a1 : Arv Z h0 a1 k11 .byte (8 : Int32) [(.int p3), (.int p4), (.int p5), (.int p6), (.int p7), (.int p8), (.int p9), (.int p10)] (.int 0)) (S_HI_BYTE_SHIFT : Sta Z Z.heap "java/lang/StringUTF16" "HI_BYTE_SHIFT" "I" (.int 0)) (S_LO_BYTE_SHIFT : Sta Z Z.heap "java/lang/StringUTF16" "LO_BYTE_SHIFT" "I" (.int 8)) :
    OwnMet l Z y_5 jdk_52_method_5_code 2 (some .char) ws Rm64 #[(.ref a1), (.int 1)] h0 (Q64 Z a1 p3 p4 p5 p6 p7 p8 p9 p10 k11 h0 n0) := by
  refine own_body (plainFor_of_name pn_0) (ef_218e7d a1) ?_
  intro p e s m below meth c s₁ hx hby hml hown hnm hret hZ X0 e0
  have N0 := Fr.nil n0
  obtain ⟨T2, X2, e2, st2⟩ := getS2 X0 hx hZ hown (host := "") (Or.inl (w_80 hw)) Via.refl e0 (S__assertionsDisabled.ext Od0.2) (g := (mkF m 0 #[.val (.ref a1), .val (.int 1)] [])) rfl (hb hby d19_0)
  obtain ⟨cl12, Ar12, q12, S12, M12, Hs12, G12⟩ := id V_a1
  have hin13 : ¬ ((2 : Int32) < 0 ∨ cl12.slots.size ≤ ((2 : Int32)).toNatClampNeg) := inb_of S12 ⟨(by decide : ¬ ((2 : Int32) < (0 : Int32))), (by decide : (2 : Int32) < (8 : Int32))⟩
  obtain ⟨T14, X14, e14, st14⟩ := getS2 X2 hx hZ hown (host := "") (Or.inl (w_81 hw)) Via.refl e2 (S_HI_BYTE_SHIFT.ext Od0.2) (g := (mkF m 42 #[.val (.ref a1), .val (.int 3)] [(.int (p5 &&& (255 : Int32)))])) rfl (hb hby d19_42)
  have hin15 : ¬ ((3 : Int32) < 0 ∨ cl12.slots.size ≤ ((3 : Int32)).toNatClampNeg) := inb_of S12 ⟨(by decide : ¬ ((3 : Int32) < (0 : Int32))), (by decide : (3 : Int32) < (8 : Int32))⟩
  obtain ⟨T16, X16, e16, st16⟩ := getS2 X14 hx hZ hown (host := "") (Or.inl (w_82 hw)) Via.refl e14 (S_LO_BYTE_SHIFT.ext Od0.2) (g := (mkF m 53 #[.val (.ref a1), .val (.int 3)] [(.int (p6 &&& (255 : Int32))), (.int ((p5 &&& (255 : Int32)) <<< ((0 : Int32) &&& 31)))])) rfl (hb hby d19_53)
  refine ⟨T16, _, _, _, (some (.int (nar .char ((((p5 &&& (255 : Int32)) <<< ((0 : Int32) &&& 31)) ||| ((p6 &&& (255 : Int32)) <<< ((8 : Int32) &&& 31))).toUInt32.toUInt16.toUInt32.toInt32)))), X16, nofun, by decide, by decide, ?_, fun fs hr => ?_⟩
  · rw [e16]
    exact ⟨rfl, N0, rfl⟩
  · refine st2 _ ?_
    refine XS.ifYes X2.here hx rfl (pc0 := 3) (pc' := 28) rfl (hb hby d19_3) rfl ((if0 _ _).trans (feq ((by decide : ¬ ((1 : Int32) = (0 : Int32))) : ¬ ((1 : Int32) = (0 : Int32)))).2) (by decide) (by decide) ?_
    refine XS.iloadN X2.here hx rfl (hb hby d19_28) rfl ?_
    refine XS.iconst X2.here hx rfl (hb hby d19_29) ?_
    refine XS.ishl X2.here hx rfl (hb hby d19_30) rfl ?_
    refine XS.istoreN X2.here hx rfl (hb hby d19_31) rfl (l' := #[.val (.ref a1), .val (.int 2)]) rfl ?_
    refine XS.aloadN X2.here hx rfl (hb hby d19_32) rfl rfl ?_
    refine XS.iloadN X2.here hx rfl (hb hby d19_33) rfl ?_
    refine XS.iinc X2.here hx rfl (hb hby d19_34) rfl (l' := #[.val (.ref a1), .val (.int 3)]) rfl ?_
    refine X2.baloadBytes hx (j := (2 : Int32)) (v := (.int p5)) (by rw [e2]; exact Ar12.1) (State.isArrayOf_alike hZ.alike Ar12.2.1) Ar12.2.2 hin13 (Has.at Hs12 hin13 rfl) (g := (mkF m 37 #[.val (.ref a1), .val (.int 3)] [(.int 2), (.ref a1)])) rfl rfl (hb hby d19_37) _ ?_
    refine XS.sipush X2.here hx rfl (hb hby d19_38) ?_
    show Steps p.tables e below (T2.setTop (mkF m 41 #[.val (.ref a1), .val (.int 3)] [(.int 255), (.int p5)])) _
    refine XS.iand X2.here hx rfl (hb hby d19_41) rfl ?_
    refine st14 _ ?_
    refine XS.ishl X14.here hx rfl (hb hby d19_45) rfl ?_
    refine XS.aloadN X14.here hx rfl (hb hby d19_46) rfl rfl ?_
    refine XS.iloadN X14.here hx rfl (hb hby d19_47) rfl ?_
    refine X14.baloadBytes hx (j := (3 : Int32)) (v := (.int p6)) (by rw [e14]; exact Ar12.1) (State.isArrayOf_alike hZ.alike Ar12.2.1) Ar12.2.2 hin15 (Has.at Hs12 hin15 rfl) (g := (mkF m 48 #[.val (.ref a1), .val (.int 3)] [(.int 3), (.ref a1), (.int ((p5 &&& (255 : Int32)) <<< ((0 : Int32) &&& 31)))])) rfl rfl (hb hby d19_48) _ ?_
    refine XS.sipush X14.here hx rfl (hb hby d19_49) ?_
    refine XS.iand X14.here hx rfl (hb hby d19_52) rfl ?_
    refine st16 _ ?_
    refine XS.ishl X16.here hx rfl (hb hby d19_56) rfl ?_
    refine XS.ior X16.here hx rfl (hb hby d19_57) rfl ?_
    refine XS.i2c X16.here hx rfl (hb hby d19_58) rfl ?_
    show Steps p.tables e below (T16.setTop (mkF m 59 #[.val (.ref a1), .val (.int 3)] [(.int ((((p5 &&& (255 : Int32)) <<< ((0 : Int32) &&& 31)) ||| ((p6 &&& (255 : Int32)) <<< ((8 : Int32) &&& 31))).toUInt32.toUInt16.toUInt32.toInt32))])) _
    exact retN X16 hx (t := .char) hret (by simp) (hb hby d19_59) hr
-- java/lang/StringUTF16.compress([CI[BII)I
abbrev Rm65 : Room := { frames := 0, cells := 0, slots := 0, locals := 0 }
def Q65 (Z : State) (a1 : Addr) (a2 : Addr) (p3 : Int32) (p4 : Int32) (p5 : Int32) (p6 : Int32) (k7 : ClassId) (k11 : ClassId) (h0 : Heap) (n0 : Nat) (v : Option Value) (h : Heap) (L : List Loc) : Prop := v = some (.int 2) ∧ Fr n0 L ∧ Keep h0 h [a2] ∧ Exa Z h a2 "[B" ∧ Arv Z h a2 k11 .byte (4 : Int32) [(.int (nar .byte (p3.toInt8.toInt32))), (.int (nar .byte (p4.toInt8.toInt32))), (.int 0), (.int 0)] (.int 0)
-- ef_b2aa3e
theorem rm65 (l : Launch) (Z : State) (a0 : Array Value) (hw : ∀ d ∈ tables_1, d.before a0 Z = true) (ws : List Jvm.Cond) (a1 : Addr) (a2 : Addr) (p3 : Int32) (p4 : Int32) (p5 : Int32) (p6 : Int32) (k7 : ClassId) (k11 : ClassId) (h0 : Heap) (n0 : Nat) (Z0 : n0 ≤ h0.size) (V_a1 : Arv Z h0 a1 k7 .char (4 : Int32) [(.int p3), (.int p4), (.int p5), (.int p6)] (.int 0)) (c10 : ¬ ((255 : Int32) < p3)) (V_a2 : Arv Z h0 a2 k11 .byte (4 : Int32) [(.int 0), (.int 0), (.int 0), (.int 0)] (.int 0)) (g_a2 : n0 ≤ a2) (ne_a1_a2 : a1 ≠ a2) (c18 : ¬ ((255 : Int32) < p4)) (c25 : (255 : Int32) < p5) (E_a2 : Exa Z h0 a2 "[B") :
    OwnMet l Z y_0 jdk_52_method_21_code 7 (some .int) ws Rm65 #[(.ref a1), (.int 0), (.ref a2), (.int 0), (.int 4)] h0 (Q65 Z a1 a2 p3 p4 p5 p6 k7 k11 h0 n0) := by
  refine own_body (plainFor_of_name pn_0) (ef_b2aa3e a1 a2) ?_
  intro p e s m below meth c s₁ hx hby hml hown hnm hret hZ X0 e0
  have N0 := Fr.nil n0
  obtain ⟨cl8, Ar8, q8, S8, M8, Hs8, G8⟩ := id V_a1
  have hin9 : ¬ ((0 : Int32) < 0 ∨ cl8.slots.size ≤ ((0 : Int32)).toNatClampNeg) := inb_of S8 ⟨(by decide : ¬ ((0 : Int32) < (0 : Int32))), (by decide : (0 : Int32) < (4 : Int32))⟩
  obtain ⟨cl12, Ar12, q12, S12, M12, Hs12, G12⟩ := id V_a2
  have hin13 : ¬ ((0 : Int32) < 0 ∨ cl12.slots.size ≤ ((0 : Int32)).toNatClampNeg) := inb_of S12 ⟨(by decide : ¬ ((0 : Int32) < (0 : Int32))), (by decide : (0 : Int32) < (4 : Int32))⟩
  obtain ⟨T14, h14, X14, e14, W14, st14⟩ := stB X0 hx hZ e0 Ar12 (j := (0 : Int32)) hin13 (g := (mkF m 31 #[.val (.ref a1), .val (.int 0), .val (.ref a2), .val (.int 0), .val (.int 4), .val (.int 0), .val (.int p3)] [(.int (p3.toInt8.toInt32)), (.int 0), (.ref a2)])) rfl rfl (hb hby d5_31)
  have s0 := (Keep.of_wr W14).1
  have N14 := Fr.snoc X14 N0 g_a2
  have Vs14 : Arv Z h14 a2 k11 .byte (4 : Int32) [(.int (nar .byte (p3.toInt8.toInt32))), (.int 0), (.int 0), (.int 0)] (.int 0) := Arv.set Ar12 q12 S12 M12 Hs12 G12 (fits_nar_byte _) W14 0 rfl (Nat.le_of_ble_eq_true rfl)
  have Va15 := (V_a1.other W14 ne_a1_a2)
  obtain ⟨cl16, Ar16, q16, S16, M16, Hs16, G16⟩ := id Va15
  have hin17 : ¬ ((1 : Int32) < 0 ∨ cl16.slots.size ≤ ((1 : Int32)).toNatClampNeg) := inb_of S16 ⟨(by decide : ¬ ((1 : Int32) < (0 : Int32))), (by decide : (1 : Int32) < (4 : Int32))⟩
  obtain ⟨cl19, Ar19, q19, S19, M19, Hs19, G19⟩ := id Vs14
  have hin20 : ¬ ((1 : Int32) < 0 ∨ cl19.slots.size ≤ ((1 : Int32)).toNatClampNeg) := inb_of S19 ⟨(by decide : ¬ ((1 : Int32) < (0 : Int32))), (by decide : (1 : Int32) < (4 : Int32))⟩
  obtain ⟨T21, h21, X21, e21, W21, st21⟩ := stB X14 hx hZ e14 Ar19 (j := (1 : Int32)) hin20 (g := (mkF m 31 #[.val (.ref a1), .val (.int 1), .val (.ref a2), .val (.int 1), .val (.int 4), .val (.int 1), .val (.int p4)] [(.int (p4.toInt8.toInt32)), (.int 1), (.ref a2)])) rfl rfl (hb hby d5_31)
  have s1 := (Keep.of_wr W21).1
  have N21 := Fr.snoc X21 N14 g_a2
  have Vs21 : Arv Z h21 a2 k11 .byte (4 : Int32) [(.int (nar .byte (p3.toInt8.toInt32))), (.int (nar .byte (p4.toInt8.toInt32))), (.int 0), (.int 0)] (.int 0) := Arv.set Ar19 q19 S19 M19 Hs19 G19 (fits_nar_byte _) W21 1 rfl (Nat.le_of_ble_eq_true rfl)
  have Va22 := (Va15.other W21 ne_a1_a2)
  obtain ⟨cl23, Ar23, q23, S23, M23, Hs23, G23⟩ := id Va22
  have hin24 : ¬ ((2 : Int32) < 0 ∨ cl23.slots.size ≤ ((2 : Int32)).toNatClampNeg) := inb_of S23 ⟨(by decide : ¬ ((2 : Int32) < (0 : Int32))), (by decide : (2 : Int32) < (4 : Int32))⟩
  have Ex26 := ((E_a2.wr W14).wr W21)
  have Kp0 : Keep h0 h14 [a2] := (Keep.refl h0 [a2]).wr W14 (Or.inl (List.mem_of_getElem? (i := 0) rfl))
  have Kp1 : Keep h0 h21 [a2] := Kp0.wr W21 (Or.inl (List.mem_of_getElem? (i := 0) rfl))
  refine ⟨T21, _, _, _, (some (.int 2)), X21, nofun, by decide, by decide, ?_, fun fs hr => ?_⟩
  · rw [e21]
    exact ⟨rfl, N21, Kp1, Ex26, Vs21⟩
  · refine XS.iconst X0.here hx rfl (hb hby d5_0) ?_
    refine XS.istore X0.here hx rfl (hb hby d5_1) rfl (l' := #[.val (.ref a1), .val (.int 0), .val (.ref a2), .val (.int 0), .val (.int 4), .val (.int 0), .unset]) rfl ?_
    refine XS.iload X0.here hx rfl (hb hby d5_3) rfl ?_
    refine XS.iload X0.here hx rfl (hb hby d5_5) rfl ?_
    refine XS.icmpNo X0.here hx rfl (hb hby d5_7) rfl (tlt ((by decide : (0 : Int32) < (4 : Int32)) : (0 : Int32) < (4 : Int32))).2.1 ?_
    refine XS.aloadN X0.here hx rfl (hb hby d5_10) rfl rfl ?_
    refine XS.iloadN X0.here hx rfl (hb hby d5_11) rfl ?_
    refine X0.caload hx (j := (0 : Int32)) (v := (.int p3)) (by rw [e0]; exact Ar8.1) (State.isArrayOf_alike hZ.alike Ar8.2.1) Ar8.2.2 hin9 (Has.at Hs8 hin9 rfl) (g := (mkF m 12 #[.val (.ref a1), .val (.int 0), .val (.ref a2), .val (.int 0), .val (.int 4), .val (.int 0), .unset] [(.int 0), (.ref a1)])) rfl rfl (hb hby d5_12) _ ?_
    refine XS.istore X0.here hx rfl (hb hby d5_13) rfl (l' := #[.val (.ref a1), .val (.int 0), .val (.ref a2), .val (.int 0), .val (.int 4), .val (.int 0), .val (.int p3)]) rfl ?_
    refine XS.iload X0.here hx rfl (hb hby d5_15) rfl ?_
    refine XS.sipush X0.here hx rfl (hb hby d5_17) ?_
    show Steps p.tables e below (s₁.setTop (mkF m 20 #[.val (.ref a1), .val (.int 0), .val (.ref a2), .val (.int 0), .val (.int 4), .val (.int 0), .val (.int p3)] [(.int 255), (.int p3)])) _
    refine XS.icmpYes X0.here hx rfl (pc0 := 20) (pc' := 26) rfl (hb hby d5_20) rfl (flt (c10 : ¬ ((255 : Int32) < p3))).2.2.2 (by decide) (by decide) ?_
    refine XS.aloadN X0.here hx rfl (hb hby d5_26) rfl rfl ?_
    refine XS.iloadN X0.here hx rfl (hb hby d5_27) rfl ?_
    refine XS.iload X0.here hx rfl (hb hby d5_28) rfl ?_
    refine XS.i2b X0.here hx rfl (hb hby d5_30) rfl ?_
    refine st14 _ ?_
    refine XS.iinc X14.here hx rfl (hb hby d5_32) rfl (l' := #[.val (.ref a1), .val (.int 1), .val (.ref a2), .val (.int 0), .val (.int 4), .val (.int 0), .val (.int p3)]) rfl ?_
    refine XS.iinc X14.here hx rfl (hb hby d5_35) rfl (l' := #[.val (.ref a1), .val (.int 1), .val (.ref a2), .val (.int 1), .val (.int 4), .val (.int 0), .val (.int p3)]) rfl ?_
    refine XS.iinc X14.here hx rfl (hb hby d5_38) rfl (l' := #[.val (.ref a1), .val (.int 1), .val (.ref a2), .val (.int 1), .val (.int 4), .val (.int 1), .val (.int p3)]) rfl ?_
    refine XS.goto X14.here hx rfl (pc0 := 41) (pc' := 3) rfl (hb hby d5_41) (by decide) (by decide) ?_
    refine XS.iload X14.here hx rfl (hb hby d5_3) rfl ?_
    refine XS.iload X14.here hx rfl (hb hby d5_5) rfl ?_
    show Steps p.tables e below (T14.setTop (mkF m 7 #[.val (.ref a1), .val (.int 1), .val (.ref a2), .val (.int 1), .val (.int 4), .val (.int 1), .val (.int p3)] [(.int 4), (.int 1)])) _
    refine XS.icmpNo X14.here hx rfl (hb hby d5_7) rfl (tlt ((by decide : (1 : Int32) < (4 : Int32)) : (1 : Int32) < (4 : Int32))).2.1 ?_
    refine XS.aloadN X14.here hx rfl (hb hby d5_10) rfl rfl ?_
    refine XS.iloadN X14.here hx rfl (hb hby d5_11) rfl ?_
    refine X14.caload hx (j := (1 : Int32)) (v := (.int p4)) (by rw [e14]; exact Ar16.1) (State.isArrayOf_alike hZ.alike Ar16.2.1) Ar16.2.2 hin17 (Has.at Hs16 hin17 rfl) (g := (mkF m 12 #[.val (.ref a1), .val (.int 1), .val (.ref a2), .val (.int 1), .val (.int 4), .val (.int 1), .val (.int p3)] [(.int 1), (.ref a1)])) rfl rfl (hb hby d5_12) _ ?_
    refine XS.istore X14.here hx rfl (hb hby d5_13) rfl (l' := #[.val (.ref a1), .val (.int 1), .val (.ref a2), .val (.int 1), .val (.int 4), .val (.int 1), .val (.int p4)]) rfl ?_
    refine XS.iload X14.here hx rfl (hb hby d5_15) rfl ?_
    refine XS.sipush X14.here hx rfl (hb hby d5_17) ?_
    refine XS.icmpYes X14.here hx rfl (pc0 := 20) (pc' := 26) rfl (hb hby d5_20) rfl (flt (c18 : ¬ ((255 : Int32) < p4))).2.2.2 (by decide) (by decide) ?_
    refine XS.aloadN X14.here hx rfl (hb hby d5_26) rfl rfl ?_
    refine XS.iloadN X14.here hx rfl (hb hby d5_27) rfl ?_
    refine XS.iload X14.here hx rfl (hb hby d5_28) rfl ?_
    refine XS.i2b X14.here hx rfl (hb hby d5_30) rfl ?_
    show Steps p.tables e below (T14.setTop (mkF m 31 #[.val (.ref a1), .val (.int 1), .val (.ref a2), .val (.int 1), .val (.int 4), .val (.int 1), .val (.int p4)] [(.int (p4.toInt8.toInt32)), (.int 1), (.ref a2)])) _
    refine st21 _ ?_
    refine XS.iinc X21.here hx rfl (hb hby d5_32) rfl (l' := #[.val (.ref a1), .val (.int 2), .val (.ref a2), .val (.int 1), .val (.int 4), .val (.int 1), .val (.int p4)]) rfl ?_
    refine XS.iinc X21.here hx rfl (hb hby d5_35) rfl (l' := #[.val (.ref a1), .val (.int 2), .val (.ref a2), .val (.int 2), .val (.int 4), .val (.int 1), .val (.int p4)]) rfl ?_
    refine XS.iinc X21.here hx rfl (hb hby d5_38) rfl (l' := #[.val (.ref a1), .val (.int 2), .val (.ref a2), .val (.int 2), .val (.int 4), .val (.int 2), .val (.int p4)]) rfl ?_
    refine XS.goto X21.here hx rfl (pc0 := 41) (pc' := 3) rfl (hb hby d5_41) (by decide) (by decide) ?_
    refine XS.iload X21.here hx rfl (hb hby d5_3) rfl ?_
    refine XS.iload X21.here hx rfl (hb hby d5_5) rfl ?_
    refine XS.icmpNo X21.here hx rfl (hb hby d5_7) rfl (tlt ((by decide : (2 : Int32) < (4 : Int32)) : (2 : Int32) < (4 : Int32))).2.1 ?_
    refine XS.aloadN X21.here hx rfl (hb hby d5_10) rfl rfl ?_
    refine XS.iloadN X21.here hx rfl (hb hby d5_11) rfl ?_
    refine X21.caload hx (j := (2 : Int32)) (v := (.int p5)) (by rw [e21]; exact Ar23.1) (State.isArrayOf_alike hZ.alike Ar23.2.1) Ar23.2.2 hin24 (Has.at Hs23 hin24 rfl) (g := (mkF m 12 #[.val (.ref a1), .val (.int 2), .val (.ref a2), .val (.int 2), .val (.int 4), .val (.int 2), .val (.int p4)] [(.int 2), (.ref a1)])) rfl rfl (hb hby d5_12) _ ?_
    refine XS.istore X21.here hx rfl (hb hby d5_13) rfl (l' := #[.val (.ref a1), .val (.int 2), .val (.ref a2), .val (.int 2), .val (.int 4), .val (.int 2), .val (.int p5)]) rfl ?_
    show Steps p.tables e below (T21.setTop (mkF m 15 #[.val (.ref a1), .val (.int 2), .val (.ref a2), .val (.int 2), .val (.int 4), .val (.int 2), .val (.int p5)] [])) _
    refine XS.iload X21.here hx rfl (hb hby d5_15) rfl ?_
    refine XS.sipush X21.here hx rfl (hb hby d5_17) ?_
    refine XS.icmpNo X21.here hx rfl (hb hby d5_20) rfl (tlt (c25 : (255 : Int32) < p5)).2.2.2 ?_
    refine XS.iload X21.here hx rfl (hb hby d5_23) rfl ?_
    exact retI X21 hx hret (hb hby d5_25) hr
-- java/lang/StringUTF16.getChar([BI)C
abbrev Rm66 : Room := { frames := 0, cells := 0, slots := 0, locals := 0 }
def Q66 (Z : State) (a1 : Addr) (p3 : Int32) (p4 : Int32) (p5 : Int32) (p6 : Int32) (p7 : Int32) (p8 : Int32) (p9 : Int32) (p10 : Int32) (k11 : ClassId) (h0 : Heap) (n0 : Nat) (v : Option Value) (h : Heap) (L : List Loc) : Prop := v = some (.int (nar .char ((((p7 &&& (255 : Int32)) <<< ((0 : Int32) &&& 31)) ||| ((p8 &&& (255 : Int32)) <<< ((8 : Int32) &&& 31))).toUInt32.toUInt16.toUInt32.toInt32))) ∧ Fr n0 L ∧ h = h0
-- ef_60b4a0
theorem rm66 (l : Launch) (Z : State) (a0 : Array Value) (hw : ∀ d ∈ tables_1, d.before a0 Z = true) (ws : List Jvm.Cond) (a1 : Addr) (p3 : Int32) (p4 : Int32) (p5 : Int32) (p6 : Int32) (p7 : Int32) (p8 : Int32) (p9 : Int32) (p10 : Int32) (k11 : ClassId) (h0 : Heap) (n0 : Nat) (Z0 : n0 ≤ h0.size) (S__assertionsDisabled : Sta Z Z.heap "java/lang/StringUTF16" "$assertionsDisabled" "Z" (.int 1)) (Od0 : Old Z n0 h0) (V_a1 : Arv Z h0 a1 k11 .byte (8 : Int32) [(.int p3), (.int p4), (.int p5), (.int p6), (.int p7), (.int p8), (.int p9), (.int p10)] (.int 0)) (S_HI_BYTE_SHIFT : Sta Z Z.heap "java/lang/StringUTF16" "HI_BYTE_SHIFT" "I" (.int 0)) (S_LO_BYTE_SHIFT : Sta Z Z.heap "java/lang/StringUTF16" "LO_BYTE_SHIFT" "I" (.int 8)) :
    OwnMet l Z y_5 jdk_52_method_5_code 2 (some .char) ws Rm66 #[(.ref a1), (.int 2)] h0 (Q66 Z a1 p3 p4 p5 p6 p7 p8 p9 p10 k11 h0 n0) := by
  refine own_body (plainFor_of_name pn_0) (ef_60b4a0 a1) ?_
  intro p e s m below meth c s₁ hx hby hml hown hnm hret hZ X0 e0
  have N0 := Fr.nil n0
  obtain ⟨T2, X2, e2, st2⟩ := getS2 X0 hx hZ hown (host := "") (Or.inl (w_80 hw)) Via.refl e0 (S__assertionsDisabled.ext Od0.2) (g := (mkF m 0 #[.val (.ref a1), .val (.int 2)] [])) rfl (hb hby d19_0)
  obtain ⟨cl12, Ar12, q12, S12, M12, Hs12, G12⟩ := id V_a1
  have hin13 : ¬ ((4 : Int32) < 0 ∨ cl12.slots.size ≤ ((4 : Int32)).toNatClampNeg) := inb_of S12 ⟨(by decide : ¬ ((4 : Int32) < (0 : Int32))), (by decide : (4 : Int32) < (8 : Int32))⟩
  obtain ⟨T14, X14, e14, st14⟩ := getS2 X2 hx hZ hown (host := "") (Or.inl (w_81 hw)) Via.refl e2 (S_HI_BYTE_SHIFT.ext Od0.2) (g := (mkF m 42 #[.val (.ref a1), .val (.int 5)] [(.int (p7 &&& (255 : Int32)))])) rfl (hb hby d19_42)
  have hin15 : ¬ ((5 : Int32) < 0 ∨ cl12.slots.size ≤ ((5 : Int32)).toNatClampNeg) := inb_of S12 ⟨(by decide : ¬ ((5 : Int32) < (0 : Int32))), (by decide : (5 : Int32) < (8 : Int32))⟩
  obtain ⟨T16, X16, e16, st16⟩ := getS2 X14 hx hZ hown (host := "") (Or.inl (w_82 hw)) Via.refl e14 (S_LO_BYTE_SHIFT.ext Od0.2) (g := (mkF m 53 #[.val (.ref a1), .val (.int 5)] [(.int (p8 &&& (255 : Int32))), (.int ((p7 &&& (255 : Int32)) <<< ((0 : Int32) &&& 31)))])) rfl (hb hby d19_53)
  refine ⟨T16, _, _, _, (some (.int (nar .char ((((p7 &&& (255 : Int32)) <<< ((0 : Int32) &&& 31)) ||| ((p8 &&& (255 : Int32)) <<< ((8 : Int32) &&& 31))).toUInt32.toUInt16.toUInt32.toInt32)))), X16, nofun, by decide, by decide, ?_, fun fs hr => ?_⟩
  · rw [e16]
    exact ⟨rfl, N0, rfl⟩
  · refine st2 _ ?_
    refine XS.ifYes X2.here hx rfl (pc0 := 3) (pc' := 28) rfl (hb hby d19_3) rfl ((if0 _ _).trans (feq ((by decide : ¬ ((1 : Int32) = (0 : Int32))) : ¬ ((1 : Int32) = (0 : Int32)))).2) (by decide) (by decide) ?_
    refine XS.iloadN X2.here hx rfl (hb hby d19_28) rfl ?_
    refine XS.iconst X2.here hx rfl (hb hby d19_29) ?_
    refine XS.ishl X2.here hx rfl (hb hby d19_30) rfl ?_
    refine XS.istoreN X2.here hx rfl (hb hby d19_31) rfl (l' := #[.val (.ref a1), .val (.int 4)]) rfl ?_
    refine XS.aloadN X2.here hx rfl (hb hby d19_32) rfl rfl ?_
    refine XS.iloadN X2.here hx rfl (hb hby d19_33) rfl ?_
    refine XS.iinc X2.here hx rfl (hb hby d19_34) rfl (l' := #[.val (.ref a1), .val (.int 5)]) rfl ?_
    refine X2.baloadBytes hx (j := (4 : Int32)) (v := (.int p7)) (by rw [e2]; exact Ar12.1) (State.isArrayOf_alike hZ.alike Ar12.2.1) Ar12.2.2 hin13 (Has.at Hs12 hin13 rfl) (g := (mkF m 37 #[.val (.ref a1), .val (.int 5)] [(.int 4), (.ref a1)])) rfl rfl (hb hby d19_37) _ ?_
    refine XS.sipush X2.here hx rfl (hb hby d19_38) ?_
    show Steps p.tables e below (T2.setTop (mkF m 41 #[.val (.ref a1), .val (.int 5)] [(.int 255), (.int p7)])) _
    refine XS.iand X2.here hx rfl (hb hby d19_41) rfl ?_
    refine st14 _ ?_
    refine XS.ishl X14.here hx rfl (hb hby d19_45) rfl ?_
    refine XS.aloadN X14.here hx rfl (hb hby d19_46) rfl rfl ?_
    refine XS.iloadN X14.here hx rfl (hb hby d19_47) rfl ?_
    refine X14.baloadBytes hx (j := (5 : Int32)) (v := (.int p8)) (by rw [e14]; exact Ar12.1) (State.isArrayOf_alike hZ.alike Ar12.2.1) Ar12.2.2 hin15 (Has.at Hs12 hin15 rfl) (g := (mkF m 48 #[.val (.ref a1), .val (.int 5)] [(.int 5), (.ref a1), (.int ((p7 &&& (255 : Int32)) <<< ((0 : Int32) &&& 31)))])) rfl rfl (hb hby d19_48) _ ?_
    refine XS.sipush X14.here hx rfl (hb hby d19_49) ?_
    refine XS.iand X14.here hx rfl (hb hby d19_52) rfl ?_
    refine st16 _ ?_
    refine XS.ishl X16.here hx rfl (hb hby d19_56) rfl ?_
    refine XS.ior X16.here hx rfl (hb hby d19_57) rfl ?_
    refine XS.i2c X16.here hx rfl (hb hby d19_58) rfl ?_
    show Steps p.tables e below (T16.setTop (mkF m 59 #[.val (.ref a1), .val (.int 5)] [(.int ((((p7 &&& (255 : Int32)) <<< ((0 : Int32) &&& 31)) ||| ((p8 &&& (255 : Int32)) <<< ((8 : Int32) &&& 31))).toUInt32.toUInt16.toUInt32.toInt32))])) _
    exact retN X16 hx (t := .char) hret (by simp) (hb hby d19_59) hr
-- java/lang/StringUTF16.compress([CI[BII)I
abbrev Rm67 : Room := { frames := 0, cells := 0, slots := 0, locals := 0 }
def Q67 (Z : State) (a1 : Addr) (a2 : Addr) (p3 : Int32) (p4 : Int32) (p5 : Int32) (p6 : Int32) (k7 : ClassId) (k11 : ClassId) (h0 : Heap) (n0 : Nat) (v : Option Value) (h : Heap) (L : List Loc) : Prop := v = some (.int 3) ∧ Fr n0 L ∧ Keep h0 h [a2] ∧ Exa Z h a2 "[B" ∧ Arv Z h a2 k11 .byte (4 : Int32) [(.int (nar .byte (p3.toInt8.toInt32))), (.int (nar .byte (p4.toInt8.toInt32))), (.int (nar .byte (p5.toInt8.toInt32))), (.int 0)] (.int 0)
-- ef_b2aa3e
theorem rm67 (l : Launch) (Z : State) (a0 : Array Value) (hw : ∀ d ∈ tables_1, d.before a0 Z = true) (ws : List Jvm.Cond) (a1 : Addr) (a2 : Addr) (p3 : Int32) (p4 : Int32) (p5 : Int32) (p6 : Int32) (k7 : ClassId) (k11 : ClassId) (h0 : Heap) (n0 : Nat) (Z0 : n0 ≤ h0.size) (V_a1 : Arv Z h0 a1 k7 .char (4 : Int32) [(.int p3), (.int p4), (.int p5), (.int p6)] (.int 0)) (c10 : ¬ ((255 : Int32) < p3)) (V_a2 : Arv Z h0 a2 k11 .byte (4 : Int32) [(.int 0), (.int 0), (.int 0), (.int 0)] (.int 0)) (g_a2 : n0 ≤ a2) (ne_a1_a2 : a1 ≠ a2) (c18 : ¬ ((255 : Int32) < p4)) (c25 : ¬ ((255 : Int32) < p5)) (c32 : (255 : Int32) < p6) (E_a2 : Exa Z h0 a2 "[B") :
    OwnMet l Z y_0 jdk_52_method_21_code 7 (some .int) ws Rm67 #[(.ref a1), (.int 0), (.ref a2), (.int 0), (.int 4)] h0 (Q67 Z a1 a2 p3 p4 p5 p6 k7 k11 h0 n0) := by
  refine own_body (plainFor_of_name pn_0) (ef_b2aa3e a1 a2) ?_
  intro p e s m below meth c s₁ hx hby hml hown hnm hret hZ X0 e0
  have N0 := Fr.nil n0
  obtain ⟨cl8, Ar8, q8, S8, M8, Hs8, G8⟩ := id V_a1
  have hin9 : ¬ ((0 : Int32) < 0 ∨ cl8.slots.size ≤ ((0 : Int32)).toNatClampNeg) := inb_of S8 ⟨(by decide : ¬ ((0 : Int32) < (0 : Int32))), (by decide : (0 : Int32) < (4 : Int32))⟩
  obtain ⟨cl12, Ar12, q12, S12, M12, Hs12, G12⟩ := id V_a2
  have hin13 : ¬ ((0 : Int32) < 0 ∨ cl12.slots.size ≤ ((0 : Int32)).toNatClampNeg) := inb_of S12 ⟨(by decide : ¬ ((0 : Int32) < (0 : Int32))), (by decide : (0 : Int32) < (4 : Int32))⟩
  obtain ⟨T14, h14, X14, e14, W14, st14⟩ := stB X0 hx hZ e0 Ar12 (j := (0 : Int32)) hin13 (g := (mkF m 31 #[.val (.ref a1), .val (.int 0), .val (.ref a2), .val (.int 0), .val (.int 4), .val (.int 0), .val (.int p3)] [(.int (p3.toInt8.toInt32)), (.int 0), (.ref a2)])) rfl rfl (hb hby d5_31)
  have s0 := (Keep.of_wr W14).1
  have N14 := Fr.snoc X14 N0 g_a2
  have Vs14 : Arv Z h14 a2 k11 .byte (4 : Int32) [(.int (nar .byte (p3.toInt8.toInt32))), (.int 0), (.int 0), (.int 0)] (.int 0) := Arv.set Ar12 q12 S12 M12 Hs12 G12 (fits_nar_byte _) W14 0 rfl (Nat.le_of_ble_eq_true rfl)
  have Va15 := (V_a1.other W14 ne_a1_a2)
  obtain ⟨cl16, Ar16, q16, S16, M16, Hs16, G16⟩ := id Va15
  have hin17 : ¬ ((1 : Int32) < 0 ∨ cl16.slots.size ≤ ((1 : Int32)).toNatClampNeg) := inb_of S16 ⟨(by decide : ¬ ((1 : Int32) < (0 : Int32))), (by decide : (1 : Int32) < (4 : Int32))⟩
  obtain ⟨cl19, Ar19, q19, S19, M19, Hs19, G19⟩ := id Vs14
  have hin20 : ¬ ((1 : Int32) < 0 ∨ cl19.slots.size ≤ ((1 : Int32)).toNatClampNeg) := inb_of S19 ⟨(by decide : ¬ ((1 : Int32) < (0 : Int32))), (by decide : (1 : Int32) < (4 : Int32))⟩
  obtain ⟨T21, h21, X21, e21, W21, st21⟩ := stB X14 hx hZ e14 Ar19 (j := (1 : Int32)) hin20 (g := (mkF m 31 #[.val (.ref a1), .val (.int 1), .val (.ref a2), .val (.int 1), .val (.int 4), .val (.int 1), .val (.int p4)] [(.int (p4.toInt8.toInt32)), (.int 1), (.ref a2)])) rfl rfl (hb hby d5_31)
  have s1 := (Keep.of_wr W21).1
  have N21 := Fr.snoc X21 N14 g_a2
  have Vs21 : Arv Z h21 a2 k11 .byte (4 : Int32) [(.int (nar .byte (p3.toInt8.toInt32))), (.int (nar .byte (p4.toInt8.toInt32))), (.int 0), (.int 0)] (.int 0) := Arv.set Ar19 q19 S19 M19 Hs19 G19 (fits_nar_byte _) W21 1 rfl (Nat.le_of_ble_eq_true rfl)
  have Va22 := (Va15.other W21 ne_a1_a2)
  obtain ⟨cl23, Ar23, q23, S23, M23, Hs23, G23⟩ := id Va22
  have hin24 : ¬ ((2 : Int32) < 0 ∨ cl23.slots.size ≤ ((2 : Int32)).toNatClampNeg) := inb_of S23 ⟨(by decide : ¬ ((2 : Int32) < (0 : Int32))), (by decide : (2 : Int32) < (4 : Int32))⟩
  obtain ⟨cl26, Ar26, q26, S26, M26, Hs26, G26⟩ := id Vs21
  have hin27 : ¬ ((2 : Int32) < 0 ∨ cl26.slots.size ≤ ((2 : Int32)).toNatClampNeg) := inb_of S26 ⟨(by decide : ¬ ((2 : Int32) < (0 : Int32))), (by decide : (2 : Int32) < (4 : Int32))⟩
  obtain ⟨T28, h28, X28, e28, W28, st28⟩ := stB X21 hx hZ e21 Ar26 (j := (2 : Int32)) hin27 (g := (mkF m 31 #[.val (.ref a1), .val (.int 2), .val (.ref a2), .val (.int 2), .val (.int 4), .val (.int 2), .val (.int p5)] [(.int (p5.toInt8.toInt32)), (.int 2), (.ref a2)])) rfl rfl (hb hby d5_31)
  have s2 := (Keep.of_wr W28).1
  have N28 := Fr.snoc X28 N21 g_a2
  have Vs28 : Arv Z h28 a2 k11 .byte (4 : Int32) [(.int (nar .byte (p3.toInt8.toInt32))), (.int (nar .byte (p4.toInt8.toInt32))), (.int (nar .byte (p5.toInt8.toInt32))), (.int 0)] (.int 0) := Arv.set Ar26 q26 S26 M26 Hs26 G26 (fits_nar_byte _) W28 2 rfl (Nat.le_of_ble_eq_true rfl)
  have Va29 := (Va22.other W28 ne_a1_a2)
  obtain ⟨cl30, Ar30, q30, S30, M30, Hs30, G30⟩ := id Va29
  have hin31 : ¬ ((3 : Int32) < 0 ∨ cl30.slots.size ≤ ((3 : Int32)).toNatClampNeg) := inb_of S30 ⟨(by decide : ¬ ((3 : Int32) < (0 : Int32))), (by decide : (3 : Int32) < (4 : Int32))⟩
  have Ex33 := (((E_a2.wr W14).wr W21).wr W28)
  have Kp0 : Keep h0 h14 [a2] := (Keep.refl h0 [a2]).wr W14 (Or.inl (List.mem_of_getElem? (i := 0) rfl))
  have Kp1 : Keep h0 h21 [a2] := Kp0.wr W21 (Or.inl (List.mem_of_getElem? (i := 0) rfl))
  have Kp2 : Keep h0 h28 [a2] := Kp1.wr W28 (Or.inl (List.mem_of_getElem? (i := 0) rfl))
  refine ⟨T28, _, _, _, (some (.int 3)), X28, nofun, by decide, by decide, ?_, fun fs hr => ?_⟩
  · rw [e28]
    exact ⟨rfl, N28, Kp2, Ex33, Vs28⟩
  · refine XS.iconst X0.here hx rfl (hb hby d5_0) ?_
    refine XS.istore X0.here hx rfl (hb hby d5_1) rfl (l' := #[.val (.ref a1), .val (.int 0), .val (.ref a2), .val (.int 0), .val (.int 4), .val (.int 0), .unset]) rfl ?_
    refine XS.iload X0.here hx rfl (hb hby d5_3) rfl ?_
    refine XS.iload X0.here hx rfl (hb hby d5_5) rfl ?_
    refine XS.icmpNo X0.here hx rfl (hb hby d5_7) rfl (tlt ((by decide : (0 : Int32) < (4 : Int32)) : (0 : Int32) < (4 : Int32))).2.1 ?_
    refine XS.aloadN X0.here hx rfl (hb hby d5_10) rfl rfl ?_
    refine XS.iloadN X0.here hx rfl (hb hby d5_11) rfl ?_
    refine X0.caload hx (j := (0 : Int32)) (v := (.int p3)) (by rw [e0]; exact Ar8.1) (State.isArrayOf_alike hZ.alike Ar8.2.1) Ar8.2.2 hin9 (Has.at Hs8 hin9 rfl) (g := (mkF m 12 #[.val (.ref a1), .val (.int 0), .val (.ref a2), .val (.int 0), .val (.int 4), .val (.int 0), .unset] [(.int 0), (.ref a1)])) rfl rfl (hb hby d5_12) _ ?_
    refine XS.istore X0.here hx rfl (hb hby d5_13) rfl (l' := #[.val (.ref a1), .val (.int 0), .val (.ref a2), .val (.int 0), .val (.int 4), .val (.int 0), .val (.int p3)]) rfl ?_
    refine XS.iload X0.here hx rfl (hb hby d5_15) rfl ?_
    refine XS.sipush X0.here hx rfl (hb hby d5_17) ?_
    show Steps p.tables e below (s₁.setTop (mkF m 20 #[.val (.ref a1), .val (.int 0), .val (.ref a2), .val (.int 0), .val (.int 4), .val (.int 0), .val (.int p3)] [(.int 255), (.int p3)])) _
    refine XS.icmpYes X0.here hx rfl (pc0 := 20) (pc' := 26) rfl (hb hby d5_20) rfl (flt (c10 : ¬ ((255 : Int32) < p3))).2.2.2 (by decide) (by decide) ?_
    refine XS.aloadN X0.here hx rfl (hb hby d5_26) rfl rfl ?_
    refine XS.iloadN X0.here hx rfl (hb hby d5_27) rfl ?_
    refine XS.iload X0.here hx rfl (hb hby d5_28) rfl ?_
    refine XS.i2b X0.here hx rfl (hb hby d5_30) rfl ?_
    refine st14 _ ?_
    refine XS.iinc X14.here hx rfl (hb hby d5_32) rfl (l' := #[.val (.ref a1), .val (.int 1), .val (.ref a2), .val (.int 0), .val (.int 4), .val (.int 0), .val (.int p3)]) rfl ?_
    refine XS.iinc X14.here hx rfl (hb hby d5_35) rfl (l' := #[.val (.ref a1), .val (.int 1), .val (.ref a2), .val (.int 1), .val (.int 4), .val (.int 0), .val (.int p3)]) rfl ?_
    refine XS.iinc X14.here hx rfl (hb hby d5_38) rfl (l' := #[.val (.ref a1), .val (.int 1), .val (.ref a2), .val (.int 1), .val (.int 4), .val (.int 1), .val (.int p3)]) rfl ?_
    refine XS.goto X14.here hx rfl (pc0 := 41) (pc' := 3) rfl (hb hby d5_41) (by decide) (by decide) ?_
    refine XS.iload X14.here hx rfl (hb hby d5_3) rfl ?_
    refine XS.iload X14.here hx rfl (hb hby d5_5) rfl ?_
    show Steps p.tables e below (T14.setTop (mkF m 7 #[.val (.ref a1), .val (.int 1), .val (.ref a2), .val (.int 1), .val (.int 4), .val (.int 1), .val (.int p3)] [(.int 4), (.int 1)])) _
    refine XS.icmpNo X14.here hx rfl (hb hby d5_7) rfl (tlt ((by decide : (1 : Int32) < (4 : Int32)) : (1 : Int32) < (4 : Int32))).2.1 ?_
    refine XS.aloadN X14.here hx rfl (hb hby d5_10) rfl rfl ?_
    refine XS.iloadN X14.here hx rfl (hb hby d5_11) rfl ?_
    refine X14.caload hx (j := (1 : Int32)) (v := (.int p4)) (by rw [e14]; exact Ar16.1) (State.isArrayOf_alike hZ.alike Ar16.2.1) Ar16.2.2 hin17 (Has.at Hs16 hin17 rfl) (g := (mkF m 12 #[.val (.ref a1), .val (.int 1), .val (.ref a2), .val (.int 1), .val (.int 4), .val (.int 1), .val (.int p3)] [(.int 1), (.ref a1)])) rfl rfl (hb hby d5_12) _ ?_
    refine XS.istore X14.here hx rfl (hb hby d5_13) rfl (l' := #[.val (.ref a1), .val (.int 1), .val (.ref a2), .val (.int 1), .val (.int 4), .val (.int 1), .val (.int p4)]) rfl ?_
    refine XS.iload X14.here hx rfl (hb hby d5_15) rfl ?_
    refine XS.sipush X14.here hx rfl (hb hby d5_17) ?_
    refine XS.icmpYes X14.here hx rfl (pc0 := 20) (pc' := 26) rfl (hb hby d5_20) rfl (flt (c18 : ¬ ((255 : Int32) < p4))).2.2.2 (by decide) (by decide) ?_
    refine XS.aloadN X14.here hx rfl (hb hby d5_26) rfl rfl ?_
    refine XS.iloadN X14.here hx rfl (hb hby d5_27) rfl ?_
    refine XS.iload X14.here hx rfl (hb hby d5_28) rfl ?_
    refine XS.i2b X14.here hx rfl (hb hby d5_30) rfl ?_
    show Steps p.tables e below (T14.setTop (mkF m 31 #[.val (.ref a1), .val (.int 1), .val (.ref a2), .val (.int 1), .val (.int 4), .val (.int 1), .val (.int p4)] [(.int (p4.toInt8.toInt32)), (.int 1), (.ref a2)])) _
    refine st21 _ ?_
    refine XS.iinc X21.here hx rfl (hb hby d5_32) rfl (l' := #[.val (.ref a1), .val (.int 2), .val (.ref a2), .val (.int 1), .val (.int 4), .val (.int 1), .val (.int p4)]) rfl ?_
    refine XS.iinc X21.here hx rfl (hb hby d5_35) rfl (l' := #[.val (.ref a1), .val (.int 2), .val (.ref a2), .val (.int 2), .val (.int 4), .val (.int 1), .val (.int p4)]) rfl ?_
    refine XS.iinc X21.here hx rfl (hb hby d5_38) rfl (l' := #[.val (.ref a1), .val (.int 2), .val (.ref a2), .val (.int 2), .val (.int 4), .val (.int 2), .val (.int p4)]) rfl ?_
    refine XS.goto X21.here hx rfl (pc0 := 41) (pc' := 3) rfl (hb hby d5_41) (by decide) (by decide) ?_
    refine XS.iload X21.here hx rfl (hb hby d5_3) rfl ?_
    refine XS.iload X21.here hx rfl (hb hby d5_5) rfl ?_
    refine XS.icmpNo X21.here hx rfl (hb hby d5_7) rfl (tlt ((by decide : (2 : Int32) < (4 : Int32)) : (2 : Int32) < (4 : Int32))).2.1 ?_
    refine XS.aloadN X21.here hx rfl (hb hby d5_10) rfl rfl ?_
    refine XS.iloadN X21.here hx rfl (hb hby d5_11) rfl ?_
    refine X21.caload hx (j := (2 : Int32)) (v := (.int p5)) (by rw [e21]; exact Ar23.1) (State.isArrayOf_alike hZ.alike Ar23.2.1) Ar23.2.2 hin24 (Has.at Hs23 hin24 rfl) (g := (mkF m 12 #[.val (.ref a1), .val (.int 2), .val (.ref a2), .val (.int 2), .val (.int 4), .val (.int 2), .val (.int p4)] [(.int 2), (.ref a1)])) rfl rfl (hb hby d5_12) _ ?_
    refine XS.istore X21.here hx rfl (hb hby d5_13) rfl (l' := #[.val (.ref a1), .val (.int 2), .val (.ref a2), .val (.int 2), .val (.int 4), .val (.int 2), .val (.int p5)]) rfl ?_
    show Steps p.tables e below (T21.setTop (mkF m 15 #[.val (.ref a1), .val (.int 2), .val (.ref a2), .val (.int 2), .val (.int 4), .val (.int 2), .val (.int p5)] [])) _
    refine XS.iload X21.here hx rfl (hb hby d5_15) rfl ?_
    refine XS.sipush X21.here hx rfl (hb hby d5_17) ?_
    refine XS.icmpYes X21.here hx rfl (pc0 := 20) (pc' := 26) rfl (hb hby d5_20) rfl (flt (c25 : ¬ ((255 : Int32) < p5))).2.2.2 (by decide) (by decide) ?_
    refine XS.aloadN X21.here hx rfl (hb hby d5_26) rfl rfl ?_
    refine XS.iloadN X21.here hx rfl (hb hby d5_27) rfl ?_
    refine XS.iload X21.here hx rfl (hb hby d5_28) rfl ?_
    refine XS.i2b X21.here hx rfl (hb hby d5_30) rfl ?_
    refine st28 _ ?_
    refine XS.iinc X28.here hx rfl (hb hby d5_32) rfl (l' := #[.val (.ref a1), .val (.int 3), .val (.ref a2), .val (.int 2), .val (.int 4), .val (.int 2), .val (.int p5)]) rfl ?_
    refine XS.iinc X28.here hx rfl (hb hby d5_35) rfl (l' := #[.val (.ref a1), .val (.int 3), .val (.ref a2), .val (.int 3), .val (.int 4), .val (.int 2), .val (.int p5)]) rfl ?_
    refine XS.iinc X28.here hx rfl (hb hby d5_38) rfl (l' := #[.val (.ref a1), .val (.int 3), .val (.ref a2), .val (.int 3), .val (.int 4), .val (.int 3), .val (.int p5)]) rfl ?_
    refine XS.goto X28.here hx rfl (pc0 := 41) (pc' := 3) rfl (hb hby d5_41) (by decide) (by decide) ?_
    show Steps p.tables e below (T28.setTop (mkF m 3 #[.val (.ref a1), .val (.int 3), .val (.ref a2), .val (.int 3), .val (.int 4), .val (.int 3), .val (.int p5)] [])) _
    refine XS.iload X28.here hx rfl (hb hby d5_3) rfl ?_
    refine XS.iload X28.here hx rfl (hb hby d5_5) rfl ?_
    refine XS.icmpNo X28.here hx rfl (hb hby d5_7) rfl (tlt ((by decide : (3 : Int32) < (4 : Int32)) : (3 : Int32) < (4 : Int32))).2.1 ?_
    refine XS.aloadN X28.here hx rfl (hb hby d5_10) rfl rfl ?_
    refine XS.iloadN X28.here hx rfl (hb hby d5_11) rfl ?_
    refine X28.caload hx (j := (3 : Int32)) (v := (.int p6)) (by rw [e28]; exact Ar30.1) (State.isArrayOf_alike hZ.alike Ar30.2.1) Ar30.2.2 hin31 (Has.at Hs30 hin31 rfl) (g := (mkF m 12 #[.val (.ref a1), .val (.int 3), .val (.ref a2), .val (.int 3), .val (.int 4), .val (.int 3), .val (.int p5)] [(.int 3), (.ref a1)])) rfl rfl (hb hby d5_12) _ ?_
    refine XS.istore X28.here hx rfl (hb hby d5_13) rfl (l' := #[.val (.ref a1), .val (.int 3), .val (.ref a2), .val (.int 3), .val (.int 4), .val (.int 3), .val (.int p6)]) rfl ?_
    refine XS.iload X28.here hx rfl (hb hby d5_15) rfl ?_
    refine XS.sipush X28.here hx rfl (hb hby d5_17) ?_
    refine XS.icmpNo X28.here hx rfl (hb hby d5_20) rfl (tlt (c32 : (255 : Int32) < p6)).2.2.2 ?_
    refine XS.iload X28.here hx rfl (hb hby d5_23) rfl ?_
    exact retI X28 hx hret (hb hby d5_25) hr
-- java/lang/StringUTF16.getChar([BI)C
abbrev Rm68 : Room := { frames := 0, cells := 0, slots := 0, locals := 0 }
def Q68 (Z : State) (a1 : Addr) (p3 : Int32) (p4 : Int32) (p5 : Int32) (p6 : Int32) (p7 : Int32) (p8 : Int32) (p9 : Int32) (p10 : Int32) (k11 : ClassId) (h0 : Heap) (n0 : Nat) (v : Option Value) (h : Heap) (L : List Loc) : Prop := v = some (.int (nar .char ((((p9 &&& (255 : Int32)) <<< ((0 : Int32) &&& 31)) ||| ((p10 &&& (255 : Int32)) <<< ((8 : Int32) &&& 31))).toUInt32.toUInt16.toUInt32.toInt32))) ∧ Fr n0 L ∧ h = h0
-- ef_6b4fde
theorem rm68 (l : Launch) (Z : State) (a0 : Array Value) (hw : ∀ d ∈ tables_1, d.before a0 Z = true) (ws : List Jvm.Cond) (a1 : Addr) (p3 : Int32) (p4 : Int32) (p5 : Int32) (p6 : Int32) (p7 : Int32) (p8 : Int32) (p9 : Int32) (p10 : Int32) (k11 : ClassId) (h0 : Heap) (n0 : Nat) (Z0 : n0 ≤ h0.size) (S__assertionsDisabled : Sta Z Z.heap "java/lang/StringUTF16" "$assertionsDisabled" "Z" (.int 1)) (Od0 : Old Z n0 h0) (V_a1 : Arv Z h0 a1 k11 .byte (8 : Int32) [(.int p3), (.int p4), (.int p5), (.int p6), (.int p7), (.int p8), (.int p9), (.int p10)] (.int 0)) (S_HI_BYTE_SHIFT : Sta Z Z.heap "java/lang/StringUTF16" "HI_BYTE_SHIFT" "I" (.int 0)) (S_LO_BYTE_SHIFT : Sta Z Z.heap "java/lang/StringUTF16" "LO_BYTE_SHIFT" "I" (.int 8)) :
    OwnMet l Z y_5 jdk_52_method_5_code 2 (some .char) ws Rm68 #[(.ref a1), (.int 3)] h0 (Q68 Z a1 p3 p4 p5 p6 p7 p8 p9 p10 k11 h0 n0) := by
  refine own_body (plainFor_of_name pn_0) (ef_6b4fde a1) ?_
  intro p e s m below meth c s₁ hx hby hml hown hnm hret hZ X0 e0
  have N0 := Fr.nil n0
  obtain ⟨T2, X2, e2, st2⟩ := getS2 X0 hx hZ hown (host := "") (Or.inl (w_80 hw)) Via.refl e0 (S__assertionsDisabled.ext Od0.2) (g := (mkF m 0 #[.val (.ref a1), .val (.int 3)] [])) rfl (hb hby d19_0)
  obtain ⟨cl12, Ar12, q12, S12, M12, Hs12, G12⟩ := id V_a1
  have hin13 : ¬ ((6 : Int32) < 0 ∨ cl12.slots.size ≤ ((6 : Int32)).toNatClampNeg) := inb_of S12 ⟨(by decide : ¬ ((6 : Int32) < (0 : Int32))), (by decide : (6 : Int32) < (8 : Int32))⟩
  obtain ⟨T14, X14, e14, st14⟩ := getS2 X2 hx hZ hown (host := "") (Or.inl (w_81 hw)) Via.refl e2 (S_HI_BYTE_SHIFT.ext Od0.2) (g := (mkF m 42 #[.val (.ref a1), .val (.int 7)] [(.int (p9 &&& (255 : Int32)))])) rfl (hb hby d19_42)
  have hin15 : ¬ ((7 : Int32) < 0 ∨ cl12.slots.size ≤ ((7 : Int32)).toNatClampNeg) := inb_of S12 ⟨(by decide : ¬ ((7 : Int32) < (0 : Int32))), (by decide : (7 : Int32) < (8 : Int32))⟩
  obtain ⟨T16, X16, e16, st16⟩ := getS2 X14 hx hZ hown (host := "") (Or.inl (w_82 hw)) Via.refl e14 (S_LO_BYTE_SHIFT.ext Od0.2) (g := (mkF m 53 #[.val (.ref a1), .val (.int 7)] [(.int (p10 &&& (255 : Int32))), (.int ((p9 &&& (255 : Int32)) <<< ((0 : Int32) &&& 31)))])) rfl (hb hby d19_53)
  refine ⟨T16, _, _, _, (some (.int (nar .char ((((p9 &&& (255 : Int32)) <<< ((0 : Int32) &&& 31)) ||| ((p10 &&& (255 : Int32)) <<< ((8 : Int32) &&& 31))).toUInt32.toUInt16.toUInt32.toInt32)))), X16, nofun, by decide, by decide, ?_, fun fs hr => ?_⟩
  · rw [e16]
    exact ⟨rfl, N0, rfl⟩
  · refine st2 _ ?_
    refine XS.ifYes X2.here hx rfl (pc0 := 3) (pc' := 28) rfl (hb hby d19_3) rfl ((if0 _ _).trans (feq ((by decide : ¬ ((1 : Int32) = (0 : Int32))) : ¬ ((1 : Int32) = (0 : Int32)))).2) (by decide) (by decide) ?_
    refine XS.iloadN X2.here hx rfl (hb hby d19_28) rfl ?_
    refine XS.iconst X2.here hx rfl (hb hby d19_29) ?_
    refine XS.ishl X2.here hx rfl (hb hby d19_30) rfl ?_
    refine XS.istoreN X2.here hx rfl (hb hby d19_31) rfl (l' := #[.val (.ref a1), .val (.int 6)]) rfl ?_
    refine XS.aloadN X2.here hx rfl (hb hby d19_32) rfl rfl ?_
    refine XS.iloadN X2.here hx rfl (hb hby d19_33) rfl ?_
    refine XS.iinc X2.here hx rfl (hb hby d19_34) rfl (l' := #[.val (.ref a1), .val (.int 7)]) rfl ?_
    refine X2.baloadBytes hx (j := (6 : Int32)) (v := (.int p9)) (by rw [e2]; exact Ar12.1) (State.isArrayOf_alike hZ.alike Ar12.2.1) Ar12.2.2 hin13 (Has.at Hs12 hin13 rfl) (g := (mkF m 37 #[.val (.ref a1), .val (.int 7)] [(.int 6), (.ref a1)])) rfl rfl (hb hby d19_37) _ ?_
    refine XS.sipush X2.here hx rfl (hb hby d19_38) ?_
    show Steps p.tables e below (T2.setTop (mkF m 41 #[.val (.ref a1), .val (.int 7)] [(.int 255), (.int p9)])) _
    refine XS.iand X2.here hx rfl (hb hby d19_41) rfl ?_
    refine st14 _ ?_
    refine XS.ishl X14.here hx rfl (hb hby d19_45) rfl ?_
    refine XS.aloadN X14.here hx rfl (hb hby d19_46) rfl rfl ?_
    refine XS.iloadN X14.here hx rfl (hb hby d19_47) rfl ?_
    refine X14.baloadBytes hx (j := (7 : Int32)) (v := (.int p10)) (by rw [e14]; exact Ar12.1) (State.isArrayOf_alike hZ.alike Ar12.2.1) Ar12.2.2 hin15 (Has.at Hs12 hin15 rfl) (g := (mkF m 48 #[.val (.ref a1), .val (.int 7)] [(.int 7), (.ref a1), (.int ((p9 &&& (255 : Int32)) <<< ((0 : Int32) &&& 31)))])) rfl rfl (hb hby d19_48) _ ?_
    refine XS.sipush X14.here hx rfl (hb hby d19_49) ?_
    refine XS.iand X14.here hx rfl (hb hby d19_52) rfl ?_
    refine st16 _ ?_
    refine XS.ishl X16.here hx rfl (hb hby d19_56) rfl ?_
    refine XS.ior X16.here hx rfl (hb hby d19_57) rfl ?_
    refine XS.i2c X16.here hx rfl (hb hby d19_58) rfl ?_
    show Steps p.tables e below (T16.setTop (mkF m 59 #[.val (.ref a1), .val (.int 7)] [(.int ((((p9 &&& (255 : Int32)) <<< ((0 : Int32) &&& 31)) ||| ((p10 &&& (255 : Int32)) <<< ((8 : Int32) &&& 31))).toUInt32.toUInt16.toUInt32.toInt32))])) _
    exact retN X16 hx (t := .char) hret (by simp) (hb hby d19_59) hr
-- java/lang/StringUTF16.compress([CI[BII)I
abbrev Rm69 : Room := { frames := 0, cells := 0, slots := 0, locals := 0 }
def Q69 (Z : State) (a1 : Addr) (a2 : Addr) (p3 : Int32) (p4 : Int32) (p5 : Int32) (p6 : Int32) (k7 : ClassId) (k11 : ClassId) (h0 : Heap) (n0 : Nat) (v : Option Value) (h : Heap) (L : List Loc) : Prop := v = some (.int 4) ∧ Fr n0 L ∧ Keep h0 h [a2] ∧ Exa Z h a2 "[B" ∧ Arv Z h a2 k11 .byte (4 : Int32) [(.int (nar .byte (p3.toInt8.toInt32))), (.int (nar .byte (p4.toInt8.toInt32))), (.int (nar .byte (p5.toInt8.toInt32))), (.int (nar .byte (p6.toInt8.toInt32)))] (.int 0)
-- ef_b2aa3e
theorem rm69 (l : Launch) (Z : State) (a0 : Array Value) (hw : ∀ d ∈ tables_1, d.before a0 Z = true) (ws : List Jvm.Cond) (a1 : Addr) (a2 : Addr) (p3 : Int32) (p4 : Int32) (p5 : Int32) (p6 : Int32) (k7 : ClassId) (k11 : ClassId) (h0 : Heap) (n0 : Nat) (Z0 : n0 ≤ h0.size) (V_a1 : Arv Z h0 a1 k7 .char (4 : Int32) [(.int p3), (.int p4), (.int p5), (.int p6)] (.int 0)) (c10 : ¬ ((255 : Int32) < p3)) (V_a2 : Arv Z h0 a2 k11 .byte (4 : Int32) [(.int 0), (.int 0), (.int 0), (.int 0)] (.int 0)) (g_a2 : n0 ≤ a2) (ne_a1_a2 : a1 ≠ a2) (c18 : ¬ ((255 : Int32) < p4)) (c25 : ¬ ((255 : Int32) < p5)) (c32 : ¬ ((255 : Int32) < p6)) (E_a2 : Exa Z h0 a2 "[B") :
    OwnMet l Z y_0 jdk_52_method_21_code 7 (some .int) ws Rm69 #[(.ref a1), (.int 0), (.ref a2), (.int 0), (.int 4)] h0 (Q69 Z a1 a2 p3 p4 p5 p6 k7 k11 h0 n0) := by
  refine own_body (plainFor_of_name pn_0) (ef_b2aa3e a1 a2) ?_
  intro p e s m below meth c s₁ hx hby hml hown hnm hret hZ X0 e0
  have N0 := Fr.nil n0
  obtain ⟨cl8, Ar8, q8, S8, M8, Hs8, G8⟩ := id V_a1
  have hin9 : ¬ ((0 : Int32) < 0 ∨ cl8.slots.size ≤ ((0 : Int32)).toNatClampNeg) := inb_of S8 ⟨(by decide : ¬ ((0 : Int32) < (0 : Int32))), (by decide : (0 : Int32) < (4 : Int32))⟩
  obtain ⟨cl12, Ar12, q12, S12, M12, Hs12, G12⟩ := id V_a2
  have hin13 : ¬ ((0 : Int32) < 0 ∨ cl12.slots.size ≤ ((0 : Int32)).toNatClampNeg) := inb_of S12 ⟨(by decide : ¬ ((0 : Int32) < (0 : Int32))), (by decide : (0 : Int32) < (4 : Int32))⟩
  obtain ⟨T14, h14, X14, e14, W14, st14⟩ := stB X0 hx hZ e0 Ar12 (j := (0 : Int32)) hin13 (g := (mkF m 31 #[.val (.ref a1), .val (.int 0), .val (.ref a2), .val (.int 0), .val (.int 4), .val (.int 0), .val (.int p3)] [(.int (p3.toInt8.toInt32)), (.int 0), (.ref a2)])) rfl rfl (hb hby d5_31)
  have s0 := (Keep.of_wr W14).1
  have N14 := Fr.snoc X14 N0 g_a2
  have Vs14 : Arv Z h14 a2 k11 .byte (4 : Int32) [(.int (nar .byte (p3.toInt8.toInt32))), (.int 0), (.int 0), (.int 0)] (.int 0) := Arv.set Ar12 q12 S12 M12 Hs12 G12 (fits_nar_byte _) W14 0 rfl (Nat.le_of_ble_eq_true rfl)
  have Va15 := (V_a1.other W14 ne_a1_a2)
  obtain ⟨cl16, Ar16, q16, S16, M16, Hs16, G16⟩ := id Va15
  have hin17 : ¬ ((1 : Int32) < 0 ∨ cl16.slots.size ≤ ((1 : Int32)).toNatClampNeg) := inb_of S16 ⟨(by decide : ¬ ((1 : Int32) < (0 : Int32))), (by decide : (1 : Int32) < (4 : Int32))⟩
  obtain ⟨cl19, Ar19, q19, S19, M19, Hs19, G19⟩ := id Vs14
  have hin20 : ¬ ((1 : Int32) < 0 ∨ cl19.slots.size ≤ ((1 : Int32)).toNatClampNeg) := inb_of S19 ⟨(by decide : ¬ ((1 : Int32) < (0 : Int32))), (by decide : (1 : Int32) < (4 : Int32))⟩
  obtain ⟨T21, h21, X21, e21, W21, st21⟩ := stB X14 hx hZ e14 Ar19 (j := (1 : Int32)) hin20 (g := (mkF m 31 #[.val (.ref a1), .val (.int 1), .val (.ref a2), .val (.int 1), .val (.int 4), .val (.int 1), .val (.int p4)] [(.int (p4.toInt8.toInt32)), (.int 1), (.ref a2)])) rfl rfl (hb hby d5_31)
  have s1 := (Keep.of_wr W21).1
  have N21 := Fr.snoc X21 N14 g_a2
  have Vs21 : Arv Z h21 a2 k11 .byte (4 : Int32) [(.int (nar .byte (p3.toInt8.toInt32))), (.int (nar .byte (p4.toInt8.toInt32))), (.int 0), (.int 0)] (.int 0) := Arv.set Ar19 q19 S19 M19 Hs19 G19 (fits_nar_byte _) W21 1 rfl (Nat.le_of_ble_eq_true rfl)
  have Va22 := (Va15.other W21 ne_a1_a2)
  obtain ⟨cl23, Ar23, q23, S23, M23, Hs23, G23⟩ := id Va22
  have hin24 : ¬ ((2 : Int32) < 0 ∨ cl23.slots.size ≤ ((2 : Int32)).toNatClampNeg) := inb_of S23 ⟨(by decide : ¬ ((2 : Int32) < (0 : Int32))), (by decide : (2 : Int32) < (4 : Int32))⟩
  obtain ⟨cl26, Ar26, q26, S26, M26, Hs26, G26⟩ := id Vs21
  have hin27 : ¬ ((2 : Int32) < 0 ∨ cl26.slots.size ≤ ((2 : Int32)).toNatClampNeg) := inb_of S26 ⟨(by decide : ¬ ((2 : Int32) < (0 : Int32))), (by decide : (2 : Int32) < (4 : Int32))⟩
  obtain ⟨T28, h28, X28, e28, W28, st28⟩ := stB X21 hx hZ e21 Ar26 (j := (2 : Int32)) hin27 (g := (mkF m 31 #[.val (.ref a1), .val (.int 2), .val (.ref a2), .val (.int 2), .val (.int 4), .val (.int 2), .val (.int p5)] [(.int (p5.toInt8.toInt32)), (.int 2), (.ref a2)])) rfl rfl (hb hby d5_31)
  have s2 := (Keep.of_wr W28).1
  have N28 := Fr.snoc X28 N21 g_a2
  have Vs28 : Arv Z h28 a2 k11 .byte (4 : Int32) [(.int (nar .byte (p3.toInt8.toInt32))), (.int (nar .byte (p4.toInt8.toInt32))), (.int (nar .byte (p5.toInt8.toInt32))), (.int 0)] (.int 0) := Arv.set Ar26 q26 S26 M26 Hs26 G26 (fits_nar_byte _) W28 2 rfl (Nat.le_of_ble_eq_true rfl)
  have Va29 := (Va22.other W28 ne_a1_a2)
  obtain ⟨cl30, Ar30, q30, S30, M30, Hs30, G30⟩ := id Va29
  have hin31 : ¬ ((3 : Int32) < 0 ∨ cl30.slots.size ≤ ((3 : Int32)).toNatClampNeg) := inb_of S30 ⟨(by decide : ¬ ((3 : Int32) < (0 : Int32))), (by decide : (3 : Int32) < (4 : Int32))⟩
  obtain ⟨cl33, Ar33, q33, S33, M33, Hs33, G33⟩ := id Vs28
  have hin34 : ¬ ((3 : Int32) < 0 ∨ cl33.slots.size ≤ ((3 : Int32)).toNatClampNeg) := inb_of S33 ⟨(by decide : ¬ ((3 : Int32) < (0 : Int32))), (by decide : (3 : Int32) < (4 : Int32))⟩
  obtain ⟨T35, h35, X35, e35, W35, st35⟩ := stB X28 hx hZ e28 Ar33 (j := (3 : Int32)) hin34 (g := (mkF m 31 #[.val (.ref a1), .val (.int 3), .val (.ref a2), .val (.int 3), .val (.int 4), .val (.int 3), .val (.int p6)] [(.int (p6.toInt8.toInt32)), (.int 3), (.ref a2)])) rfl rfl (hb hby d5_31)
  have s3 := (Keep.of_wr W35).1
  have N35 := Fr.snoc X35 N28 g_a2
  have Vs35 : Arv Z h35 a2 k11 .byte (4 : Int32) [(.int (nar .byte (p3.toInt8.toInt32))), (.int (nar .byte (p4.toInt8.toInt32))), (.int (nar .byte (p5.toInt8.toInt32))), (.int (nar .byte (p6.toInt8.toInt32)))] (.int 0) := Arv.set Ar33 q33 S33 M33 Hs33 G33 (fits_nar_byte _) W35 3 rfl (Nat.le_of_ble_eq_true rfl)
  have Ex36 := ((((E_a2.wr W14).wr W21).wr W28).wr W35)
  have Kp0 : Keep h0 h14 [a2] := (Keep.refl h0 [a2]).wr W14 (Or.inl (List.mem_of_getElem? (i := 0) rfl))
  have Kp1 : Keep h0 h21 [a2] := Kp0.wr W21 (Or.inl (List.mem_of_getElem? (i := 0) rfl))
  have Kp2 : Keep h0 h28 [a2] := Kp1.wr W28 (Or.inl (List.mem_of_getElem? (i := 0) rfl))
  have Kp3 : Keep h0 h35 [a2] := Kp2.wr W35 (Or.inl (List.mem_of_getElem? (i := 0) rfl))
  refine ⟨T35, _, _, _, (some (.int 4)), X35, nofun, by decide, by decide, ?_, fun fs hr => ?_⟩
  · rw [e35]
    exact ⟨rfl, N35, Kp3, Ex36, Vs35⟩
  · refine XS.iconst X0.here hx rfl (hb hby d5_0) ?_
    refine XS.istore X0.here hx rfl (hb hby d5_1) rfl (l' := #[.val (.ref a1), .val (.int 0), .val (.ref a2), .val (.int 0), .val (.int 4), .val (.int 0), .unset]) rfl ?_
    refine XS.iload X0.here hx rfl (hb hby d5_3) rfl ?_
    refine XS.iload X0.here hx rfl (hb hby d5_5) rfl ?_
    refine XS.icmpNo X0.here hx rfl (hb hby d5_7) rfl (tlt ((by decide : (0 : Int32) < (4 : Int32)) : (0 : Int32) < (4 : Int32))).2.1 ?_
    refine XS.aloadN X0.here hx rfl (hb hby d5_10) rfl rfl ?_
    refine XS.iloadN X0.here hx rfl (hb hby d5_11) rfl ?_
    refine X0.caload hx (j := (0 : Int32)) (v := (.int p3)) (by rw [e0]; exact Ar8.1) (State.isArrayOf_alike hZ.alike Ar8.2.1) Ar8.2.2 hin9 (Has.at Hs8 hin9 rfl) (g := (mkF m 12 #[.val (.ref a1), .val (.int 0), .val (.ref a2), .val (.int 0), .val (.int 4), .val (.int 0), .unset] [(.int 0), (.ref a1)])) rfl rfl (hb hby d5_12) _ ?_
    refine XS.istore X0.here hx rfl (hb hby d5_13) rfl (l' := #[.val (.ref a1), .val (.int 0), .val (.ref a2), .val (.int 0), .val (.int 4), .val (.int 0), .val (.int p3)]) rfl ?_
    refine XS.iload X0.here hx rfl (hb hby d5_15) rfl ?_
    refine XS.sipush X0.here hx rfl (hb hby d5_17) ?_
    show Steps p.tables e below (s₁.setTop (mkF m 20 #[.val (.ref a1), .val (.int 0), .val (.ref a2), .val (.int 0), .val (.int 4), .val (.int 0), .val (.int p3)] [(.int 255), (.int p3)])) _
    refine XS.icmpYes X0.here hx rfl (pc0 := 20) (pc' := 26) rfl (hb hby d5_20) rfl (flt (c10 : ¬ ((255 : Int32) < p3))).2.2.2 (by decide) (by decide) ?_
    refine XS.aloadN X0.here hx rfl (hb hby d5_26) rfl rfl ?_
    refine XS.iloadN X0.here hx rfl (hb hby d5_27) rfl ?_
    refine XS.iload X0.here hx rfl (hb hby d5_28) rfl ?_
    refine XS.i2b X0.here hx rfl (hb hby d5_30) rfl ?_
    refine st14 _ ?_
    refine XS.iinc X14.here hx rfl (hb hby d5_32) rfl (l' := #[.val (.ref a1), .val (.int 1), .val (.ref a2), .val (.int 0), .val (.int 4), .val (.int 0), .val (.int p3)]) rfl ?_
    refine XS.iinc X14.here hx rfl (hb hby d5_35) rfl (l' := #[.val (.ref a1), .val (.int 1), .val (.ref a2), .val (.int 1), .val (.int 4), .val (.int 0), .val (.int p3)]) rfl ?_
    refine XS.iinc X14.here hx rfl (hb hby d5_38) rfl (l' := #[.val (.ref a1), .val (.int 1), .val (.ref a2), .val (.int 1), .val (.int 4), .val (.int 1), .val (.int p3)]) rfl ?_
    refine XS.goto X14.here hx rfl (pc0 := 41) (pc' := 3) rfl (hb hby d5_41) (by decide) (by decide) ?_
    refine XS.iload X14.here hx rfl (hb hby d5_3) rfl ?_
    refine XS.iload X14.here hx rfl (hb hby d5_5) rfl ?_
    show Steps p.tables e below (T14.setTop (mkF m 7 #[.val (.ref a1), .val (.int 1), .val (.ref a2), .val (.int 1), .val (.int 4), .val (.int 1), .val (.int p3)] [(.int 4), (.int 1)])) _
    refine XS.icmpNo X14.here hx rfl (hb hby d5_7) rfl (tlt ((by decide : (1 : Int32) < (4 : Int32)) : (1 : Int32) < (4 : Int32))).2.1 ?_
    refine XS.aloadN X14.here hx rfl (hb hby d5_10) rfl rfl ?_
    refine XS.iloadN X14.here hx rfl (hb hby d5_11) rfl ?_
    refine X14.caload hx (j := (1 : Int32)) (v := (.int p4)) (by rw [e14]; exact Ar16.1) (State.isArrayOf_alike hZ.alike Ar16.2.1) Ar16.2.2 hin17 (Has.at Hs16 hin17 rfl) (g := (mkF m 12 #[.val (.ref a1), .val (.int 1), .val (.ref a2), .val (.int 1), .val (.int 4), .val (.int 1), .val (.int p3)] [(.int 1), (.ref a1)])) rfl rfl (hb hby d5_12) _ ?_
    refine XS.istore X14.here hx rfl (hb hby d5_13) rfl (l' := #[.val (.ref a1), .val (.int 1), .val (.ref a2), .val (.int 1), .val (.int 4), .val (.int 1), .val (.int p4)]) rfl ?_
    refine XS.iload X14.here hx rfl (hb hby d5_15) rfl ?_
    refine XS.sipush X14.here hx rfl (hb hby d5_17) ?_
    refine XS.icmpYes X14.here hx rfl (pc0 := 20) (pc' := 26) rfl (hb hby d5_20) rfl (flt (c18 : ¬ ((255 : Int32) < p4))).2.2.2 (by decide) (by decide) ?_
    refine XS.aloadN X14.here hx rfl (hb hby d5_26) rfl rfl ?_
    refine XS.iloadN X14.here hx rfl (hb hby d5_27) rfl ?_
    refine XS.iload X14.here hx rfl (hb hby d5_28) rfl ?_
    refine XS.i2b X14.here hx rfl (hb hby d5_30) rfl ?_
    show Steps p.tables e below (T14.setTop (mkF m 31 #[.val (.ref a1), .val (.int 1), .val (.ref a2), .val (.int 1), .val (.int 4), .val (.int 1), .val (.int p4)] [(.int (p4.toInt8.toInt32)), (.int 1), (.ref a2)])) _
    refine st21 _ ?_
    refine XS.iinc X21.here hx rfl (hb hby d5_32) rfl (l' := #[.val (.ref a1), .val (.int 2), .val (.ref a2), .val (.int 1), .val (.int 4), .val (.int 1), .val (.int p4)]) rfl ?_
    refine XS.iinc X21.here hx rfl (hb hby d5_35) rfl (l' := #[.val (.ref a1), .val (.int 2), .val (.ref a2), .val (.int 2), .val (.int 4), .val (.int 1), .val (.int p4)]) rfl ?_
    refine XS.iinc X21.here hx rfl (hb hby d5_38) rfl (l' := #[.val (.ref a1), .val (.int 2), .val (.ref a2), .val (.int 2), .val (.int 4), .val (.int 2), .val (.int p4)]) rfl ?_
    refine XS.goto X21.here hx rfl (pc0 := 41) (pc' := 3) rfl (hb hby d5_41) (by decide) (by decide) ?_
    refine XS.iload X21.here hx rfl (hb hby d5_3) rfl ?_
    refine XS.iload X21.here hx rfl (hb hby d5_5) rfl ?_
    refine XS.icmpNo X21.here hx rfl (hb hby d5_7) rfl (tlt ((by decide : (2 : Int32) < (4 : Int32)) : (2 : Int32) < (4 : Int32))).2.1 ?_
    refine XS.aloadN X21.here hx rfl (hb hby d5_10) rfl rfl ?_
    refine XS.iloadN X21.here hx rfl (hb hby d5_11) rfl ?_
    refine X21.caload hx (j := (2 : Int32)) (v := (.int p5)) (by rw [e21]; exact Ar23.1) (State.isArrayOf_alike hZ.alike Ar23.2.1) Ar23.2.2 hin24 (Has.at Hs23 hin24 rfl) (g := (mkF m 12 #[.val (.ref a1), .val (.int 2), .val (.ref a2), .val (.int 2), .val (.int 4), .val (.int 2), .val (.int p4)] [(.int 2), (.ref a1)])) rfl rfl (hb hby d5_12) _ ?_
    refine XS.istore X21.here hx rfl (hb hby d5_13) rfl (l' := #[.val (.ref a1), .val (.int 2), .val (.ref a2), .val (.int 2), .val (.int 4), .val (.int 2), .val (.int p5)]) rfl ?_
    show Steps p.tables e below (T21.setTop (mkF m 15 #[.val (.ref a1), .val (.int 2), .val (.ref a2), .val (.int 2), .val (.int 4), .val (.int 2), .val (.int p5)] [])) _
    refine XS.iload X21.here hx rfl (hb hby d5_15) rfl ?_
    refine XS.sipush X21.here hx rfl (hb hby d5_17) ?_
    refine XS.icmpYes X21.here hx rfl (pc0 := 20) (pc' := 26) rfl (hb hby d5_20) rfl (flt (c25 : ¬ ((255 : Int32) < p5))).2.2.2 (by decide) (by decide) ?_
    refine XS.aloadN X21.here hx rfl (hb hby d5_26) rfl rfl ?_
    refine XS.iloadN X21.here hx rfl (hb hby d5_27) rfl ?_
    refine XS.iload X21.here hx rfl (hb hby d5_28) rfl ?_
    refine XS.i2b X21.here hx rfl (hb hby d5_30) rfl ?_
    refine st28 _ ?_
    refine XS.iinc X28.here hx rfl (hb hby d5_32) rfl (l' := #[.val (.ref a1), .val (.int 3), .val (.ref a2), .val (.int 2), .val (.int 4), .val (.int 2), .val (.int p5)]) rfl ?_
    refine XS.iinc X28.here hx rfl (hb hby d5_35) rfl (l' := #[.val (.ref a1), .val (.int 3), .val (.ref a2), .val (.int 3), .val (.int 4), .val (.int 2), .val (.int p5)]) rfl ?_
    refine XS.iinc X28.here hx rfl (hb hby d5_38) rfl (l' := #[.val (.ref a1), .val (.int 3), .val (.ref a2), .val (.int 3), .val (.int 4), .val (.int 3), .val (.int p5)]) rfl ?_
    refine XS.goto X28.here hx rfl (pc0 := 41) (pc' := 3) rfl (hb hby d5_41) (by decide) (by decide) ?_
    show Steps p.tables e below (T28.setTop (mkF m 3 #[.val (.ref a1), .val (.int 3), .val (.ref a2), .val (.int 3), .val (.int 4), .val (.int 3), .val (.int p5)] [])) _
    refine XS.iload X28.here hx rfl (hb hby d5_3) rfl ?_
    refine XS.iload X28.here hx rfl (hb hby d5_5) rfl ?_
    refine XS.icmpNo X28.here hx rfl (hb hby d5_7) rfl (tlt ((by decide : (3 : Int32) < (4 : Int32)) : (3 : Int32) < (4 : Int32))).2.1 ?_
    refine XS.aloadN X28.here hx rfl (hb hby d5_10) rfl rfl ?_
    refine XS.iloadN X28.here hx rfl (hb hby d5_11) rfl ?_
    refine X28.caload hx (j := (3 : Int32)) (v := (.int p6)) (by rw [e28]; exact Ar30.1) (State.isArrayOf_alike hZ.alike Ar30.2.1) Ar30.2.2 hin31 (Has.at Hs30 hin31 rfl) (g := (mkF m 12 #[.val (.ref a1), .val (.int 3), .val (.ref a2), .val (.int 3), .val (.int 4), .val (.int 3), .val (.int p5)] [(.int 3), (.ref a1)])) rfl rfl (hb hby d5_12) _ ?_
    refine XS.istore X28.here hx rfl (hb hby d5_13) rfl (l' := #[.val (.ref a1), .val (.int 3), .val (.ref a2), .val (.int 3), .val (.int 4), .val (.int 3), .val (.int p6)]) rfl ?_
    refine XS.iload X28.here hx rfl (hb hby d5_15) rfl ?_
    refine XS.sipush X28.here hx rfl (hb hby d5_17) ?_
    refine XS.icmpYes X28.here hx rfl (pc0 := 20) (pc' := 26) rfl (hb hby d5_20) rfl (flt (c32 : ¬ ((255 : Int32) < p6))).2.2.2 (by decide) (by decide) ?_
    refine XS.aloadN X28.here hx rfl (hb hby d5_26) rfl rfl ?_
    refine XS.iloadN X28.here hx rfl (hb hby d5_27) rfl ?_
    show Steps p.tables e below (T28.setTop (mkF m 28 #[.val (.ref a1), .val (.int 3), .val (.ref a2), .val (.int 3), .val (.int 4), .val (.int 3), .val (.int p6)] [(.int 3), (.ref a2)])) _
    refine XS.iload X28.here hx rfl (hb hby d5_28) rfl ?_
    refine XS.i2b X28.here hx rfl (hb hby d5_30) rfl ?_
    refine st35 _ ?_
    refine XS.iinc X35.here hx rfl (hb hby d5_32) rfl (l' := #[.val (.ref a1), .val (.int 4), .val (.ref a2), .val (.int 3), .val (.int 4), .val (.int 3), .val (.int p6)]) rfl ?_
    refine XS.iinc X35.here hx rfl (hb hby d5_35) rfl (l' := #[.val (.ref a1), .val (.int 4), .val (.ref a2), .val (.int 4), .val (.int 4), .val (.int 3), .val (.int p6)]) rfl ?_
    refine XS.iinc X35.here hx rfl (hb hby d5_38) rfl (l' := #[.val (.ref a1), .val (.int 4), .val (.ref a2), .val (.int 4), .val (.int 4), .val (.int 4), .val (.int p6)]) rfl ?_
    refine XS.goto X35.here hx rfl (pc0 := 41) (pc' := 3) rfl (hb hby d5_41) (by decide) (by decide) ?_
    refine XS.iload X35.here hx rfl (hb hby d5_3) rfl ?_
    refine XS.iload X35.here hx rfl (hb hby d5_5) rfl ?_
    refine XS.icmpYes X35.here hx rfl (pc0 := 7) (pc' := 44) rfl (hb hby d5_7) rfl (flt ((by decide : ¬ ((4 : Int32) < (4 : Int32))) : ¬ ((4 : Int32) < (4 : Int32)))).2.1 (by decide) (by decide) ?_
    refine XS.iload X35.here hx rfl (hb hby d5_44) rfl ?_
    exact retI X35 hx hret (hb hby d5_46) hr
theorem ef_a299d2 (a1 : Addr) (m : MethodId) : entryFrame m #[(.ref a1), (.int 0), (.int 4)] 6 = mkF m 0 #[.val (.ref a1), .val (.int 0), .val (.int 4), .unset, .unset, .unset] [] := by first | (simp [entryFrame, mkF, argsToLocals, Value.category]; done) | rfl
-- java/lang/StringUTF16.compress([CII)[B
abbrev Rm70 : Room := { frames := 3, cells := 2, slots := 12, locals := 40 }
def Q70 (Z : State) (a1 : Addr) (p3 : Int32) (p4 : Int32) (p5 : Int32) (p6 : Int32) (k7 : ClassId) (h0 : Heap) (n0 : Nat) (v : Option Value) (h : Heap) (L : List Loc) : Prop := ∃ m0 : Addr, ∃ kk1 : ClassId, ∃ uu2 : List Value, v = some (.ref m0) ∧ Fr n0 L ∧ Keep h0 h [] ∧ h0.size ≤ m0 ∧ Exa Z h m0 "[B" ∧ Arv Z h m0 kk1 .byte (if (255 : Int32) < p3 then (8 : Int32) else (if (255 : Int32) < p4 then (8 : Int32) else (if (255 : Int32) < p5 then (8 : Int32) else (if (255 : Int32) < p6 then (8 : Int32) else (4 : Int32))))) uu2 (.int 0)
-- ef_a299d2
theorem rm70_0 (l : Launch) (Z : State) (a0 : Array Value) (hw : ∀ d ∈ tables_1, d.before a0 Z = true) (ws : List Jvm.Cond) (a1 : Addr) (p3 : Int32) (p4 : Int32) (p5 : Int32) (p6 : Int32) (k7 : ClassId) (h0 : Heap) (n0 : Nat) (Z0 : n0 ≤ h0.size) (V_a1 : Arv Z h0 a1 k7 .char (4 : Int32) [(.int p3), (.int p4), (.int p5), (.int p6)] (.int 0)) (S__assertionsDisabled : Sta Z Z.heap "java/lang/StringUTF16" "$assertionsDisabled" "Z" (.int 1)) (Od0 : Old Z n0 h0) (S_HI_BYTE_SHIFT : Sta Z Z.heap "java/lang/StringUTF16" "HI_BYTE_SHIFT" "I" (.int 0)) (S_LO_BYTE_SHIFT : Sta Z Z.heap "java/lang/StringUTF16" "LO_BYTE_SHIFT" "I" (.int 8)) (c14 : ¬ (p3 < (0 : Int32))) (c15 : ¬ ((65535 : Int32) < p3)) (c25 : ¬ (p4 < (0 : Int32))) (c26 : ¬ ((65535 : Int32) < p4)) (c36 : ¬ (p5 < (0 : Int32))) (c37 : ¬ ((65535 : Int32) < p5)) (c47 : ¬ (p6 < (0 : Int32))) (c48 : ¬ ((65535 : Int32) < p6)) (cc1 : (255 : Int32) < p3) :
    OwnMet l Z y_6 jdk_52_method_16_code 6 (some (.array .byte)) ws Rm70 #[(.ref a1), (.int 0), (.int 4)] h0 (Q70 Z a1 p3 p4 p5 p6 k7 h0 n0) := by
  refine own_body (plainFor_of_name pn_0) (ef_a299d2 a1) ?_
  intro p e s m below meth c s₁ hx hby hml hown hnm hret hZ X0 e0
  have N0 := Fr.nil n0
  obtain ⟨T9, h9, k9, X9, e9, E9, A9, B9, st9⟩ := newPE (aty := .byte) X0 hx hZ (w_20 hw) e0 (g := (mkF m 1 #[.val (.ref a1), .val (.int 0), .val (.int 4), .unset, .unset, .unset] [(.int 4)])) rfl (hb hby d4_1) rfl (by decide) (cap := 4) (by decide) (by decide) (by decide) (by decide) (ad := "[B") (by decide)
  obtain ⟨b9, g9⟩ : ∃ z, z = h0.size := ⟨_, rfl⟩
  rw [← g9] at A9 B9 st9
  have s0 := E9.1
  have Vn9 : Arv Z h9 b9 k9 .byte (4 : Int32) [(.int 0), (.int 0), (.int 0), (.int 0)] (.int 0) := (Arv.new A9 (by decide)).pad (pad_rep [] (.int 0) 4)
  have Va10 := (V_a1.ext E9)
  have z1 := Nat.le_trans Z0 s0
  obtain ⟨_, T11, L11, X11, hQ11, st11⟩ := own_callS X9 hx hZ hown (y := y_0) (w_21 hw) (w_22 hw) (w_18 hw) (w_23 hw) (rm54 l Z a0 hw [] a1 b9 p3 p4 p5 p6 k7 h9 n0 z1 Va10 cc1) e9 (Ls := #[.val (.ref a1), .val (.int 0), .val (.int 4), .val (.ref b9), .unset, .unset]) (by rw [hml]; rfl) (argsL := [(.ref a1), (.int 0), (.ref b9), (.int 0), (.int 4)]) (rest := []) (lenOf pd_0 rfl) (hb hby d4_9) (W := 0)
  obtain ⟨rfl, Nq11, e11⟩ := hQ11
  have N11 := Fr.app N0 Nq11
  have Od1 : Old Z n0 h9 := Od0.ext E9
  obtain ⟨_, T12, L12, X12, hQ12, st12⟩ := own_callS X11 hx hZ hown (y := y_4) (w_67 hw) (w_68 hw) (w_18 hw) (w_69 hw) (rm61 l Z a0 hw [] a1 p3 p4 p5 p6 k7 h9 n0 z1 Va10 S__assertionsDisabled Od1 S_HI_BYTE_SHIFT S_LO_BYTE_SHIFT) e11 (Ls := #[.val (.ref a1), .val (.int 0), .val (.int 4), .val (.ref b9), .val (.int 0), .unset]) (by rw [hml]; rfl) (argsL := [(.ref a1), (.int 0), (.int 4)]) (rest := []) (lenOf pd_4 rfl) (hb hby d4_23) (W := 0)
  obtain ⟨b12_b2_b2, k12_k2_k2, rfl, Nq12, K12, o12_0, o12_1, o12_2⟩ := hQ12
  have N12 := Fr.app N11 Nq12
  have s1 := K12.1
  have Od2 : Old Z n0 T12.heap := Od1.keep K12 all0
  have z2 := Nat.le_trans Z0 (Nat.le_trans s0 s1)
  obtain ⟨_, T13, L13, X13, hQ13, st13⟩ := own_callS X12 hx hZ hown (y := y_5) (w_83 hw) (w_84 hw) (w_18 hw) (w_85 hw) (rm62 l Z a0 hw [] b12_b2_b2 (nar .byte ((p3 >>> ((0 : Int32) &&& 31)).toInt8.toInt32)) (nar .byte ((p3 >>> ((8 : Int32) &&& 31)).toInt8.toInt32)) (nar .byte ((p4 >>> ((0 : Int32) &&& 31)).toInt8.toInt32)) (nar .byte ((p4 >>> ((8 : Int32) &&& 31)).toInt8.toInt32)) (nar .byte ((p5 >>> ((0 : Int32) &&& 31)).toInt8.toInt32)) (nar .byte ((p5 >>> ((8 : Int32) &&& 31)).toInt8.toInt32)) (nar .byte ((p6 >>> ((0 : Int32) &&& 31)).toInt8.toInt32)) (nar .byte ((p6 >>> ((8 : Int32) &&& 31)).toInt8.toInt32)) k12_k2_k2 T12.heap n0 z2 S__assertionsDisabled Od2 o12_2 S_HI_BYTE_SHIFT S_LO_BYTE_SHIFT) rfl (Ls := #[.val (.ref a1), .val (.int 0), .val (.int 4), .val (.ref b9), .val (.int 0), .val (.ref b12_b2_b2)]) (by rw [hml]; rfl) (argsL := [(.ref b12_b2_b2), (.int 0)]) (rest := []) (lenOf pd_5 rfl) (hb hby d4_32) (W := 0)
  obtain ⟨rfl, Nq13, e13⟩ := hQ13
  have N13 := Fr.app N12 Nq13
  have cd16 : (255 : Int32) < (nar .char (((((nar .byte ((p3 >>> ((0 : Int32) &&& 31)).toInt8.toInt32)) &&& (255 : Int32)) <<< ((0 : Int32) &&& 31)) ||| (((nar .byte ((p3 >>> ((8 : Int32) &&& 31)).toInt8.toInt32)) &&& (255 : Int32)) <<< ((8 : Int32) &&& 31))).toUInt32.toUInt16.toUInt32.toInt32)) := (by rw [own_rcN p3 c14 c15]; exact cc1)
  have sz_b12_b2_b2 : h0.size ≤ b12_b2_b2 := Nat.le_trans s0 o12_0
  have Kp0 : Keep h0 h9 [] := (Keep.refl h0 []).ext E9
  have Kp1 : Keep h0 T12.heap [] := Kp0.trans K12 all0
  refine ⟨T13, _, _, _, (some (.ref b12_b2_b2)), X13, nofun, by decide, by decide, ?_, fun fs hr => ?_⟩
  · rw [e13]
    unfold Q70
    rw [show (if (255 : Int32) < p3 then (8 : Int32) else (if (255 : Int32) < p4 then (8 : Int32) else (if (255 : Int32) < p5 then (8 : Int32) else (if (255 : Int32) < p6 then (8 : Int32) else (4 : Int32))))) = (8 : Int32) from by rw [if_pos cc1]]
    exact ⟨b12_b2_b2, k12_k2_k2, [(.int (nar .byte ((p3 >>> ((0 : Int32) &&& 31)).toInt8.toInt32))), (.int (nar .byte ((p3 >>> ((8 : Int32) &&& 31)).toInt8.toInt32))), (.int (nar .byte ((p4 >>> ((0 : Int32) &&& 31)).toInt8.toInt32))), (.int (nar .byte ((p4 >>> ((8 : Int32) &&& 31)).toInt8.toInt32))), (.int (nar .byte ((p5 >>> ((0 : Int32) &&& 31)).toInt8.toInt32))), (.int (nar .byte ((p5 >>> ((8 : Int32) &&& 31)).toInt8.toInt32))), (.int (nar .byte ((p6 >>> ((0 : Int32) &&& 31)).toInt8.toInt32))), (.int (nar .byte ((p6 >>> ((8 : Int32) &&& 31)).toInt8.toInt32)))], rfl, N13, Kp1, sz_b12_b2_b2, o12_1, o12_2⟩
  · refine XS.iloadN X0.here hx rfl (hb hby d4_0) rfl ?_
    refine st9 _ ?_
    refine XS.astoreN X9.here hx rfl (hb hby d4_3) rfl rfl (l' := #[.val (.ref a1), .val (.int 0), .val (.int 4), .val (.ref b9), .unset, .unset]) rfl ?_
    refine XS.aloadN X9.here hx rfl (hb hby d4_4) rfl rfl ?_
    refine XS.iloadN X9.here hx rfl (hb hby d4_5) rfl ?_
    refine XS.aloadN X9.here hx rfl (hb hby d4_6) rfl rfl ?_
    refine XS.iconst X9.here hx rfl (hb hby d4_7) ?_
    refine XS.iloadN X9.here hx rfl (hb hby d4_8) rfl ?_
    refine st11 _ ?_
    refine XS.istore X11.here hx rfl (hb hby d4_12) rfl (l' := #[.val (.ref a1), .val (.int 0), .val (.int 4), .val (.ref b9), .val (.int 0), .unset]) rfl ?_
    refine XS.iload X11.here hx rfl (hb hby d4_14) rfl ?_
    show Steps p.tables e below (T11.setTop (mkF m 16 #[.val (.ref a1), .val (.int 0), .val (.int 4), .val (.ref b9), .val (.int 0), .unset] [(.int 0)])) _
    refine XS.iloadN X11.here hx rfl (hb hby d4_16) rfl ?_
    refine XS.icmpNo X11.here hx rfl (hb hby d4_17) rfl (feq ((by decide : ¬ ((0 : Int32) = (4 : Int32))) : ¬ ((0 : Int32) = (4 : Int32)))).1 ?_
    refine XS.aloadN X11.here hx rfl (hb hby d4_20) rfl rfl ?_
    refine XS.iloadN X11.here hx rfl (hb hby d4_21) rfl ?_
    refine XS.iloadN X11.here hx rfl (hb hby d4_22) rfl ?_
    refine st12 _ ?_
    refine XS.astore X12.here hx rfl (hb hby d4_26) rfl rfl (l' := #[.val (.ref a1), .val (.int 0), .val (.int 4), .val (.ref b9), .val (.int 0), .val (.ref b12_b2_b2)]) rfl ?_
    refine XS.aload X12.here hx rfl (hb hby d4_28) rfl rfl ?_
    refine XS.iload X12.here hx rfl (hb hby d4_30) rfl ?_
    refine st13 _ ?_
    refine XS.sipush X13.here hx rfl (hb hby d4_35) ?_
    refine XS.icmpYes X13.here hx rfl (pc0 := 38) (pc' := 54) rfl (hb hby d4_38) rfl (tlt (cd16 : (255 : Int32) < (nar .char (((((nar .byte ((p3 >>> ((0 : Int32) &&& 31)).toInt8.toInt32)) &&& (255 : Int32)) <<< ((0 : Int32) &&& 31)) ||| (((nar .byte ((p3 >>> ((8 : Int32) &&& 31)).toInt8.toInt32)) &&& (255 : Int32)) <<< ((8 : Int32) &&& 31))).toUInt32.toUInt16.toUInt32.toInt32)))).2.2.1 (by decide) (by decide) ?_
    show Steps p.tables e below (T13.setTop (mkF m 54 #[.val (.ref a1), .val (.int 0), .val (.int 4), .val (.ref b9), .val (.int 0), .val (.ref b12_b2_b2)] [])) _
    refine XS.aload X13.here hx rfl (hb hby d4_54) rfl rfl ?_
    exact retOut X13 hx hret rfl (Or.inr (Or.inr (Or.inr (Or.inr ⟨rfl, rfl, rfl⟩)))) (hb hby d4_56) hr
theorem rm70_1 (l : Launch) (Z : State) (a0 : Array Value) (hw : ∀ d ∈ tables_1, d.before a0 Z = true) (ws : List Jvm.Cond) (a1 : Addr) (p3 : Int32) (p4 : Int32) (p5 : Int32) (p6 : Int32) (k7 : ClassId) (h0 : Heap) (n0 : Nat) (Z0 : n0 ≤ h0.size) (V_a1 : Arv Z h0 a1 k7 .char (4 : Int32) [(.int p3), (.int p4), (.int p5), (.int p6)] (.int 0)) (S__assertionsDisabled : Sta Z Z.heap "java/lang/StringUTF16" "$assertionsDisabled" "Z" (.int 1)) (Od0 : Old Z n0 h0) (S_HI_BYTE_SHIFT : Sta Z Z.heap "java/lang/StringUTF16" "HI_BYTE_SHIFT" "I" (.int 0)) (S_LO_BYTE_SHIFT : Sta Z Z.heap "java/lang/StringUTF16" "LO_BYTE_SHIFT" "I" (.int 8)) (c14 : ¬ (p3 < (0 : Int32))) (c15 : ¬ ((65535 : Int32) < p3)) (c25 : ¬ (p4 < (0 : Int32))) (c26 : ¬ ((65535 : Int32) < p4)) (c36 : ¬ (p5 < (0 : Int32))) (c37 : ¬ ((65535 : Int32) < p5)) (c47 : ¬ (p6 < (0 : Int32))) (c48 : ¬ ((65535 : Int32) < p6)) (cc1 : ¬ ((255 : Int32) < p3)) (cc2 : (255 : Int32) < p4) :
    OwnMet l Z y_6 jdk_52_method_16_code 6 (some (.array .byte)) ws Rm70 #[(.ref a1), (.int 0), (.int 4)] h0 (Q70 Z a1 p3 p4 p5 p6 k7 h0 n0) := by
  refine own_body (plainFor_of_name pn_0) (ef_a299d2 a1) ?_
  intro p e s m below meth c s₁ hx hby hml hown hnm hret hZ X0 e0
  have N0 := Fr.nil n0
  obtain ⟨T19, h19, k19, X19, e19, E19, A19, B19, st19⟩ := newPE (aty := .byte) X0 hx hZ (w_20 hw) e0 (g := (mkF m 1 #[.val (.ref a1), .val (.int 0), .val (.int 4), .unset, .unset, .unset] [(.int 4)])) rfl (hb hby d4_1) rfl (by decide) (cap := 4) (by decide) (by decide) (by decide) (by decide) (ad := "[B") (by decide)
  obtain ⟨b19, g19⟩ : ∃ z, z = h0.size := ⟨_, rfl⟩
  rw [← g19] at A19 B19 st19
  have s0 := E19.1
  have Vn19 : Arv Z h19 b19 k19 .byte (4 : Int32) [(.int 0), (.int 0), (.int 0), (.int 0)] (.int 0) := (Arv.new A19 (by decide)).pad (pad_rep [] (.int 0) 4)
  have Va20 := (V_a1.ext E19)
  have g_b19 : n0 ≤ b19 := Nat.le_trans Z0 (Nat.le_of_eq g19.symm)
  have ne_a1_b19 := Nat.ne_of_lt (Nat.lt_of_lt_of_le V_a1.lt (Nat.le_of_eq g19.symm))
  have z1 := Nat.le_trans Z0 s0
  obtain ⟨_, T21, L21, X21, hQ21, st21⟩ := own_callS X19 hx hZ hown (y := y_0) (w_21 hw) (w_22 hw) (w_18 hw) (w_23 hw) (rm63 l Z a0 hw [] a1 b19 p3 p4 p5 p6 k7 k19 h19 n0 z1 Va20 cc1 Vn19 g_b19 ne_a1_b19 cc2 B19) e19 (Ls := #[.val (.ref a1), .val (.int 0), .val (.int 4), .val (.ref b19), .unset, .unset]) (by rw [hml]; rfl) (argsL := [(.ref a1), (.int 0), (.ref b19), (.int 0), (.int 4)]) (rest := []) (lenOf pd_0 rfl) (hb hby d4_9) (W := 0)
  obtain ⟨rfl, Nq21, K21, o21_0, o21_1⟩ := hQ21
  have N21 := Fr.app N0 Nq21
  have s1 := K21.1
  have Va22 := (Va20.keep K21 (ninS ne_a1_b19 nin0))
  have Od1 : Old Z n0 h19 := Od0.ext E19
  have Od2 : Old Z n0 T21.heap := Od1.keep K21 (allS g_b19 all0)
  have z2 := Nat.le_trans Z0 (Nat.le_trans s0 s1)
  obtain ⟨_, T23, L23, X23, hQ23, st23⟩ := own_callS X21 hx hZ hown (y := y_4) (w_67 hw) (w_68 hw) (w_18 hw) (w_69 hw) (rm61 l Z a0 hw [] a1 p3 p4 p5 p6 k7 T21.heap n0 z2 Va22 S__assertionsDisabled Od2 S_HI_BYTE_SHIFT S_LO_BYTE_SHIFT) rfl (Ls := #[.val (.ref a1), .val (.int 0), .val (.int 4), .val (.ref b19), .val (.int 1), .unset]) (by rw [hml]; rfl) (argsL := [(.ref a1), (.int 0), (.int 4)]) (rest := []) (lenOf pd_4 rfl) (hb hby d4_23) (W := 0)
  obtain ⟨b23_b2_b2, k23_k2_k2, rfl, Nq23, K23, o23_0, o23_1, o23_2⟩ := hQ23
  have N23 := Fr.app N21 Nq23
  have s2 := K23.1
  have Od3 : Old Z n0 T23.heap := Od2.keep K23 all0
  have z3 := Nat.le_trans Z0 (Nat.le_trans (Nat.le_trans s0 s1) s2)
  obtain ⟨_, T24, L24, X24, hQ24, st24⟩ := own_callS X23 hx hZ hown (y := y_5) (w_83 hw) (w_84 hw) (w_18 hw) (w_85 hw) (rm64 l Z a0 hw [] b23_b2_b2 (nar .byte ((p3 >>> ((0 : Int32) &&& 31)).toInt8.toInt32)) (nar .byte ((p3 >>> ((8 : Int32) &&& 31)).toInt8.toInt32)) (nar .byte ((p4 >>> ((0 : Int32) &&& 31)).toInt8.toInt32)) (nar .byte ((p4 >>> ((8 : Int32) &&& 31)).toInt8.toInt32)) (nar .byte ((p5 >>> ((0 : Int32) &&& 31)).toInt8.toInt32)) (nar .byte ((p5 >>> ((8 : Int32) &&& 31)).toInt8.toInt32)) (nar .byte ((p6 >>> ((0 : Int32) &&& 31)).toInt8.toInt32)) (nar .byte ((p6 >>> ((8 : Int32) &&& 31)).toInt8.toInt32)) k23_k2_k2 T23.heap n0 z3 S__assertionsDisabled Od3 o23_2 S_HI_BYTE_SHIFT S_LO_BYTE_SHIFT) rfl (Ls := #[.val (.ref a1), .val (.int 0), .val (.int 4), .val (.ref b19), .val (.int 1), .val (.ref b23_b2_b2)]) (by rw [hml]; rfl) (argsL := [(.ref b23_b2_b2), (.int 1)]) (rest := []) (lenOf pd_5 rfl) (hb hby d4_32) (W := 0)
  obtain ⟨rfl, Nq24, e24⟩ := hQ24
  have N24 := Fr.app N23 Nq24
  have cd27 : (255 : Int32) < (nar .char (((((nar .byte ((p4 >>> ((0 : Int32) &&& 31)).toInt8.toInt32)) &&& (255 : Int32)) <<< ((0 : Int32) &&& 31)) ||| (((nar .byte ((p4 >>> ((8 : Int32) &&& 31)).toInt8.toInt32)) &&& (255 : Int32)) <<< ((8 : Int32) &&& 31))).toUInt32.toUInt16.toUInt32.toInt32)) := (by rw [own_rcN p4 c25 c26]; exact cc2)
  have sz_b23_b2_b2 : h0.size ≤ b23_b2_b2 := Nat.le_trans (Nat.le_trans s0 s1) o23_0
  have Kp0 : Keep h0 h19 [] := (Keep.refl h0 []).ext E19
  have sz_b19 : h0.size ≤ b19 := (Nat.le_of_eq g19.symm)
  have Kp1 : Keep h0 T21.heap [] := Kp0.trans K21 (allS (Or.inr sz_b19) all0)
  have Kp2 : Keep h0 T23.heap [] := Kp1.trans K23 all0
  refine ⟨T24, _, _, _, (some (.ref b23_b2_b2)), X24, nofun, by decide, by decide, ?_, fun fs hr => ?_⟩
  · rw [e24]
    unfold Q70
    rw [show (if (255 : Int32) < p3 then (8 : Int32) else (if (255 : Int32) < p4 then (8 : Int32) else (if (255 : Int32) < p5 then (8 : Int32) else (if (255 : Int32) < p6 then (8 : Int32) else (4 : Int32))))) = (8 : Int32) from by rw [if_neg cc1, if_pos cc2]]
    exact ⟨b23_b2_b2, k23_k2_k2, [(.int (nar .byte ((p3 >>> ((0 : Int32) &&& 31)).toInt8.toInt32))), (.int (nar .byte ((p3 >>> ((8 : Int32) &&& 31)).toInt8.toInt32))), (.int (nar .byte ((p4 >>> ((0 : Int32) &&& 31)).toInt8.toInt32))), (.int (nar .byte ((p4 >>> ((8 : Int32) &&& 31)).toInt8.toInt32))), (.int (nar .byte ((p5 >>> ((0 : Int32) &&& 31)).toInt8.toInt32))), (.int (nar .byte ((p5 >>> ((8 : Int32) &&& 31)).toInt8.toInt32))), (.int (nar .byte ((p6 >>> ((0 : Int32) &&& 31)).toInt8.toInt32))), (.int (nar .byte ((p6 >>> ((8 : Int32) &&& 31)).toInt8.toInt32)))], rfl, N24, Kp2, sz_b23_b2_b2, o23_1, o23_2⟩
  · refine XS.iloadN X0.here hx rfl (hb hby d4_0) rfl ?_
    refine st19 _ ?_
    refine XS.astoreN X19.here hx rfl (hb hby d4_3) rfl rfl (l' := #[.val (.ref a1), .val (.int 0), .val (.int 4), .val (.ref b19), .unset, .unset]) rfl ?_
    refine XS.aloadN X19.here hx rfl (hb hby d4_4) rfl rfl ?_
    refine XS.iloadN X19.here hx rfl (hb hby d4_5) rfl ?_
    refine XS.aloadN X19.here hx rfl (hb hby d4_6) rfl rfl ?_
    refine XS.iconst X19.here hx rfl (hb hby d4_7) ?_
    refine XS.iloadN X19.here hx rfl (hb hby d4_8) rfl ?_
    refine st21 _ ?_
    refine XS.istore X21.here hx rfl (hb hby d4_12) rfl (l' := #[.val (.ref a1), .val (.int 0), .val (.int 4), .val (.ref b19), .val (.int 1), .unset]) rfl ?_
    refine XS.iload X21.here hx rfl (hb hby d4_14) rfl ?_
    show Steps p.tables e below (T21.setTop (mkF m 16 #[.val (.ref a1), .val (.int 0), .val (.int 4), .val (.ref b19), .val (.int 1), .unset] [(.int 1)])) _
    refine XS.iloadN X21.here hx rfl (hb hby d4_16) rfl ?_
    refine XS.icmpNo X21.here hx rfl (hb hby d4_17) rfl (feq ((by decide : ¬ ((1 : Int32) = (4 : Int32))) : ¬ ((1 : Int32) = (4 : Int32)))).1 ?_
    refine XS.aloadN X21.here hx rfl (hb hby d4_20) rfl rfl ?_
    refine XS.iloadN X21.here hx rfl (hb hby d4_21) rfl ?_
    refine XS.iloadN X21.here hx rfl (hb hby d4_22) rfl ?_
    refine st23 _ ?_
    refine XS.astore X23.here hx rfl (hb hby d4_26) rfl rfl (l' := #[.val (.ref a1), .val (.int 0), .val (.int 4), .val (.ref b19), .val (.int 1), .val (.ref b23_b2_b2)]) rfl ?_
    refine XS.aload X23.here hx rfl (hb hby d4_28) rfl rfl ?_
    refine XS.iload X23.here hx rfl (hb hby d4_30) rfl ?_
    refine st24 _ ?_
    refine XS.sipush X24.here hx rfl (hb hby d4_35) ?_
    refine XS.icmpYes X24.here hx rfl (pc0 := 38) (pc' := 54) rfl (hb hby d4_38) rfl (tlt (cd27 : (255 : Int32) < (nar .char (((((nar .byte ((p4 >>> ((0 : Int32) &&& 31)).toInt8.toInt32)) &&& (255 : Int32)) <<< ((0 : Int32) &&& 31)) ||| (((nar .byte ((p4 >>> ((8 : Int32) &&& 31)).toInt8.toInt32)) &&& (255 : Int32)) <<< ((8 : Int32) &&& 31))).toUInt32.toUInt16.toUInt32.toInt32)))).2.2.1 (by decide) (by decide) ?_
    show Steps p.tables e below (T24.setTop (mkF m 54 #[.val (.ref a1), .val (.int 0), .val (.int 4), .val (.ref b19), .val (.int 1), .val (.ref b23_b2_b2)] [])) _
    refine XS.aload X24.here hx rfl (hb hby d4_54) rfl rfl ?_
    exact retOut X24 hx hret rfl (Or.inr (Or.inr (Or.inr (Or.inr ⟨rfl, rfl, rfl⟩)))) (hb hby d4_56) hr
theorem rm70_2 (l : Launch) (Z : State) (a0 : Array Value) (hw : ∀ d ∈ tables_1, d.before a0 Z = true) (ws : List Jvm.Cond) (a1 : Addr) (p3 : Int32) (p4 : Int32) (p5 : Int32) (p6 : Int32) (k7 : ClassId) (h0 : Heap) (n0 : Nat) (Z0 : n0 ≤ h0.size) (V_a1 : Arv Z h0 a1 k7 .char (4 : Int32) [(.int p3), (.int p4), (.int p5), (.int p6)] (.int 0)) (S__assertionsDisabled : Sta Z Z.heap "java/lang/StringUTF16" "$assertionsDisabled" "Z" (.int 1)) (Od0 : Old Z n0 h0) (S_HI_BYTE_SHIFT : Sta Z Z.heap "java/lang/StringUTF16" "HI_BYTE_SHIFT" "I" (.int 0)) (S_LO_BYTE_SHIFT : Sta Z Z.heap "java/lang/StringUTF16" "LO_BYTE_SHIFT" "I" (.int 8)) (c14 : ¬ (p3 < (0 : Int32))) (c15 : ¬ ((65535 : Int32) < p3)) (c25 : ¬ (p4 < (0 : Int32))) (c26 : ¬ ((65535 : Int32) < p4)) (c36 : ¬ (p5 < (0 : Int32))) (c37 : ¬ ((65535 : Int32) < p5)) (c47 : ¬ (p6 < (0 : Int32))) (c48 : ¬ ((65535 : Int32) < p6)) (cc1 : ¬ ((255 : Int32) < p3)) (cc2 : ¬ ((255 : Int32) < p4)) (cc3 : (255 : Int32) < p5) :
    OwnMet l Z y_6 jdk_52_method_16_code 6 (some (.array .byte)) ws Rm70 #[(.ref a1), (.int 0), (.int 4)] h0 (Q70 Z a1 p3 p4 p5 p6 k7 h0 n0) := by
  refine own_body (plainFor_of_name pn_0) (ef_a299d2 a1) ?_
  intro p e s m below meth c s₁ hx hby hml hown hnm hret hZ X0 e0
  have N0 := Fr.nil n0
  obtain ⟨T30, h30, k30, X30, e30, E30, A30, B30, st30⟩ := newPE (aty := .byte) X0 hx hZ (w_20 hw) e0 (g := (mkF m 1 #[.val (.ref a1), .val (.int 0), .val (.int 4), .unset, .unset, .unset] [(.int 4)])) rfl (hb hby d4_1) rfl (by decide) (cap := 4) (by decide) (by decide) (by decide) (by decide) (ad := "[B") (by decide)
  obtain ⟨b30, g30⟩ : ∃ z, z = h0.size := ⟨_, rfl⟩
  rw [← g30] at A30 B30 st30
  have s0 := E30.1
  have Vn30 : Arv Z h30 b30 k30 .byte (4 : Int32) [(.int 0), (.int 0), (.int 0), (.int 0)] (.int 0) := (Arv.new A30 (by decide)).pad (pad_rep [] (.int 0) 4)
  have Va31 := (V_a1.ext E30)
  have g_b30 : n0 ≤ b30 := Nat.le_trans Z0 (Nat.le_of_eq g30.symm)
  have ne_a1_b30 := Nat.ne_of_lt (Nat.lt_of_lt_of_le V_a1.lt (Nat.le_of_eq g30.symm))
  have z1 := Nat.le_trans Z0 s0
  obtain ⟨_, T32, L32, X32, hQ32, st32⟩ := own_callS X30 hx hZ hown (y := y_0) (w_21 hw) (w_22 hw) (w_18 hw) (w_23 hw) (rm65 l Z a0 hw [] a1 b30 p3 p4 p5 p6 k7 k30 h30 n0 z1 Va31 cc1 Vn30 g_b30 ne_a1_b30 cc2 cc3 B30) e30 (Ls := #[.val (.ref a1), .val (.int 0), .val (.int 4), .val (.ref b30), .unset, .unset]) (by rw [hml]; rfl) (argsL := [(.ref a1), (.int 0), (.ref b30), (.int 0), (.int 4)]) (rest := []) (lenOf pd_0 rfl) (hb hby d4_9) (W := 0)
  obtain ⟨rfl, Nq32, K32, o32_0, o32_1⟩ := hQ32
  have N32 := Fr.app N0 Nq32
  have s1 := K32.1
  have Va33 := (Va31.keep K32 (ninS ne_a1_b30 nin0))
  have Od1 : Old Z n0 h30 := Od0.ext E30
  have Od2 : Old Z n0 T32.heap := Od1.keep K32 (allS g_b30 all0)
  have z2 := Nat.le_trans Z0 (Nat.le_trans s0 s1)
  obtain ⟨_, T34, L34, X34, hQ34, st34⟩ := own_callS X32 hx hZ hown (y := y_4) (w_67 hw) (w_68 hw) (w_18 hw) (w_69 hw) (rm61 l Z a0 hw [] a1 p3 p4 p5 p6 k7 T32.heap n0 z2 Va33 S__assertionsDisabled Od2 S_HI_BYTE_SHIFT S_LO_BYTE_SHIFT) rfl (Ls := #[.val (.ref a1), .val (.int 0), .val (.int 4), .val (.ref b30), .val (.int 2), .unset]) (by rw [hml]; rfl) (argsL := [(.ref a1), (.int 0), (.int 4)]) (rest := []) (lenOf pd_4 rfl) (hb hby d4_23) (W := 0)
  obtain ⟨b34_b2_b2, k34_k2_k2, rfl, Nq34, K34, o34_0, o34_1, o34_2⟩ := hQ34
  have N34 := Fr.app N32 Nq34
  have s2 := K34.1
  have Od3 : Old Z n0 T34.heap := Od2.keep K34 all0
  have z3 := Nat.le_trans Z0 (Nat.le_trans (Nat.le_trans s0 s1) s2)
  obtain ⟨_, T35, L35, X35, hQ35, st35⟩ := own_callS X34 hx hZ hown (y := y_5) (w_83 hw) (w_84 hw) (w_18 hw) (w_85 hw) (rm66 l Z a0 hw [] b34_b2_b2 (nar .byte ((p3 >>> ((0 : Int32) &&& 31)).toInt8.toInt32)) (nar .byte ((p3 >>> ((8 : Int32) &&& 31)).toInt8.toInt32)) (nar .byte ((p4 >>> ((0 : Int32) &&& 31)).toInt8.toInt32)) (nar .byte ((p4 >>> ((8 : Int32) &&& 31)).toInt8.toInt32)) (nar .byte ((p5 >>> ((0 : Int32) &&& 31)).toInt8.toInt32)) (nar .byte ((p5 >>> ((8 : Int32) &&& 31)).toInt8.toInt32)) (nar .byte ((p6 >>> ((0 : Int32) &&& 31)).toInt8.toInt32)) (nar .byte ((p6 >>> ((8 : Int32) &&& 31)).toInt8.toInt32)) k34_k2_k2 T34.heap n0 z3 S__assertionsDisabled Od3 o34_2 S_HI_BYTE_SHIFT S_LO_BYTE_SHIFT) rfl (Ls := #[.val (.ref a1), .val (.int 0), .val (.int 4), .val (.ref b30), .val (.int 2), .val (.ref b34_b2_b2)]) (by rw [hml]; rfl) (argsL := [(.ref b34_b2_b2), (.int 2)]) (rest := []) (lenOf pd_5 rfl) (hb hby d4_32) (W := 0)
  obtain ⟨rfl, Nq35, e35⟩ := hQ35
  have N35 := Fr.app N34 Nq35
  have cd38 : (255 : Int32) < (nar .char (((((nar .byte ((p5 >>> ((0 : Int32) &&& 31)).toInt8.toInt32)) &&& (255 : Int32)) <<< ((0 : Int32) &&& 31)) ||| (((nar .byte ((p5 >>> ((8 : Int32) &&& 31)).toInt8.toInt32)) &&& (255 : Int32)) <<< ((8 : Int32) &&& 31))).toUInt32.toUInt16.toUInt32.toInt32)) := (by rw [own_rcN p5 c36 c37]; exact cc3)
  have sz_b34_b2_b2 : h0.size ≤ b34_b2_b2 := Nat.le_trans (Nat.le_trans s0 s1) o34_0
  have Kp0 : Keep h0 h30 [] := (Keep.refl h0 []).ext E30
  have sz_b30 : h0.size ≤ b30 := (Nat.le_of_eq g30.symm)
  have Kp1 : Keep h0 T32.heap [] := Kp0.trans K32 (allS (Or.inr sz_b30) all0)
  have Kp2 : Keep h0 T34.heap [] := Kp1.trans K34 all0
  refine ⟨T35, _, _, _, (some (.ref b34_b2_b2)), X35, nofun, by decide, by decide, ?_, fun fs hr => ?_⟩
  · rw [e35]
    unfold Q70
    rw [show (if (255 : Int32) < p3 then (8 : Int32) else (if (255 : Int32) < p4 then (8 : Int32) else (if (255 : Int32) < p5 then (8 : Int32) else (if (255 : Int32) < p6 then (8 : Int32) else (4 : Int32))))) = (8 : Int32) from by rw [if_neg cc1, if_neg cc2, if_pos cc3]]
    exact ⟨b34_b2_b2, k34_k2_k2, [(.int (nar .byte ((p3 >>> ((0 : Int32) &&& 31)).toInt8.toInt32))), (.int (nar .byte ((p3 >>> ((8 : Int32) &&& 31)).toInt8.toInt32))), (.int (nar .byte ((p4 >>> ((0 : Int32) &&& 31)).toInt8.toInt32))), (.int (nar .byte ((p4 >>> ((8 : Int32) &&& 31)).toInt8.toInt32))), (.int (nar .byte ((p5 >>> ((0 : Int32) &&& 31)).toInt8.toInt32))), (.int (nar .byte ((p5 >>> ((8 : Int32) &&& 31)).toInt8.toInt32))), (.int (nar .byte ((p6 >>> ((0 : Int32) &&& 31)).toInt8.toInt32))), (.int (nar .byte ((p6 >>> ((8 : Int32) &&& 31)).toInt8.toInt32)))], rfl, N35, Kp2, sz_b34_b2_b2, o34_1, o34_2⟩
  · refine XS.iloadN X0.here hx rfl (hb hby d4_0) rfl ?_
    refine st30 _ ?_
    refine XS.astoreN X30.here hx rfl (hb hby d4_3) rfl rfl (l' := #[.val (.ref a1), .val (.int 0), .val (.int 4), .val (.ref b30), .unset, .unset]) rfl ?_
    refine XS.aloadN X30.here hx rfl (hb hby d4_4) rfl rfl ?_
    refine XS.iloadN X30.here hx rfl (hb hby d4_5) rfl ?_
    refine XS.aloadN X30.here hx rfl (hb hby d4_6) rfl rfl ?_
    refine XS.iconst X30.here hx rfl (hb hby d4_7) ?_
    refine XS.iloadN X30.here hx rfl (hb hby d4_8) rfl ?_
    refine st32 _ ?_
    refine XS.istore X32.here hx rfl (hb hby d4_12) rfl (l' := #[.val (.ref a1), .val (.int 0), .val (.int 4), .val (.ref b30), .val (.int 2), .unset]) rfl ?_
    refine XS.iload X32.here hx rfl (hb hby d4_14) rfl ?_
    show Steps p.tables e below (T32.setTop (mkF m 16 #[.val (.ref a1), .val (.int 0), .val (.int 4), .val (.ref b30), .val (.int 2), .unset] [(.int 2)])) _
    refine XS.iloadN X32.here hx rfl (hb hby d4_16) rfl ?_
    refine XS.icmpNo X32.here hx rfl (hb hby d4_17) rfl (feq ((by decide : ¬ ((2 : Int32) = (4 : Int32))) : ¬ ((2 : Int32) = (4 : Int32)))).1 ?_
    refine XS.aloadN X32.here hx rfl (hb hby d4_20) rfl rfl ?_
    refine XS.iloadN X32.here hx rfl (hb hby d4_21) rfl ?_
    refine XS.iloadN X32.here hx rfl (hb hby d4_22) rfl ?_
    refine st34 _ ?_
    refine XS.astore X34.here hx rfl (hb hby d4_26) rfl rfl (l' := #[.val (.ref a1), .val (.int 0), .val (.int 4), .val (.ref b30), .val (.int 2), .val (.ref b34_b2_b2)]) rfl ?_
    refine XS.aload X34.here hx rfl (hb hby d4_28) rfl rfl ?_
    refine XS.iload X34.here hx rfl (hb hby d4_30) rfl ?_
    refine st35 _ ?_
    refine XS.sipush X35.here hx rfl (hb hby d4_35) ?_
    refine XS.icmpYes X35.here hx rfl (pc0 := 38) (pc' := 54) rfl (hb hby d4_38) rfl (tlt (cd38 : (255 : Int32) < (nar .char (((((nar .byte ((p5 >>> ((0 : Int32) &&& 31)).toInt8.toInt32)) &&& (255 : Int32)) <<< ((0 : Int32) &&& 31)) ||| (((nar .byte ((p5 >>> ((8 : Int32) &&& 31)).toInt8.toInt32)) &&& (255 : Int32)) <<< ((8 : Int32) &&& 31))).toUInt32.toUInt16.toUInt32.toInt32)))).2.2.1 (by decide) (by decide) ?_
    show Steps p.tables e below (T35.setTop (mkF m 54 #[.val (.ref a1), .val (.int 0), .val (.int 4), .val (.ref b30), .val (.int 2), .val (.ref b34_b2_b2)] [])) _
    refine XS.aload X35.here hx rfl (hb hby d4_54) rfl rfl ?_
    exact retOut X35 hx hret rfl (Or.inr (Or.inr (Or.inr (Or.inr ⟨rfl, rfl, rfl⟩)))) (hb hby d4_56) hr
theorem rm70_3 (l : Launch) (Z : State) (a0 : Array Value) (hw : ∀ d ∈ tables_1, d.before a0 Z = true) (ws : List Jvm.Cond) (a1 : Addr) (p3 : Int32) (p4 : Int32) (p5 : Int32) (p6 : Int32) (k7 : ClassId) (h0 : Heap) (n0 : Nat) (Z0 : n0 ≤ h0.size) (V_a1 : Arv Z h0 a1 k7 .char (4 : Int32) [(.int p3), (.int p4), (.int p5), (.int p6)] (.int 0)) (S__assertionsDisabled : Sta Z Z.heap "java/lang/StringUTF16" "$assertionsDisabled" "Z" (.int 1)) (Od0 : Old Z n0 h0) (S_HI_BYTE_SHIFT : Sta Z Z.heap "java/lang/StringUTF16" "HI_BYTE_SHIFT" "I" (.int 0)) (S_LO_BYTE_SHIFT : Sta Z Z.heap "java/lang/StringUTF16" "LO_BYTE_SHIFT" "I" (.int 8)) (c14 : ¬ (p3 < (0 : Int32))) (c15 : ¬ ((65535 : Int32) < p3)) (c25 : ¬ (p4 < (0 : Int32))) (c26 : ¬ ((65535 : Int32) < p4)) (c36 : ¬ (p5 < (0 : Int32))) (c37 : ¬ ((65535 : Int32) < p5)) (c47 : ¬ (p6 < (0 : Int32))) (c48 : ¬ ((65535 : Int32) < p6)) (cc1 : ¬ ((255 : Int32) < p3)) (cc2 : ¬ ((255 : Int32) < p4)) (cc3 : ¬ ((255 : Int32) < p5)) (cc4 : (255 : Int32) < p6) :
    OwnMet l Z y_6 jdk_52_method_16_code 6 (some (.array .byte)) ws Rm70 #[(.ref a1), (.int 0), (.int 4)] h0 (Q70 Z a1 p3 p4 p5 p6 k7 h0 n0) := by
  refine own_body (plainFor_of_name pn_0) (ef_a299d2 a1) ?_
  intro p e s m below meth c s₁ hx hby hml hown hnm hret hZ X0 e0
  have N0 := Fr.nil n0
  obtain ⟨T41, h41, k41, X41, e41, E41, A41, B41, st41⟩ := newPE (aty := .byte) X0 hx hZ (w_20 hw) e0 (g := (mkF m 1 #[.val (.ref a1), .val (.int 0), .val (.int 4), .unset, .unset, .unset] [(.int 4)])) rfl (hb hby d4_1) rfl (by decide) (cap := 4) (by decide) (by decide) (by decide) (by decide) (ad := "[B") (by decide)
  obtain ⟨b41, g41⟩ : ∃ z, z = h0.size := ⟨_, rfl⟩
  rw [← g41] at A41 B41 st41
  have s0 := E41.1
  have Vn41 : Arv Z h41 b41 k41 .byte (4 : Int32) [(.int 0), (.int 0), (.int 0), (.int 0)] (.int 0) := (Arv.new A41 (by decide)).pad (pad_rep [] (.int 0) 4)
  have Va42 := (V_a1.ext E41)
  have g_b41 : n0 ≤ b41 := Nat.le_trans Z0 (Nat.le_of_eq g41.symm)
  have ne_a1_b41 := Nat.ne_of_lt (Nat.lt_of_lt_of_le V_a1.lt (Nat.le_of_eq g41.symm))
  have z1 := Nat.le_trans Z0 s0
  obtain ⟨_, T43, L43, X43, hQ43, st43⟩ := own_callS X41 hx hZ hown (y := y_0) (w_21 hw) (w_22 hw) (w_18 hw) (w_23 hw) (rm67 l Z a0 hw [] a1 b41 p3 p4 p5 p6 k7 k41 h41 n0 z1 Va42 cc1 Vn41 g_b41 ne_a1_b41 cc2 cc3 cc4 B41) e41 (Ls := #[.val (.ref a1), .val (.int 0), .val (.int 4), .val (.ref b41), .unset, .unset]) (by rw [hml]; rfl) (argsL := [(.ref a1), (.int 0), (.ref b41), (.int 0), (.int 4)]) (rest := []) (lenOf pd_0 rfl) (hb hby d4_9) (W := 0)
  obtain ⟨rfl, Nq43, K43, o43_0, o43_1⟩ := hQ43
  have N43 := Fr.app N0 Nq43
  have s1 := K43.1
  have Va44 := (Va42.keep K43 (ninS ne_a1_b41 nin0))
  have Od1 : Old Z n0 h41 := Od0.ext E41
  have Od2 : Old Z n0 T43.heap := Od1.keep K43 (allS g_b41 all0)
  have z2 := Nat.le_trans Z0 (Nat.le_trans s0 s1)
  obtain ⟨_, T45, L45, X45, hQ45, st45⟩ := own_callS X43 hx hZ hown (y := y_4) (w_67 hw) (w_68 hw) (w_18 hw) (w_69 hw) (rm61 l Z a0 hw [] a1 p3 p4 p5 p6 k7 T43.heap n0 z2 Va44 S__assertionsDisabled Od2 S_HI_BYTE_SHIFT S_LO_BYTE_SHIFT) rfl (Ls := #[.val (.ref a1), .val (.int 0), .val (.int 4), .val (.ref b41), .val (.int 3), .unset]) (by rw [hml]; rfl) (argsL := [(.ref a1), (.int 0), (.int 4)]) (rest := []) (lenOf pd_4 rfl) (hb hby d4_23) (W := 0)
  obtain ⟨b45_b2_b2, k45_k2_k2, rfl, Nq45, K45, o45_0, o45_1, o45_2⟩ := hQ45
  have N45 := Fr.app N43 Nq45
  have s2 := K45.1
  have Od3 : Old Z n0 T45.heap := Od2.keep K45 all0
  have z3 := Nat.le_trans Z0 (Nat.le_trans (Nat.le_trans s0 s1) s2)
  obtain ⟨_, T46, L46, X46, hQ46, st46⟩ := own_callS X45 hx hZ hown (y := y_5) (w_83 hw) (w_84 hw) (w_18 hw) (w_85 hw) (rm68 l Z a0 hw [] b45_b2_b2 (nar .byte ((p3 >>> ((0 : Int32) &&& 31)).toInt8.toInt32)) (nar .byte ((p3 >>> ((8 : Int32) &&& 31)).toInt8.toInt32)) (nar .byte ((p4 >>> ((0 : Int32) &&& 31)).toInt8.toInt32)) (nar .byte ((p4 >>> ((8 : Int32) &&& 31)).toInt8.toInt32)) (nar .byte ((p5 >>> ((0 : Int32) &&& 31)).toInt8.toInt32)) (nar .byte ((p5 >>> ((8 : Int32) &&& 31)).toInt8.toInt32)) (nar .byte ((p6 >>> ((0 : Int32) &&& 31)).toInt8.toInt32)) (nar .byte ((p6 >>> ((8 : Int32) &&& 31)).toInt8.toInt32)) k45_k2_k2 T45.heap n0 z3 S__assertionsDisabled Od3 o45_2 S_HI_BYTE_SHIFT S_LO_BYTE_SHIFT) rfl (Ls := #[.val (.ref a1), .val (.int 0), .val (.int 4), .val (.ref b41), .val (.int 3), .val (.ref b45_b2_b2)]) (by rw [hml]; rfl) (argsL := [(.ref b45_b2_b2), (.int 3)]) (rest := []) (lenOf pd_5 rfl) (hb hby d4_32) (W := 0)
  obtain ⟨rfl, Nq46, e46⟩ := hQ46
  have N46 := Fr.app N45 Nq46
  have cd49 : (255 : Int32) < (nar .char (((((nar .byte ((p6 >>> ((0 : Int32) &&& 31)).toInt8.toInt32)) &&& (255 : Int32)) <<< ((0 : Int32) &&& 31)) ||| (((nar .byte ((p6 >>> ((8 : Int32) &&& 31)).toInt8.toInt32)) &&& (255 : Int32)) <<< ((8 : Int32) &&& 31))).toUInt32.toUInt16.toUInt32.toInt32)) := (by rw [own_rcN p6 c47 c48]; exact cc4)
  have sz_b45_b2_b2 : h0.size ≤ b45_b2_b2 := Nat.le_trans (Nat.le_trans s0 s1) o45_0
  have Kp0 : Keep h0 h41 [] := (Keep.refl h0 []).ext E41
  have sz_b41 : h0.size ≤ b41 := (Nat.le_of_eq g41.symm)
  have Kp1 : Keep h0 T43.heap [] := Kp0.trans K43 (allS (Or.inr sz_b41) all0)
  have Kp2 : Keep h0 T45.heap [] := Kp1.trans K45 all0
  refine ⟨T46, _, _, _, (some (.ref b45_b2_b2)), X46, nofun, by decide, by decide, ?_, fun fs hr => ?_⟩
  · rw [e46]
    unfold Q70
    rw [show (if (255 : Int32) < p3 then (8 : Int32) else (if (255 : Int32) < p4 then (8 : Int32) else (if (255 : Int32) < p5 then (8 : Int32) else (if (255 : Int32) < p6 then (8 : Int32) else (4 : Int32))))) = (8 : Int32) from by rw [if_neg cc1, if_neg cc2, if_neg cc3, if_pos cc4]]
    exact ⟨b45_b2_b2, k45_k2_k2, [(.int (nar .byte ((p3 >>> ((0 : Int32) &&& 31)).toInt8.toInt32))), (.int (nar .byte ((p3 >>> ((8 : Int32) &&& 31)).toInt8.toInt32))), (.int (nar .byte ((p4 >>> ((0 : Int32) &&& 31)).toInt8.toInt32))), (.int (nar .byte ((p4 >>> ((8 : Int32) &&& 31)).toInt8.toInt32))), (.int (nar .byte ((p5 >>> ((0 : Int32) &&& 31)).toInt8.toInt32))), (.int (nar .byte ((p5 >>> ((8 : Int32) &&& 31)).toInt8.toInt32))), (.int (nar .byte ((p6 >>> ((0 : Int32) &&& 31)).toInt8.toInt32))), (.int (nar .byte ((p6 >>> ((8 : Int32) &&& 31)).toInt8.toInt32)))], rfl, N46, Kp2, sz_b45_b2_b2, o45_1, o45_2⟩
  · refine XS.iloadN X0.here hx rfl (hb hby d4_0) rfl ?_
    refine st41 _ ?_
    refine XS.astoreN X41.here hx rfl (hb hby d4_3) rfl rfl (l' := #[.val (.ref a1), .val (.int 0), .val (.int 4), .val (.ref b41), .unset, .unset]) rfl ?_
    refine XS.aloadN X41.here hx rfl (hb hby d4_4) rfl rfl ?_
    refine XS.iloadN X41.here hx rfl (hb hby d4_5) rfl ?_
    refine XS.aloadN X41.here hx rfl (hb hby d4_6) rfl rfl ?_
    refine XS.iconst X41.here hx rfl (hb hby d4_7) ?_
    refine XS.iloadN X41.here hx rfl (hb hby d4_8) rfl ?_
    refine st43 _ ?_
    refine XS.istore X43.here hx rfl (hb hby d4_12) rfl (l' := #[.val (.ref a1), .val (.int 0), .val (.int 4), .val (.ref b41), .val (.int 3), .unset]) rfl ?_
    refine XS.iload X43.here hx rfl (hb hby d4_14) rfl ?_
    show Steps p.tables e below (T43.setTop (mkF m 16 #[.val (.ref a1), .val (.int 0), .val (.int 4), .val (.ref b41), .val (.int 3), .unset] [(.int 3)])) _
    refine XS.iloadN X43.here hx rfl (hb hby d4_16) rfl ?_
    refine XS.icmpNo X43.here hx rfl (hb hby d4_17) rfl (feq ((by decide : ¬ ((3 : Int32) = (4 : Int32))) : ¬ ((3 : Int32) = (4 : Int32)))).1 ?_
    refine XS.aloadN X43.here hx rfl (hb hby d4_20) rfl rfl ?_
    refine XS.iloadN X43.here hx rfl (hb hby d4_21) rfl ?_
    refine XS.iloadN X43.here hx rfl (hb hby d4_22) rfl ?_
    refine st45 _ ?_
    refine XS.astore X45.here hx rfl (hb hby d4_26) rfl rfl (l' := #[.val (.ref a1), .val (.int 0), .val (.int 4), .val (.ref b41), .val (.int 3), .val (.ref b45_b2_b2)]) rfl ?_
    refine XS.aload X45.here hx rfl (hb hby d4_28) rfl rfl ?_
    refine XS.iload X45.here hx rfl (hb hby d4_30) rfl ?_
    refine st46 _ ?_
    refine XS.sipush X46.here hx rfl (hb hby d4_35) ?_
    refine XS.icmpYes X46.here hx rfl (pc0 := 38) (pc' := 54) rfl (hb hby d4_38) rfl (tlt (cd49 : (255 : Int32) < (nar .char (((((nar .byte ((p6 >>> ((0 : Int32) &&& 31)).toInt8.toInt32)) &&& (255 : Int32)) <<< ((0 : Int32) &&& 31)) ||| (((nar .byte ((p6 >>> ((8 : Int32) &&& 31)).toInt8.toInt32)) &&& (255 : Int32)) <<< ((8 : Int32) &&& 31))).toUInt32.toUInt16.toUInt32.toInt32)))).2.2.1 (by decide) (by decide) ?_
    show Steps p.tables e below (T46.setTop (mkF m 54 #[.val (.ref a1), .val (.int 0), .val (.int 4), .val (.ref b41), .val (.int 3), .val (.ref b45_b2_b2)] [])) _
    refine XS.aload X46.here hx rfl (hb hby d4_54) rfl rfl ?_
    exact retOut X46 hx hret rfl (Or.inr (Or.inr (Or.inr (Or.inr ⟨rfl, rfl, rfl⟩)))) (hb hby d4_56) hr
theorem rm70_4 (l : Launch) (Z : State) (a0 : Array Value) (hw : ∀ d ∈ tables_1, d.before a0 Z = true) (ws : List Jvm.Cond) (a1 : Addr) (p3 : Int32) (p4 : Int32) (p5 : Int32) (p6 : Int32) (k7 : ClassId) (h0 : Heap) (n0 : Nat) (Z0 : n0 ≤ h0.size) (V_a1 : Arv Z h0 a1 k7 .char (4 : Int32) [(.int p3), (.int p4), (.int p5), (.int p6)] (.int 0)) (S__assertionsDisabled : Sta Z Z.heap "java/lang/StringUTF16" "$assertionsDisabled" "Z" (.int 1)) (Od0 : Old Z n0 h0) (S_HI_BYTE_SHIFT : Sta Z Z.heap "java/lang/StringUTF16" "HI_BYTE_SHIFT" "I" (.int 0)) (S_LO_BYTE_SHIFT : Sta Z Z.heap "java/lang/StringUTF16" "LO_BYTE_SHIFT" "I" (.int 8)) (c14 : ¬ (p3 < (0 : Int32))) (c15 : ¬ ((65535 : Int32) < p3)) (c25 : ¬ (p4 < (0 : Int32))) (c26 : ¬ ((65535 : Int32) < p4)) (c36 : ¬ (p5 < (0 : Int32))) (c37 : ¬ ((65535 : Int32) < p5)) (c47 : ¬ (p6 < (0 : Int32))) (c48 : ¬ ((65535 : Int32) < p6)) (cc1 : ¬ ((255 : Int32) < p3)) (cc2 : ¬ ((255 : Int32) < p4)) (cc3 : ¬ ((255 : Int32) < p5)) (cc4 : ¬ ((255 : Int32) < p6)) :
    OwnMet l Z y_6 jdk_52_method_16_code 6 (some (.array .byte)) ws Rm70 #[(.ref a1), (.int 0), (.int 4)] h0 (Q70 Z a1 p3 p4 p5 p6 k7 h0 n0) := by
  refine own_body (plainFor_of_name pn_0) (ef_a299d2 a1) ?_
  intro p e s m below meth c s₁ hx hby hml hown hnm hret hZ X0 e0
  have N0 := Fr.nil n0
  obtain ⟨T50, h50, k50, X50, e50, E50, A50, B50, st50⟩ := newPE (aty := .byte) X0 hx hZ (w_20 hw) e0 (g := (mkF m 1 #[.val (.ref a1), .val (.int 0), .val (.int 4), .unset, .unset, .unset] [(.int 4)])) rfl (hb hby d4_1) rfl (by decide) (cap := 4) (by decide) (by decide) (by decide) (by decide) (ad := "[B") (by decide)
  obtain ⟨b50, g50⟩ : ∃ z, z = h0.size := ⟨_, rfl⟩
  rw [← g50] at A50 B50 st50
  have s0 := E50.1
  have Vn50 : Arv Z h50 b50 k50 .byte (4 : Int32) [(.int 0), (.int 0), (.int 0), (.int 0)] (.int 0) := (Arv.new A50 (by decide)).pad (pad_rep [] (.int 0) 4)
  have Va51 := (V_a1.ext E50)
  have g_b50 : n0 ≤ b50 := Nat.le_trans Z0 (Nat.le_of_eq g50.symm)
  have ne_a1_b50 := Nat.ne_of_lt (Nat.lt_of_lt_of_le V_a1.lt (Nat.le_of_eq g50.symm))
  have z1 := Nat.le_trans Z0 s0
  obtain ⟨_, T52, L52, X52, hQ52, st52⟩ := own_callS X50 hx hZ hown (y := y_0) (w_21 hw) (w_22 hw) (w_18 hw) (w_23 hw) (rm69 l Z a0 hw [] a1 b50 p3 p4 p5 p6 k7 k50 h50 n0 z1 Va51 cc1 Vn50 g_b50 ne_a1_b50 cc2 cc3 cc4 B50) e50 (Ls := #[.val (.ref a1), .val (.int 0), .val (.int 4), .val (.ref b50), .unset, .unset]) (by rw [hml]; rfl) (argsL := [(.ref a1), (.int 0), (.ref b50), (.int 0), (.int 4)]) (rest := []) (lenOf pd_0 rfl) (hb hby d4_9) (W := 0)
  obtain ⟨rfl, Nq52, K52, o52_0, o52_1⟩ := hQ52
  have N52 := Fr.app N0 Nq52
  have s1 := K52.1
  have sz_b50 : h0.size ≤ b50 := (Nat.le_of_eq g50.symm)
  have Kp0 : Keep h0 h50 [] := (Keep.refl h0 []).ext E50
  have Kp1 : Keep h0 T52.heap [] := Kp0.trans K52 (allS (Or.inr sz_b50) all0)
  refine ⟨T52, _, _, _, (some (.ref b50)), X52, nofun, by decide, by decide, ?_, fun fs hr => ?_⟩
  · unfold Q70
    rw [show (if (255 : Int32) < p3 then (8 : Int32) else (if (255 : Int32) < p4 then (8 : Int32) else (if (255 : Int32) < p5 then (8 : Int32) else (if (255 : Int32) < p6 then (8 : Int32) else (4 : Int32))))) = (4 : Int32) from by rw [if_neg cc1, if_neg cc2, if_neg cc3, if_neg cc4]]
    exact ⟨b50, k50, [(.int (nar .byte (p3.toInt8.toInt32))), (.int (nar .byte (p4.toInt8.toInt32))), (.int (nar .byte (p5.toInt8.toInt32))), (.int (nar .byte (p6.toInt8.toInt32)))], rfl, N52, Kp1, sz_b50, o52_0, o52_1⟩
  · refine XS.iloadN X0.here hx rfl (hb hby d4_0) rfl ?_
    refine st50 _ ?_
    refine XS.astoreN X50.here hx rfl (hb hby d4_3) rfl rfl (l' := #[.val (.ref a1), .val (.int 0), .val (.int 4), .val (.ref b50), .unset, .unset]) rfl ?_
    refine XS.aloadN X50.here hx rfl (hb hby d4_4) rfl rfl ?_
    refine XS.iloadN X50.here hx rfl (hb hby d4_5) rfl ?_
    refine XS.aloadN X50.here hx rfl (hb hby d4_6) rfl rfl ?_
    refine XS.iconst X50.here hx rfl (hb hby d4_7) ?_
    refine XS.iloadN X50.here hx rfl (hb hby d4_8) rfl ?_
    refine st52 _ ?_
    refine XS.istore X52.here hx rfl (hb hby d4_12) rfl (l' := #[.val (.ref a1), .val (.int 0), .val (.int 4), .val (.ref b50), .val (.int 4), .unset]) rfl ?_
    refine XS.iload X52.here hx rfl (hb hby d4_14) rfl ?_
    show Steps p.tables e below (T52.setTop (mkF m 16 #[.val (.ref a1), .val (.int 0), .val (.int 4), .val (.ref b50), .val (.int 4), .unset] [(.int 4)])) _
    refine XS.iloadN X52.here hx rfl (hb hby d4_16) rfl ?_
    refine XS.icmpYes X52.here hx rfl (pc0 := 17) (pc' := 57) rfl (hb hby d4_17) rfl (teq ((by decide : (4 : Int32) = (4 : Int32)) : (4 : Int32) = (4 : Int32))).1 (by decide) (by decide) ?_
    refine XS.aloadN X52.here hx rfl (hb hby d4_57) rfl rfl ?_
    exact retOut X52 hx hret rfl (Or.inr (Or.inr (Or.inr (Or.inr ⟨rfl, rfl, rfl⟩)))) (hb hby d4_58) hr
theorem rm70 (l : Launch) (Z : State) (a0 : Array Value) (hw : ∀ d ∈ tables_1, d.before a0 Z = true) (ws : List Jvm.Cond) (a1 : Addr) (p3 : Int32) (p4 : Int32) (p5 : Int32) (p6 : Int32) (k7 : ClassId) (h0 : Heap) (n0 : Nat) (Z0 : n0 ≤ h0.size) (V_a1 : Arv Z h0 a1 k7 .char (4 : Int32) [(.int p3), (.int p4), (.int p5), (.int p6)] (.int 0)) (S__assertionsDisabled : Sta Z Z.heap "java/lang/StringUTF16" "$assertionsDisabled" "Z" (.int 1)) (Od0 : Old Z n0 h0) (S_HI_BYTE_SHIFT : Sta Z Z.heap "java/lang/StringUTF16" "HI_BYTE_SHIFT" "I" (.int 0)) (S_LO_BYTE_SHIFT : Sta Z Z.heap "java/lang/StringUTF16" "LO_BYTE_SHIFT" "I" (.int 8)) (c14 : ¬ (p3 < (0 : Int32))) (c15 : ¬ ((65535 : Int32) < p3)) (c25 : ¬ (p4 < (0 : Int32))) (c26 : ¬ ((65535 : Int32) < p4)) (c36 : ¬ (p5 < (0 : Int32))) (c37 : ¬ ((65535 : Int32) < p5)) (c47 : ¬ (p6 < (0 : Int32))) (c48 : ¬ ((65535 : Int32) < p6)) :
    OwnMet l Z y_6 jdk_52_method_16_code 6 (some (.array .byte)) ws Rm70 #[(.ref a1), (.int 0), (.int 4)] h0 (Q70 Z a1 p3 p4 p5 p6 k7 h0 n0) := by
  by_cases cc1 : (255 : Int32) < p3
  · exact rm70_0 l Z a0 hw ws a1 p3 p4 p5 p6 k7 h0 n0 Z0 V_a1 S__assertionsDisabled Od0 S_HI_BYTE_SHIFT S_LO_BYTE_SHIFT c14 c15 c25 c26 c36 c37 c47 c48 cc1
  · by_cases cc2 : (255 : Int32) < p4
    · exact rm70_1 l Z a0 hw ws a1 p3 p4 p5 p6 k7 h0 n0 Z0 V_a1 S__assertionsDisabled Od0 S_HI_BYTE_SHIFT S_LO_BYTE_SHIFT c14 c15 c25 c26 c36 c37 c47 c48 cc1 cc2
    · by_cases cc3 : (255 : Int32) < p5
      · exact rm70_2 l Z a0 hw ws a1 p3 p4 p5 p6 k7 h0 n0 Z0 V_a1 S__assertionsDisabled Od0 S_HI_BYTE_SHIFT S_LO_BYTE_SHIFT c14 c15 c25 c26 c36 c37 c47 c48 cc1 cc2 cc3
      · by_cases cc4 : (255 : Int32) < p6
        · exact rm70_3 l Z a0 hw ws a1 p3 p4 p5 p6 k7 h0 n0 Z0 V_a1 S__assertionsDisabled Od0 S_HI_BYTE_SHIFT S_LO_BYTE_SHIFT c14 c15 c25 c26 c36 c37 c47 c48 cc1 cc2 cc3 cc4
        · exact rm70_4 l Z a0 hw ws a1 p3 p4 p5 p6 k7 h0 n0 Z0 V_a1 S__assertionsDisabled Od0 S_HI_BYTE_SHIFT S_LO_BYTE_SHIFT c14 c15 c25 c26 c36 c37 c47 c48 cc1 cc2 cc3 cc4
theorem ef_70305a (a1 : Addr) (m : MethodId) : entryFrame m #[(.ref a1), (.int 4)] 2 = mkF m 0 #[.val (.ref a1), .val (.int 4)] [] := by first | (simp [entryFrame, mkF, argsToLocals, Value.category]; done) | rfl
-- java/lang/StringUTF16.coderFromArrayLen([BI)B
abbrev Rm71 : Room := { frames := 0, cells := 0, slots := 0, locals := 0 }
def Q71 (Z : State) (a1 : Addr) (u2 : List Value) (k3 : ClassId) (p4 : Int32) (h0 : Heap) (n0 : Nat) (v : Option Value) (h : Heap) (L : List Loc) : Prop := v = some (.int (nar .byte (((((4 : Int32) - p4).toUInt32 >>> ((31 : Int32) &&& 31).toUInt32).toInt32).toInt8.toInt32))) ∧ Fr n0 L ∧ h = h0
-- ef_70305a
theorem rm71 (l : Launch) (Z : State) (a0 : Array Value) (hw : ∀ d ∈ tables_1, d.before a0 Z = true) (ws : List Jvm.Cond) (a1 : Addr) (u2 : List Value) (k3 : ClassId) (p4 : Int32) (h0 : Heap) (n0 : Nat) (Z0 : n0 ≤ h0.size) (V_a1 : Arv Z h0 a1 k3 .byte p4 u2 (.int 0)) :
    OwnMet l Z y_7 jdk_52_method_15_code 2 (some .byte) ws Rm71 #[(.ref a1), (.int 4)] h0 (Q71 Z a1 u2 k3 p4 h0 n0) := by
  refine own_body (plainFor_of_name pn_0) (ef_70305a a1) ?_
  intro p e s m below meth c s₁ hx hby hml hown hnm hret hZ X0 e0
  have N0 := Fr.nil n0
  obtain ⟨cl5, Ar5, q5, S5, M5, Hs5, G5⟩ := id V_a1
  refine ⟨s₁, _, _, _, (some (.int (nar .byte (((((4 : Int32) - p4).toUInt32 >>> ((31 : Int32) &&& 31).toUInt32).toInt32).toInt8.toInt32)))), X0, nofun, by decide, by decide, ?_, fun fs hr => ?_⟩
  · rw [e0]
    exact ⟨rfl, N0, rfl⟩
  · refine XS.iloadN X0.here hx rfl (hb hby d6_0) rfl ?_
    refine XS.aloadN X0.here hx rfl (hb hby d6_1) rfl rfl ?_
    refine X0.arraylength hx (by rw [e0]; exact Ar5.1) (State.isArrayOf_alike hZ.alike Ar5.2.1) (g := (mkF m 2 #[.val (.ref a1), .val (.int 4)] [(.ref a1), (.int 4)])) rfl rfl (hb hby d6_2) _ ?_
    show Steps p.tables e below (s₁.setTop (mkF m 3 #[.val (.ref a1), .val (.int 4)] [(.int cl5.slots.size.toInt32), (.int 4)])) _
    rw [len_of S5 M5]
    refine XS.isub X0.here hx rfl (hb hby d6_3) rfl ?_
    refine XS.bipush X0.here hx rfl (hb hby d6_4) ?_
    refine XS.iushr X0.here hx rfl (hb hby d6_6) rfl ?_
    refine XS.i2b X0.here hx rfl (hb hby d6_7) rfl ?_
    exact retN X0 hx (t := .byte) hret (by simp) (hb hby d6_8) hr
theorem ef_3abfcd (a1 : Addr) (a2 : Addr) (m : MethodId) : entryFrame m #[(.ref a1), (.ref a2), (.int 0), (.int 4), .null] 6 = mkF m 0 #[.val (.ref a1), .val (.ref a2), .val (.int 0), .val (.int 4), .val .null, .unset] [] := by first | (simp [entryFrame, mkF, argsToLocals, Value.category]; done) | rfl
-- java/lang/String.<init>([CIILjava/lang/Void;)V
abbrev Rm72 : Room := { frames := 4, cells := 2, slots := 12, locals := 57 }
def Q72 (Z : State) (a1 : Addr) (a2 : Addr) (p4 : Int32) (p7 : Int32) (p8 : Int32) (p9 : Int32) (p10 : Int32) (k11 : ClassId) (h0 : Heap) (n0 : Nat) (v : Option Value) (h : Heap) (L : List Loc) : Prop := ∃ b20_m0 : Addr, ∃ k20_kk1 : ClassId, ∃ u20_uu2 : List Value, v = none ∧ Fr n0 L ∧ Keep h0 h [a1] ∧ Exa Z h a1 "java/lang/String" ∧ Fld Z h a1 "java/lang/String" "coder" "B" (.int (nar .byte (nar .byte (((((4 : Int32) - (if (255 : Int32) < p7 then (8 : Int32) else (if (255 : Int32) < p8 then (8 : Int32) else (if (255 : Int32) < p9 then (8 : Int32) else (if (255 : Int32) < p10 then (8 : Int32) else (4 : Int32)))))).toUInt32 >>> ((31 : Int32) &&& 31).toUInt32).toInt32).toInt8.toInt32)))) ∧ Fld Z h a1 "java/lang/String" "value" "[B" (.ref b20_m0) ∧ h0.size ≤ b20_m0 ∧ Exa Z h b20_m0 "[B" ∧ Arv Z h b20_m0 k20_kk1 .byte (if (255 : Int32) < p7 then (8 : Int32) else (if (255 : Int32) < p8 then (8 : Int32) else (if (255 : Int32) < p9 then (8 : Int32) else (if (255 : Int32) < p10 then (8 : Int32) else (4 : Int32))))) u20_uu2 (.int 0)
-- ef_3abfcd
theorem rm72 (l : Launch) (Z : State) (a0 : Array Value) (hw : ∀ d ∈ tables_1, d.before a0 Z = true) (ws : List Jvm.Cond) (a1 : Addr) (a2 : Addr) (p4 : Int32) (p7 : Int32) (p8 : Int32) (p9 : Int32) (p10 : Int32) (k11 : ClassId) (h0 : Heap) (n0 : Nat) (Z0 : n0 ≤ h0.size) (S_COMPACT_STRINGS : Sta Z Z.heap "java/lang/String" "COMPACT_STRINGS" "Z" (.int p4)) (Od0 : Old Z n0 h0) (c6 : ¬ (p4 = (0 : Int32))) (V_a2 : Arv Z h0 a2 k11 .char (4 : Int32) [(.int p7), (.int p8), (.int p9), (.int p10)] (.int 0)) (S__assertionsDisabled : Sta Z Z.heap "java/lang/StringUTF16" "$assertionsDisabled" "Z" (.int 1)) (S_HI_BYTE_SHIFT : Sta Z Z.heap "java/lang/StringUTF16" "HI_BYTE_SHIFT" "I" (.int 0)) (S_LO_BYTE_SHIFT : Sta Z Z.heap "java/lang/StringUTF16" "LO_BYTE_SHIFT" "I" (.int 8)) (c12 : ¬ (p7 < (0 : Int32))) (c13 : ¬ ((65535 : Int32) < p7)) (c14 : ¬ (p8 < (0 : Int32))) (c15 : ¬ ((65535 : Int32) < p8)) (c16 : ¬ (p9 < (0 : Int32))) (c17 : ¬ ((65535 : Int32) < p9)) (c18 : ¬ (p10 < (0 : Int32))) (c19 : ¬ ((65535 : Int32) < p10)) (F_coder_a1 : Fld Z h0 a1 "java/lang/String" "coder" "B" (.int 0)) (E_a1 : Exa Z h0 a1 "java/lang/String") (g_a1 : n0 ≤ a1) (F_value_a1 : Fld Z h0 a1 "java/lang/String" "value" "[B" .null) :
    OwnMet l Z y_8 jdk_42_method_149_code 6 none ws Rm72 #[(.ref a1), (.ref a2), (.int 0), (.int 4), .null] h0 (Q72 Z a1 a2 p4 p7 p8 p9 p10 k11 h0 n0) := by
  refine own_body (plainFor_of_name pn_1) (ef_3abfcd a1 a2) ?_
  intro p e s m below meth c s₁ hx hby hml hown hnm hret hZ X0 e0
  have N0 := Fr.nil n0
  obtain ⟨T3, X3, e3, st3⟩ := initO X0 hx hZ hown (w_12 hw) (w_13 hw) (w_14 hw) e0 (g := (mkF m 1 #[.val (.ref a1), .val (.ref a2), .val (.int 0), .val (.int 4), .val .null, .unset] [(.ref a1)])) rfl (by rw [hml]; rfl) rfl (hb hby d2_1) (by decide) (W := 0) (by show 2 * 0 + _ ≤ _; exact Nat.le_of_eq rfl) (by decide)
  obtain ⟨T5, X5, e5, st5⟩ := getS2 X3 hx hZ hown (host := "") (Or.inl (w_15 hw)) Via.refl e3 (S_COMPACT_STRINGS.ext Od0.2) (g := (mkF m 27 #[.val (.ref a1), .val (.ref a2), .val (.int 0), .val (.int 4), .val .null, .unset] [])) rfl (hb hby d2_27)
  obtain ⟨_, T20, L20, X20, hQ20, st20⟩ := own_callS X5 hx hZ hown (y := y_6) (w_16 hw) (w_17 hw) (w_18 hw) (w_19 hw) (rm70 l Z a0 hw [] a2 p7 p8 p9 p10 k11 h0 n0 Z0 V_a2 S__assertionsDisabled Od0 S_HI_BYTE_SHIFT S_LO_BYTE_SHIFT c12 c13 c14 c15 c16 c17 c18 c19) e5 (Ls := #[.val (.ref a1), .val (.ref a2), .val (.int 0), .val (.int 4), .val .null, .unset]) (by rw [hml]; rfl) (argsL := [(.ref a2), (.int 0), (.int 4)]) (rest := []) (lenOf pd_4 rfl) (hb hby d2_36) (W := 0)
  obtain ⟨b20_m0, k20_kk1, u20_uu2, rfl, Nq20, K20, o20_0, o20_1, o20_2⟩ := hQ20
  have N20 := Fr.app N0 Nq20
  have s0 := K20.1
  obtain ⟨x21, ex21⟩ : ∃ z, z = (if (255 : Int32) < p7 then (8 : Int32) else (if (255 : Int32) < p8 then (8 : Int32) else (if (255 : Int32) < p9 then (8 : Int32) else (if (255 : Int32) < p10 then (8 : Int32) else (4 : Int32))))) := ⟨_, rfl⟩
  have o20_2' : Arv Z T20.heap b20_m0 k20_kk1 .byte x21 u20_uu2 (.int 0) := by rw [ex21]; exact o20_2
  have z1 := Nat.le_trans Z0 s0
  obtain ⟨_, T22, L22, X22, hQ22, st22⟩ := own_callS X20 hx hZ hown (y := y_7) (w_24 hw) (w_25 hw) (w_18 hw) (w_26 hw) (rm71 l Z a0 hw [] b20_m0 u20_uu2 k20_kk1 x21 T20.heap n0 z1 o20_2') rfl (Ls := #[.val (.ref a1), .val (.ref a2), .val (.int 0), .val (.int 4), .val .null, .val (.ref b20_m0)]) (by rw [hml]; rfl) (argsL := [(.ref b20_m0), (.int 4)]) (rest := [(.ref a1)]) (lenOf pd_6 rfl) (hb hby d2_45) (W := 1)
  obtain ⟨rfl, Nq22, e22⟩ := hQ22
  have N22 := Fr.app N20 Nq22
  have Fl23 := (F_coder_a1.keep K20 nin0)
  have Ex24 := (E_a1.keep K20)
  obtain ⟨T25, h25, X25, e25, W25, st25⟩ := putFN X22 hx hZ hown (w_27 hw) Via.refl e22 Fl23 Ex24 (Or.inr ⟨(w_28 hw), rfl, hnm⟩) (w_2 hw) (ty := .byte) (v' := (.int (nar .byte (nar .byte (((((4 : Int32) - x21).toUInt32 >>> ((31 : Int32) &&& 31).toUInt32).toInt32).toInt8.toInt32))))) (by decide) rfl (fits_nar_byte _) (g := (mkF m 48 #[.val (.ref a1), .val (.ref a2), .val (.int 0), .val (.int 4), .val .null, .val (.ref b20_m0)] [(.int (nar .byte (((((4 : Int32) - x21).toUInt32 >>> ((31 : Int32) &&& 31).toUInt32).toInt32).toInt8.toInt32))), (.ref a1)])) rfl rfl (hb hby d2_48)
  have s1 := (Keep.of_wr W25).1
  have N25 := Fr.snoc X25 N22 g_a1
  have Fw25 : Fld Z h25 a1 "java/lang/String" "coder" "B" (.int (nar .byte (nar .byte (((((4 : Int32) - x21).toUInt32 >>> ((31 : Int32) &&& 31).toUInt32).toInt32).toInt8.toInt32)))) := Fl23.same W25
  have Ex26 := (Ex24.wr W25)
  have Fl27 := ((F_value_a1.keep K20 nin0).other W25 (Or.inr (slot_ne (Or.inr (w_30 hw)) (Or.inr (w_28 hw)) (by decide) (t := (.array .byte)) (t' := .byte) (by decide) (by decide))))
  obtain ⟨T28, h28, X28, e28, W28, st28⟩ := putF X25 hx hZ hown (host := "") (Or.inl (w_29 hw)) Via.refl e25 Fl27 Ex26 (Or.inr ⟨(w_30 hw), rfl, hnm⟩) (w_2 hw) (ty := (.array .byte)) (by decide) rfl rfl (g := (mkF m 54 #[.val (.ref a1), .val (.ref a2), .val (.int 0), .val (.int 4), .val .null, .val (.ref b20_m0)] [(.ref b20_m0), (.ref a1)])) rfl rfl (hb hby d2_54)
  have s2 := (Keep.of_wr W28).1
  have N28 := Fr.snoc X28 N25 g_a1
  have Fw28 : Fld Z h28 a1 "java/lang/String" "value" "[B" (.ref b20_m0) := Fl27.same W28
  have Ex29 := (Ex26.wr W28)
  have Fl30 := (Fw25.other W28 (Or.inr (slot_ne (Or.inr (w_28 hw)) (Or.inr (w_30 hw)) (by decide) (t := .byte) (t' := (.array .byte)) (by decide) (by decide))))
  have sz_b20_m0 : h0.size ≤ b20_m0 := o20_0
  have Ex31 := ((o20_1.wr W25).wr W28)
  have ne_a1_b20_m0 := Nat.ne_of_lt (Nat.lt_of_lt_of_le F_value_a1.lt o20_0)
  have Va32 := ((o20_2'.other W25 (Ne.symm ne_a1_b20_m0)).other W28 (Ne.symm ne_a1_b20_m0))
  have Kp0 : Keep h0 T20.heap [a1] := (Keep.refl h0 [a1]).trans K20 all0
  have Kp1 : Keep h0 h25 [a1] := Kp0.wr W25 (Or.inl (List.mem_of_getElem? (i := 0) rfl))
  have Kp2 : Keep h0 h28 [a1] := Kp1.wr W28 (Or.inl (List.mem_of_getElem? (i := 0) rfl))
  refine ⟨T28, _, _, _, none, X28, (fun _ => rfl), by decide, by decide, ?_, fun fs hr => ?_⟩
  · rw [e28]
    subst ex21
    exact ⟨b20_m0, k20_kk1, u20_uu2, rfl, N28, Kp2, Ex29, Fl30, Fw28, sz_b20_m0, Ex31, Va32⟩
  · refine XS.aloadN X0.here hx rfl (hb hby d2_0) rfl rfl ?_
    refine st3 _ ?_
    refine XS.iloadN X3.here hx rfl (hb hby d2_4) rfl ?_
    refine XS.ifYes X3.here hx rfl (pc0 := 5) (pc' := 27) rfl (hb hby d2_5) rfl ((if0 _ _).trans (feq ((by decide : ¬ ((4 : Int32) = (0 : Int32))) : ¬ ((4 : Int32) = (0 : Int32)))).2) (by decide) (by decide) ?_
    refine st5 _ ?_
    refine XS.ifNo X5.here hx rfl (hb hby d2_30) rfl ((if0 _ _).trans (feq (c6 : ¬ (p4 = (0 : Int32)))).1) ?_
    refine XS.aloadN X5.here hx rfl (hb hby d2_33) rfl rfl ?_
    refine XS.iloadN X5.here hx rfl (hb hby d2_34) rfl ?_
    refine XS.iloadN X5.here hx rfl (hb hby d2_35) rfl ?_
    refine st20 _ ?_
    refine XS.astore X20.here hx rfl (hb hby d2_39) rfl rfl (l' := #[.val (.ref a1), .val (.ref a2), .val (.int 0), .val (.int 4), .val .null, .val (.ref b20_m0)]) rfl ?_
    show Steps p.tables e below (T20.setTop (mkF m 41 #[.val (.ref a1), .val (.ref a2), .val (.int 0), .val (.int 4), .val .null, .val (.ref b20_m0)] [])) _
    refine XS.aloadN X20.here hx rfl (hb hby d2_41) rfl rfl ?_
    refine XS.aload X20.here hx rfl (hb hby d2_42) rfl rfl ?_
    refine XS.iloadN X20.here hx rfl (hb hby d2_44) rfl ?_
    refine st22 _ ?_
    refine st25 _ ?_
    refine XS.aloadN X25.here hx rfl (hb hby d2_51) rfl rfl ?_
    refine XS.aload X25.here hx rfl (hb hby d2_52) rfl rfl ?_
    refine st28 _ ?_
    exact X28.returnOut hx hret (hb hby d2_57) hr
-- java/lang/String.<init>([C)V
abbrev Rm73 : Room := { frames := 5, cells := 2, slots := 12, locals := 74 }
def Q73 (Z : State) (a1 : Addr) (a2 : Addr) (p3 : Int32) (p4 : Int32) (p5 : Int32) (p6 : Int32) (k7 : ClassId) (p9 : Int32) (h0 : Heap) (n0 : Nat) (v : Option Value) (h : Heap) (L : List Loc) : Prop := ∃ b19_b20_m0 : Addr, ∃ k19_k20_kk1 : ClassId, ∃ u19_u20_uu2 : List Value, v = none ∧ Fr n0 L ∧ Keep h0 h [a1] ∧ Exa Z h a1 "java/lang/String" ∧ Fld Z h a1 "java/lang/String" "coder" "B" (.int (nar .byte (nar .byte (((((4 : Int32) - (if (255 : Int32) < p3 then (8 : Int32) else (if (255 : Int32) < p4 then (8 : Int32) else (if (255 : Int32) < p5 then (8 : Int32) else (if (255 : Int32) < p6 then (8 : Int32) else (4 : Int32)))))).toUInt32 >>> ((31 : Int32) &&& 31).toUInt32).toInt32).toInt8.toInt32)))) ∧ Fld Z h a1 "java/lang/String" "value" "[B" (.ref b19_b20_m0) ∧ h0.size ≤ b19_b20_m0 ∧ Exa Z h b19_b20_m0 "[B" ∧ Arv Z h b19_b20_m0 k19_k20_kk1 .byte (if (255 : Int32) < p3 then (8 : Int32) else (if (255 : Int32) < p4 then (8 : Int32) else (if (255 : Int32) < p5 then (8 : Int32) else (if (255 : Int32) < p6 then (8 : Int32) else (4 : Int32))))) u19_u20_uu2 (.int 0)
-- ef_463e93
theorem rm73 (l : Launch) (Z : State) (a0 : Array Value) (hw : ∀ d ∈ tables_1, d.before a0 Z = true) (ws : List Jvm.Cond) (a1 : Addr) (a2 : Addr) (p3 : Int32) (p4 : Int32) (p5 : Int32) (p6 : Int32) (k7 : ClassId) (p9 : Int32) (h0 : Heap) (n0 : Nat) (Z0 : n0 ≤ h0.size) (V_a2 : Arv Z h0 a2 k7 .char (4 : Int32) [(.int p3), (.int p4), (.int p5), (.int p6)] (.int 0)) (S_COMPACT_STRINGS : Sta Z Z.heap "java/lang/String" "COMPACT_STRINGS" "Z" (.int p9)) (Od0 : Old Z n0 h0) (c10 : ¬ (p9 = (0 : Int32))) (S__assertionsDisabled : Sta Z Z.heap "java/lang/StringUTF16" "$assertionsDisabled" "Z" (.int 1)) (S_HI_BYTE_SHIFT : Sta Z Z.heap "java/lang/StringUTF16" "HI_BYTE_SHIFT" "I" (.int 0)) (S_LO_BYTE_SHIFT : Sta Z Z.heap "java/lang/StringUTF16" "LO_BYTE_SHIFT" "I" (.int 8)) (c11 : ¬ (p3 < (0 : Int32))) (c12 : ¬ ((65535 : Int32) < p3)) (c13 : ¬ (p4 < (0 : Int32))) (c14 : ¬ ((65535 : Int32) < p4)) (c15 : ¬ (p5 < (0 : Int32))) (c16 : ¬ ((65535 : Int32) < p5)) (c17 : ¬ (p6 < (0 : Int32))) (c18 : ¬ ((65535 : Int32) < p6)) (F_coder_a1 : Fld Z h0 a1 "java/lang/String" "coder" "B" (.int 0)) (E_a1 : Exa Z h0 a1 "java/lang/String") (g_a1 : n0 ≤ a1) (F_value_a1 : Fld Z h0 a1 "java/lang/String" "value" "[B" .null) :
    OwnMet l Z y_9 jdk_42_method_3_code 2 none ws Rm73 #[(.ref a1), (.ref a2)] h0 (Q73 Z a1 a2 p3 p4 p5 p6 k7 p9 h0 n0) := by
  refine own_body (plainFor_of_name pn_1) (ef_463e93 a1 a2) ?_
  intro p e s m below meth c s₁ hx hby hml hown hnm hret hZ X0 e0
  have N0 := Fr.nil n0
  obtain ⟨cl8, Ar8, q8, S8, M8, Hs8, G8⟩ := id V_a2
  obtain ⟨_, T19, L19, X19, hQ19, st19⟩ := own_special X0 hx hZ hown (y := y_8) (a := a1) (w_8 hw) (w_9 hw) (w_3 hw) (w_11 hw) (rm72 l Z a0 hw [] a1 a2 p9 p3 p4 p5 p6 k7 h0 n0 Z0 S_COMPACT_STRINGS Od0 c10 V_a2 S__assertionsDisabled S_HI_BYTE_SHIFT S_LO_BYTE_SHIFT c11 c12 c13 c14 c15 c16 c17 c18 F_coder_a1 E_a1 g_a1 F_value_a1) e0 (Ls := #[.val (.ref a1), .val (.ref a2)]) (by rw [hml]; rfl) (argsL := [(.ref a2), (.int 0), (.int 4), .null]) (rest := []) (lenOf pd_7 rfl) (hb hby d1_6) (W := 0)
  obtain ⟨b19_b20_m0, k19_k20_kk1, u19_u20_uu2, rfl, Nq19, K19, o19_0, o19_1, o19_2, o19_3, o19_4, o19_5⟩ := hQ19
  have N19 := Fr.app N0 Nq19
  have s0 := K19.1
  obtain ⟨x20, ex20⟩ : ∃ z, z = (if (255 : Int32) < p3 then (8 : Int32) else (if (255 : Int32) < p4 then (8 : Int32) else (if (255 : Int32) < p5 then (8 : Int32) else (if (255 : Int32) < p6 then (8 : Int32) else (4 : Int32))))) := ⟨_, rfl⟩
  have o19_5' : Arv Z T19.heap b19_b20_m0 k19_k20_kk1 .byte x20 u19_u20_uu2 (.int 0) := by rw [ex20]; exact o19_5
  have sz_b19_b20_m0 : h0.size ≤ b19_b20_m0 := o19_3
  have Kp0 : Keep h0 T19.heap [a1] := (Keep.refl h0 [a1]).trans K19 (allS (Or.inl (List.mem_of_getElem? (i := 0) rfl)) all0)
  refine ⟨T19, _, _, _, none, X19, (fun _ => rfl), by decide, by decide, ?_, fun fs hr => ?_⟩
  · subst ex20
    exact ⟨b19_b20_m0, k19_k20_kk1, u19_u20_uu2, rfl, N19, Kp0, o19_0, o19_1, o19_2, sz_b19_b20_m0, o19_4, o19_5'⟩
  · refine XS.aloadN X0.here hx rfl (hb hby d1_0) rfl rfl ?_
    refine XS.aloadN X0.here hx rfl (hb hby d1_1) rfl rfl ?_
    refine XS.iconst X0.here hx rfl (hb hby d1_2) ?_
    refine XS.aloadN X0.here hx rfl (hb hby d1_3) rfl rfl ?_
    refine X0.arraylength hx (by rw [e0]; exact Ar8.1) (State.isArrayOf_alike hZ.alike Ar8.2.1) (g := (mkF m 4 #[.val (.ref a1), .val (.ref a2)] [(.ref a2), (.int 0), (.ref a2), (.ref a1)])) rfl rfl (hb hby d1_4) _ ?_
    show Steps p.tables e below (s₁.setTop (mkF m 5 #[.val (.ref a1), .val (.ref a2)] [(.int cl8.slots.size.toInt32), (.int 0), (.ref a2), (.ref a1)])) _
    rw [len_of S8 M8]
    refine XS.aconstNull X0.here hx rfl (hb hby d1_5) ?_
    refine st19 _ ?_
    exact X19.returnOut hx hret (hb hby d1_9) hr
theorem rm0_6 (l : Launch) (Z : State) (a0 : Array Value) (hw : ∀ d ∈ tables_1, d.before a0 Z = true) (ws : List Jvm.Cond) (p1 : Int32) (p2 : Int32) (p3 : Int32) (p4 : Int32) (p5 : Int32) (p6 : Int32) (sr1 : Value) (si2 : Int32) (h0 : Heap) (n0 : Nat) (Z0 : n0 ≤ h0.size) (Od0 : Old Z n0 h0) (R_sr1 : sr1.isRef = true) (nc6 : ¬ (si2 = (0 : Int32))) (S7_SIOOBE_FORMATTER : Sta Z Z.heap "jdk/internal/util/Preconditions" "SIOOBE_FORMATTER" "Ljava/util/function/BiFunction;" sr1) (S8_COMPACT_STRINGS : Sta Z Z.heap "java/lang/String" "COMPACT_STRINGS" "Z" (.int si2)) (S9__assertionsDisabled : Sta Z Z.heap "java/lang/StringUTF16" "$assertionsDisabled" "Z" (.int 1)) (S10_HI_BYTE_SHIFT : Sta Z Z.heap "java/lang/StringUTF16" "HI_BYTE_SHIFT" "I" (.int 0)) (S11_LO_BYTE_SHIFT : Sta Z Z.heap "java/lang/StringUTF16" "LO_BYTE_SHIFT" "I" (.int 8)) (hk : (p1 &&& (3 : Int32)) = (3 : Int32)) (cc1 : (p6 &&& (1 : Int32)) = (0 : Int32)) :
    OwnMet l Z x code maxLocals ret ws room_1 #[(.int p1), (.int p2), (.int p3), (.int p4), (.int p5), (.int p6)] h0 (Q0 n0) := by
  refine own_body (plainFor_of_name pn_4) (ef0 p1 p2 p3 p4 p5 p6) ?_
  intro p e s m below meth c s₁ hx hby hml hown hnm hret hZ X0 e0
  have N0 := Fr.nil n0
  obtain ⟨x1, ex1⟩ : ∃ z, z = ((p2 &&& (65535 : Int32)).toUInt32.toUInt16.toUInt32.toInt32) := ⟨_, rfl⟩
  obtain ⟨x2, ex2⟩ : ∃ z, z = ((p3 &&& (65535 : Int32)).toUInt32.toUInt16.toUInt32.toInt32) := ⟨_, rfl⟩
  obtain ⟨x3, ex3⟩ : ∃ z, z = ((p4 &&& (65535 : Int32)).toUInt32.toUInt16.toUInt32.toInt32) := ⟨_, rfl⟩
  obtain ⟨x4, ex4⟩ : ∃ z, z = ((p5 &&& (65535 : Int32)).toUInt32.toUInt16.toUInt32.toInt32) := ⟨_, rfl⟩
  obtain ⟨T5, h5, X5, e5, E5, A5, D5, -, st5⟩ := newO X0 hx hZ hown (w_1 hw) (w_2 hw) (w_3 hw) e0 (g := (mkF m 129 #[.val (.int p1), .val (.int p2), .val (.int p3), .val (.int p4), .val (.int p5), .val (.int p6), .val (.int x1), .val (.int x2), .val (.int x3), .val (.int x4), .val (.int 4), .unset, .unset, .unset] [])) rfl (hb hby at_129) (by decide) (by decide)
  obtain ⟨b5, g5⟩ : ∃ z, z = h0.size := ⟨_, rfl⟩
  rw [← g5] at A5 D5 st5
  have s0 := E5.1
  have Fn5_coder : Fld Z h5 b5 "java/lang/String" "coder" "B" (.int 0) := D5 (Or.inr (w_28 hw)) (ty := .byte) (by decide)
  have Fn5_value : Fld Z h5 b5 "java/lang/String" "value" "[B" .null := D5 (Or.inr (w_30 hw)) (ty := (.array .byte)) (by decide)
  obtain ⟨T6, h6, k6, X6, e6, E6, A6, B6, st6⟩ := newPE (aty := .char) X5 hx hZ (w_4 hw) e5 (g := (mkF m 134 #[.val (.int p1), .val (.int p2), .val (.int p3), .val (.int p4), .val (.int p5), .val (.int p6), .val (.int x1), .val (.int x2), .val (.int x3), .val (.int x4), .val (.int 4), .unset, .unset, .unset] [(.int 4), (.ref b5), (.ref b5)])) rfl (hb hby at_134) rfl (by decide) (cap := 4) (by decide) (by decide) (by decide) (by decide) (ad := "[C") (by decide)
  obtain ⟨b6, g6⟩ : ∃ z, z = h5.size := ⟨_, rfl⟩
  rw [← g6] at A6 B6 st6
  have s1 := E6.1
  have Vn6 : Arv Z h6 b6 k6 .char (4 : Int32) [(.int 0), (.int 0), (.int 0), (.int 0)] (.int 0) := (Arv.new A6 (by decide)).pad (pad_rep [] (.int 0) 4)
  obtain ⟨cl7, Ar7, q7, S7, M7, Hs7, G7⟩ := id Vn6
  have hin8 : ¬ ((0 : Int32) < 0 ∨ cl7.slots.size ≤ ((0 : Int32)).toNatClampNeg) := inb_of S7 ⟨(by decide : ¬ ((0 : Int32) < (0 : Int32))), (by decide : (0 : Int32) < (4 : Int32))⟩
  obtain ⟨T9, h9, X9, e9, W9, st9⟩ := stC X6 hx hZ e6 Ar7 (j := (0 : Int32)) hin8 (g := (mkF m 140 #[.val (.int p1), .val (.int p2), .val (.int p3), .val (.int p4), .val (.int p5), .val (.int p6), .val (.int x1), .val (.int x2), .val (.int x3), .val (.int x4), .val (.int 4), .unset, .unset, .unset] [(.int x1), (.int 0), (.ref b6), (.ref b6), (.ref b5), (.ref b5)])) rfl rfl (hb hby at_140)
  have s2 := (Keep.of_wr W9).1
  have z1 := Nat.le_trans Z0 s0
  have g_b6 : n0 ≤ b6 := Nat.le_trans z1 (Nat.le_of_eq g6.symm)
  have N9 := Fr.snoc X9 N0 g_b6
  have Vs9 : Arv Z h9 b6 k6 .char (4 : Int32) [(.int (nar .char x1)), (.int 0), (.int 0), (.int 0)] (.int 0) := Arv.set Ar7 q7 S7 M7 Hs7 G7 (fits_nar_char _) W9 0 rfl (Nat.le_of_ble_eq_true rfl)
  obtain ⟨cl10, Ar10, q10, S10, M10, Hs10, G10⟩ := id Vs9
  have hin11 : ¬ ((1 : Int32) < 0 ∨ cl10.slots.size ≤ ((1 : Int32)).toNatClampNeg) := inb_of S10 ⟨(by decide : ¬ ((1 : Int32) < (0 : Int32))), (by decide : (1 : Int32) < (4 : Int32))⟩
  obtain ⟨T12, h12, X12, e12, W12, st12⟩ := stC X9 hx hZ e9 Ar10 (j := (1 : Int32)) hin11 (g := (mkF m 145 #[.val (.int p1), .val (.int p2), .val (.int p3), .val (.int p4), .val (.int p5), .val (.int p6), .val (.int x1), .val (.int x2), .val (.int x3), .val (.int x4), .val (.int 4), .unset, .unset, .unset] [(.int x2), (.int 1), (.ref b6), (.ref b6), (.ref b5), (.ref b5)])) rfl rfl (hb hby at_145)
  have s3 := (Keep.of_wr W12).1
  have N12 := Fr.snoc X12 N9 g_b6
  have Vs12 : Arv Z h12 b6 k6 .char (4 : Int32) [(.int (nar .char x1)), (.int (nar .char x2)), (.int 0), (.int 0)] (.int 0) := Arv.set Ar10 q10 S10 M10 Hs10 G10 (fits_nar_char _) W12 1 rfl (Nat.le_of_ble_eq_true rfl)
  obtain ⟨cl13, Ar13, q13, S13, M13, Hs13, G13⟩ := id Vs12
  have hin14 : ¬ ((2 : Int32) < 0 ∨ cl13.slots.size ≤ ((2 : Int32)).toNatClampNeg) := inb_of S13 ⟨(by decide : ¬ ((2 : Int32) < (0 : Int32))), (by decide : (2 : Int32) < (4 : Int32))⟩
  obtain ⟨T15, h15, X15, e15, W15, st15⟩ := stC X12 hx hZ e12 Ar13 (j := (2 : Int32)) hin14 (g := (mkF m 150 #[.val (.int p1), .val (.int p2), .val (.int p3), .val (.int p4), .val (.int p5), .val (.int p6), .val (.int x1), .val (.int x2), .val (.int x3), .val (.int x4), .val (.int 4), .unset, .unset, .unset] [(.int x3), (.int 2), (.ref b6), (.ref b6), (.ref b5), (.ref b5)])) rfl rfl (hb hby at_150)
  have s4 := (Keep.of_wr W15).1
  have N15 := Fr.snoc X15 N12 g_b6
  have Vs15 : Arv Z h15 b6 k6 .char (4 : Int32) [(.int (nar .char x1)), (.int (nar .char x2)), (.int (nar .char x3)), (.int 0)] (.int 0) := Arv.set Ar13 q13 S13 M13 Hs13 G13 (fits_nar_char _) W15 2 rfl (Nat.le_of_ble_eq_true rfl)
  obtain ⟨cl16, Ar16, q16, S16, M16, Hs16, G16⟩ := id Vs15
  have hin17 : ¬ ((3 : Int32) < 0 ∨ cl16.slots.size ≤ ((3 : Int32)).toNatClampNeg) := inb_of S16 ⟨(by decide : ¬ ((3 : Int32) < (0 : Int32))), (by decide : (3 : Int32) < (4 : Int32))⟩
  obtain ⟨T18, h18, X18, e18, W18, st18⟩ := stC X15 hx hZ e15 Ar16 (j := (3 : Int32)) hin17 (g := (mkF m 155 #[.val (.int p1), .val (.int p2), .val (.int p3), .val (.int p4), .val (.int p5), .val (.int p6), .val (.int x1), .val (.int x2), .val (.int x3), .val (.int x4), .val (.int 4), .unset, .unset, .unset] [(.int x4), (.int 3), (.ref b6), (.ref b6), (.ref b5), (.ref b5)])) rfl rfl (hb hby at_155)
  have s5 := (Keep.of_wr W18).1
  have N18 := Fr.snoc X18 N15 g_b6
  have Vs18 : Arv Z h18 b6 k6 .char (4 : Int32) [(.int (nar .char x1)), (.int (nar .char x2)), (.int (nar .char x3)), (.int (nar .char x4))] (.int 0) := Arv.set Ar16 q16 S16 M16 Hs16 G16 (fits_nar_char _) W18 3 rfl (Nat.le_of_ble_eq_true rfl)
  have Od1 : Old Z n0 h5 := Od0.ext E5
  have Od2 : Old Z n0 h6 := Od1.ext E6
  have Od3 : Old Z n0 h9 := Od2.wr W9 g_b6
  have Od4 : Old Z n0 h12 := Od3.wr W12 g_b6
  have Od5 : Old Z n0 h15 := Od4.wr W15 g_b6
  have Od6 : Old Z n0 h18 := Od5.wr W18 g_b6
  have cd19 : ¬ ((nar .char ((p2 &&& (65535 : Int32)).toUInt32.toUInt16.toUInt32.toInt32)) < (0 : Int32)) := (by rw [Int32.lt_iff_toInt_lt]; have := rng32 (nar .char ((p2 &&& (65535 : Int32)).toUInt32.toUInt16.toUInt32.toInt32)); have := rng32 ((p2 &&& (65535 : Int32)).toUInt32.toUInt16.toUInt32.toInt32); have := rng32 (p2 &&& (65535 : Int32)); have := rng32 p2; have := own_mask p2 (65535 : Int32) 16 (by decide) (by decide) 65536 (by decide); have := c_i2c (p2 &&& (65535 : Int32)); have := own_c_nar_char ((p2 &&& (65535 : Int32)).toUInt32.toUInt16.toUInt32.toInt32); have : ((0 : Int32)).toInt = 0 := (by decide); omega)
  have cd20 : ¬ ((65535 : Int32) < (nar .char ((p2 &&& (65535 : Int32)).toUInt32.toUInt16.toUInt32.toInt32))) := (by rw [Int32.lt_iff_toInt_lt]; have : ((65535 : Int32)).toInt = 65535 := (by decide); have := rng32 (nar .char ((p2 &&& (65535 : Int32)).toUInt32.toUInt16.toUInt32.toInt32)); have := rng32 ((p2 &&& (65535 : Int32)).toUInt32.toUInt16.toUInt32.toInt32); have := rng32 (p2 &&& (65535 : Int32)); have := rng32 p2; have := own_mask p2 (65535 : Int32) 16 (by decide) (by decide) 65536 (by decide); have := c_i2c (p2 &&& (65535 : Int32)); have := own_c_nar_char ((p2 &&& (65535 : Int32)).toUInt32.toUInt16.toUInt32.toInt32); omega)
  have cd21 : ¬ ((nar .char ((p3 &&& (65535 : Int32)).toUInt32.toUInt16.toUInt32.toInt32)) < (0 : Int32)) := (by rw [Int32.lt_iff_toInt_lt]; have := rng32 (nar .char ((p3 &&& (65535 : Int32)).toUInt32.toUInt16.toUInt32.toInt32)); have := rng32 ((p3 &&& (65535 : Int32)).toUInt32.toUInt16.toUInt32.toInt32); have := rng32 (p3 &&& (65535 : Int32)); have := rng32 p3; have := own_mask p3 (65535 : Int32) 16 (by decide) (by decide) 65536 (by decide); have := c_i2c (p3 &&& (65535 : Int32)); have := own_c_nar_char ((p3 &&& (65535 : Int32)).toUInt32.toUInt16.toUInt32.toInt32); have : ((0 : Int32)).toInt = 0 := (by decide); omega)
  have cd22 : ¬ ((65535 : Int32) < (nar .char ((p3 &&& (65535 : Int32)).toUInt32.toUInt16.toUInt32.toInt32))) := (by rw [Int32.lt_iff_toInt_lt]; have : ((65535 : Int32)).toInt = 65535 := (by decide); have := rng32 (nar .char ((p3 &&& (65535 : Int32)).toUInt32.toUInt16.toUInt32.toInt32)); have := rng32 ((p3 &&& (65535 : Int32)).toUInt32.toUInt16.toUInt32.toInt32); have := rng32 (p3 &&& (65535 : Int32)); have := rng32 p3; have := own_mask p3 (65535 : Int32) 16 (by decide) (by decide) 65536 (by decide); have := c_i2c (p3 &&& (65535 : Int32)); have := own_c_nar_char ((p3 &&& (65535 : Int32)).toUInt32.toUInt16.toUInt32.toInt32); omega)
  have cd23 : ¬ ((nar .char ((p4 &&& (65535 : Int32)).toUInt32.toUInt16.toUInt32.toInt32)) < (0 : Int32)) := (by rw [Int32.lt_iff_toInt_lt]; have := rng32 (nar .char ((p4 &&& (65535 : Int32)).toUInt32.toUInt16.toUInt32.toInt32)); have := rng32 ((p4 &&& (65535 : Int32)).toUInt32.toUInt16.toUInt32.toInt32); have := rng32 (p4 &&& (65535 : Int32)); have := rng32 p4; have := own_mask p4 (65535 : Int32) 16 (by decide) (by decide) 65536 (by decide); have := c_i2c (p4 &&& (65535 : Int32)); have := own_c_nar_char ((p4 &&& (65535 : Int32)).toUInt32.toUInt16.toUInt32.toInt32); have : ((0 : Int32)).toInt = 0 := (by decide); omega)
  have cd24 : ¬ ((65535 : Int32) < (nar .char ((p4 &&& (65535 : Int32)).toUInt32.toUInt16.toUInt32.toInt32))) := (by rw [Int32.lt_iff_toInt_lt]; have : ((65535 : Int32)).toInt = 65535 := (by decide); have := rng32 (nar .char ((p4 &&& (65535 : Int32)).toUInt32.toUInt16.toUInt32.toInt32)); have := rng32 ((p4 &&& (65535 : Int32)).toUInt32.toUInt16.toUInt32.toInt32); have := rng32 (p4 &&& (65535 : Int32)); have := rng32 p4; have := own_mask p4 (65535 : Int32) 16 (by decide) (by decide) 65536 (by decide); have := c_i2c (p4 &&& (65535 : Int32)); have := own_c_nar_char ((p4 &&& (65535 : Int32)).toUInt32.toUInt16.toUInt32.toInt32); omega)
  have cd25 : ¬ ((nar .char ((p5 &&& (65535 : Int32)).toUInt32.toUInt16.toUInt32.toInt32)) < (0 : Int32)) := (by rw [Int32.lt_iff_toInt_lt]; have := rng32 (nar .char ((p5 &&& (65535 : Int32)).toUInt32.toUInt16.toUInt32.toInt32)); have := rng32 ((p5 &&& (65535 : Int32)).toUInt32.toUInt16.toUInt32.toInt32); have := rng32 (p5 &&& (65535 : Int32)); have := rng32 p5; have := own_mask p5 (65535 : Int32) 16 (by decide) (by decide) 65536 (by decide); have := c_i2c (p5 &&& (65535 : Int32)); have := own_c_nar_char ((p5 &&& (65535 : Int32)).toUInt32.toUInt16.toUInt32.toInt32); have : ((0 : Int32)).toInt = 0 := (by decide); omega)
  have cd26 : ¬ ((65535 : Int32) < (nar .char ((p5 &&& (65535 : Int32)).toUInt32.toUInt16.toUInt32.toInt32))) := (by rw [Int32.lt_iff_toInt_lt]; have : ((65535 : Int32)).toInt = 65535 := (by decide); have := rng32 (nar .char ((p5 &&& (65535 : Int32)).toUInt32.toUInt16.toUInt32.toInt32)); have := rng32 ((p5 &&& (65535 : Int32)).toUInt32.toUInt16.toUInt32.toInt32); have := rng32 (p5 &&& (65535 : Int32)); have := rng32 p5; have := own_mask p5 (65535 : Int32) 16 (by decide) (by decide) 65536 (by decide); have := c_i2c (p5 &&& (65535 : Int32)); have := own_c_nar_char ((p5 &&& (65535 : Int32)).toUInt32.toUInt16.toUInt32.toInt32); omega)
  have ne_b5_b6 := Nat.ne_of_lt (Nat.lt_of_lt_of_le Fn5_value.lt (Nat.le_of_eq g6.symm))
  have Fl27 := (((((Fn5_coder.ext E6).other W9 (Or.inl ne_b5_b6)).other W12 (Or.inl ne_b5_b6)).other W15 (Or.inl ne_b5_b6)).other W18 (Or.inl ne_b5_b6))
  have Ex28 := (((((A5.ext E6).wr W9).wr W12).wr W15).wr W18)
  have g_b5 : n0 ≤ b5 := Nat.le_trans Z0 (Nat.le_of_eq g5.symm)
  have Fl29 := (((((Fn5_value.ext E6).other W9 (Or.inl ne_b5_b6)).other W12 (Or.inl ne_b5_b6)).other W15 (Or.inl ne_b5_b6)).other W18 (Or.inl ne_b5_b6))
  have z6 := Nat.le_trans Z0 (Nat.le_trans (Nat.le_trans (Nat.le_trans (Nat.le_trans (Nat.le_trans s0 s1) s2) s3) s4) s5)
  obtain ⟨_, T30, L30, X30, hQ30, st30⟩ := own_special X18 hx hZ hown (y := y_9) (a := b5) (w_5 hw) (w_6 hw) (w_3 hw) (w_7 hw) (rm73 l Z a0 hw [] b5 b6 (nar .char x1) (nar .char x2) (nar .char x3) (nar .char x4) k6 si2 h18 n0 z6 Vs18 S8_COMPACT_STRINGS Od6 nc6 S9__assertionsDisabled S10_HI_BYTE_SHIFT S11_LO_BYTE_SHIFT (by rw [ex1]; exact cd19) (by rw [ex1]; exact cd20) (by rw [ex2]; exact cd21) (by rw [ex2]; exact cd22) (by rw [ex3]; exact cd23) (by rw [ex3]; exact cd24) (by rw [ex4]; exact cd25) (by rw [ex4]; exact cd26) Fl27 Ex28 g_b5 Fl29) e18 (Ls := #[.val (.int p1), .val (.int p2), .val (.int p3), .val (.int p4), .val (.int p5), .val (.int p6), .val (.int x1), .val (.int x2), .val (.int x3), .val (.int x4), .val (.int 4), .unset, .unset, .unset]) (by rw [hml]; rfl) (argsL := [(.ref b6)]) (rest := [(.ref b5)]) (lenOf pd_8 rfl) (hb hby at_156) (W := 1)
  obtain ⟨b30_b19_b20_m0, k30_k19_k20_kk1, u30_u19_u20_uu2, rfl, Nq30, K30, o30_0, o30_1, o30_2, o30_3, o30_4, o30_5⟩ := hQ30
  have N30 := Fr.app N18 Nq30
  have s6 := K30.1
  obtain ⟨x31, ex31⟩ : ∃ z, z = (if (255 : Int32) < (nar .char x1) then (8 : Int32) else (if (255 : Int32) < (nar .char x2) then (8 : Int32) else (if (255 : Int32) < (nar .char x3) then (8 : Int32) else (if (255 : Int32) < (nar .char x4) then (8 : Int32) else (4 : Int32))))) := ⟨_, rfl⟩
  have o30_5' : Arv Z T30.heap b30_b19_b20_m0 k30_k19_k20_kk1 .byte x31 u30_u19_u20_uu2 (.int 0) := by rw [ex31]; exact o30_5
  obtain ⟨x32, ex32⟩ : ∃ z, z = ((p6.toUInt32 >>> ((1 : Int32) &&& 31).toUInt32).toInt32) := ⟨_, rfl⟩
  obtain ⟨x33, ex33⟩ : ∃ z, z = (x32 &&& (65535 : Int32)) := ⟨_, rfl⟩
  obtain ⟨x34, ex34⟩ : ∃ z, z = (x33.toUInt32.toUInt16.toUInt32.toInt32) := ⟨_, rfl⟩
  have Od7 : Old Z n0 T30.heap := Od6.keep K30 (allS g_b5 all0)
  have z7 := Nat.le_trans Z0 (Nat.le_trans (Nat.le_trans (Nat.le_trans (Nat.le_trans (Nat.le_trans (Nat.le_trans s0 s1) s2) s3) s4) s5) s6)
  obtain ⟨_, T35, L35, X35, hQ35, st35⟩ := own_callS X30 hx hZ hown (y := y_14) (w_53 hw) (w_54 hw) (w_3 hw) (w_55 hw) (rm18 l Z a0 hw [] x34 si2 T30.heap n0 z7 S8_COMPACT_STRINGS Od7 nc6 S9__assertionsDisabled S10_HI_BYTE_SHIFT S11_LO_BYTE_SHIFT) rfl (Ls := #[.val (.int p1), .val (.int p2), .val (.int p3), .val (.int p4), .val (.int p5), .val (.int p6), .val (.int x1), .val (.int x2), .val (.int x3), .val (.int x4), .val (.int 4), .val (.ref b5), .unset, .unset]) (by rw [hml]; rfl) (argsL := [(.int x34)]) (rest := []) (lenOf pd_12 rfl) (hb hby at_183) (W := 0)
  obtain ⟨b35_m0, b35_m1, k35_kk2, u35_uu3, rfl, Nq35, K35, o35_0, o35_1, o35_2, o35_3, o35_4, o35_5, o35_6, o35_7⟩ := hQ35
  have N35 := Fr.app N30 Nq35
  have s7 := K35.1
  obtain ⟨x36, ex36⟩ : ∃ z, z = (if (255 : Int32) < x34 then (1 : Int32) else (0 : Int32)) := ⟨_, rfl⟩
  have o35_2' : Fld Z T35.heap b35_m0 "java/lang/String" "coder" "B" (.int x36) := by rw [ex36]; exact o35_2
  obtain ⟨x37, ex37⟩ : ∃ z, z = (if (255 : Int32) < x34 then (2 : Int32) else (1 : Int32)) := ⟨_, rfl⟩
  have o35_6' : Arv Z T35.heap b35_m1 k35_kk2 .byte x37 u35_uu3 (.int 0) := by rw [ex37]; exact o35_6
  have Ex38 := (o30_0.keep K35)
  have Fl39 := (o30_2.keep K35 nin0)
  have Va40 := (o30_5'.keep K35 nin0)
  have cd41 : ¬ ((if (255 : Int32) < (nar .char ((p2 &&& (65535 : Int32)).toUInt32.toUInt16.toUInt32.toInt32)) then (8 : Int32) else (if (255 : Int32) < (nar .char ((p3 &&& (65535 : Int32)).toUInt32.toUInt16.toUInt32.toInt32)) then (8 : Int32) else (if (255 : Int32) < (nar .char ((p4 &&& (65535 : Int32)).toUInt32.toUInt16.toUInt32.toInt32)) then (8 : Int32) else (if (255 : Int32) < (nar .char ((p5 &&& (65535 : Int32)).toUInt32.toUInt16.toUInt32.toInt32)) then (8 : Int32) else (4 : Int32))))) = (0 : Int32)) := (by by_cases hi0 : (255 : Int32) < (nar .char ((p2 &&& (65535 : Int32)).toUInt32.toUInt16.toUInt32.toInt32)); exact (by simp only [if_pos hi0]; decide); exact (by simp only [if_neg hi0]; by_cases hi1 : (255 : Int32) < (nar .char ((p3 &&& (65535 : Int32)).toUInt32.toUInt16.toUInt32.toInt32)); exact (by simp only [if_pos hi1]; decide); exact (by simp only [if_neg hi1]; by_cases hi2 : (255 : Int32) < (nar .char ((p4 &&& (65535 : Int32)).toUInt32.toUInt16.toUInt32.toInt32)); exact (by simp only [if_pos hi2]; decide); exact (by simp only [if_neg hi2]; by_cases hi3 : (255 : Int32) < (nar .char ((p5 &&& (65535 : Int32)).toUInt32.toUInt16.toUInt32.toInt32)); exact (by simp only [if_pos hi3]; decide); exact (by simp only [if_neg hi3]; decide)))))
  have z8 := Nat.le_trans Z0 (Nat.le_trans (Nat.le_trans (Nat.le_trans (Nat.le_trans (Nat.le_trans (Nat.le_trans (Nat.le_trans s0 s1) s2) s3) s4) s5) s6) s7)
  obtain ⟨_, T42, L42, X42, hQ42, st42⟩ := own_callS X35 hx hZ hown (y := y_16) (w_34 hw) (w_35 hw) (w_36 hw) (w_37 hw) (rm20 l Z a0 hw [] b5 b35_m0 b30_b19_b20_m0 u30_u19_u20_uu2 k30_k19_k20_kk1 x31 T35.heap n0 z8 Ex38 Fl39 Va40 (by rw [ex31, ex4, ex3, ex2, ex1]; exact cd41)) rfl (Ls := #[.val (.int p1), .val (.int p2), .val (.int p3), .val (.int p4), .val (.int p5), .val (.int p6), .val (.int x1), .val (.int x2), .val (.int x3), .val (.int x4), .val (.int 4), .val (.ref b5), .val (.ref b35_m0), .unset]) (by rw [hml]; rfl) (argsL := [(.ref b5), (.ref b35_m0)]) (rest := []) (lenOf pd_14 rfl) (hb hby at_192) (W := 0)
  obtain ⟨rfl, Nq42, e42⟩ := hQ42
  have N42 := Fr.app N35 Nq42
  have Od8 : Old Z n0 T35.heap := Od7.keep K35 all0
  have Fl43 := (o30_1.keep K35 nin0)
  obtain ⟨_, T44, L44, X44, hQ44, st44⟩ := own_virtual X42 hx hZ hown (y := y_18) (z := y_18) Ex38 (w_43 hw) (w_44 hw) (notFace_of_selects (args := #[]) (mvT hZ (w_46 hw))) (w_46 hw) (w_45 hw) (w_3 hw) (w_47 hw) (rm22 l Z a0 hw [] b5 b30_b19_b20_m0 u30_u19_u20_uu2 k30_k19_k20_kk1 x31 si2 (nar .byte (nar .byte (((((4 : Int32) - (if (255 : Int32) < (nar .char x1) then (8 : Int32) else (if (255 : Int32) < (nar .char x2) then (8 : Int32) else (if (255 : Int32) < (nar .char x3) then (8 : Int32) else (if (255 : Int32) < (nar .char x4) then (8 : Int32) else (4 : Int32)))))).toUInt32 >>> ((31 : Int32) &&& 31).toUInt32).toInt32).toInt8.toInt32))) T35.heap n0 z8 Fl39 Va40 Ex38 S8_COMPACT_STRINGS Od8 nc6 Fl43) e42 (Ls := #[.val (.int p1), .val (.int p2), .val (.int p3), .val (.int p4), .val (.int p5), .val (.int p6), .val (.int x1), .val (.int x2), .val (.int x3), .val (.int x4), .val (.int 4), .val (.ref b5), .val (.ref b35_m0), .val (.ref b5)]) (by rw [hml]; rfl) (argsL := []) (rest := []) (lenOf pd_16 rfl) (hb hby at_206) (W := 0)
  obtain ⟨rfl, Nq44, e44⟩ := hQ44
  have N44 := Fr.app N42 Nq44
  obtain ⟨x45, ex45⟩ : ∃ z, z = (x31 >>> ((nar .byte (nar .byte (nar .byte (((((4 : Int32) - (if (255 : Int32) < (nar .char x1) then (8 : Int32) else (if (255 : Int32) < (nar .char x2) then (8 : Int32) else (if (255 : Int32) < (nar .char x3) then (8 : Int32) else (if (255 : Int32) < (nar .char x4) then (8 : Int32) else (4 : Int32)))))).toUInt32 >>> ((31 : Int32) &&& 31).toUInt32).toInt32).toInt8.toInt32)))) &&& 31)) := ⟨_, rfl⟩
  have cd46 : ((if (255 : Int32) < (nar .char ((p2 &&& (65535 : Int32)).toUInt32.toUInt16.toUInt32.toInt32)) then (8 : Int32) else (if (255 : Int32) < (nar .char ((p3 &&& (65535 : Int32)).toUInt32.toUInt16.toUInt32.toInt32)) then (8 : Int32) else (if (255 : Int32) < (nar .char ((p4 &&& (65535 : Int32)).toUInt32.toUInt16.toUInt32.toInt32)) then (8 : Int32) else (if (255 : Int32) < (nar .char ((p5 &&& (65535 : Int32)).toUInt32.toUInt16.toUInt32.toInt32)) then (8 : Int32) else (4 : Int32))))) >>> ((nar .byte (nar .byte (nar .byte (((((4 : Int32) - (if (255 : Int32) < (nar .char ((p2 &&& (65535 : Int32)).toUInt32.toUInt16.toUInt32.toInt32)) then (8 : Int32) else (if (255 : Int32) < (nar .char ((p3 &&& (65535 : Int32)).toUInt32.toUInt16.toUInt32.toInt32)) then (8 : Int32) else (if (255 : Int32) < (nar .char ((p4 &&& (65535 : Int32)).toUInt32.toUInt16.toUInt32.toInt32)) then (8 : Int32) else (if (255 : Int32) < (nar .char ((p5 &&& (65535 : Int32)).toUInt32.toUInt16.toUInt32.toInt32)) then (8 : Int32) else (4 : Int32)))))).toUInt32 >>> ((31 : Int32) &&& 31).toUInt32).toInt32).toInt8.toInt32)))) &&& 31)) = (4 : Int32) := (by by_cases hi0 : (255 : Int32) < (nar .char ((p2 &&& (65535 : Int32)).toUInt32.toUInt16.toUInt32.toInt32)); exact (by simp only [if_pos hi0]; decide); exact (by simp only [if_neg hi0]; by_cases hi1 : (255 : Int32) < (nar .char ((p3 &&& (65535 : Int32)).toUInt32.toUInt16.toUInt32.toInt32)); exact (by simp only [if_pos hi1]; decide); exact (by simp only [if_neg hi1]; by_cases hi2 : (255 : Int32) < (nar .char ((p4 &&& (65535 : Int32)).toUInt32.toUInt16.toUInt32.toInt32)); exact (by simp only [if_pos hi2]; decide); exact (by simp only [if_neg hi2]; by_cases hi3 : (255 : Int32) < (nar .char ((p5 &&& (65535 : Int32)).toUInt32.toUInt16.toUInt32.toInt32)); exact (by simp only [if_pos hi3]; decide); exact (by simp only [if_neg hi3]; decide)))))
  refine ⟨T44, _, _, _, (some (.int 1)), X44, nofun, by decide, by decide, ?_, fun fs hr => ?_⟩
  · show Q0 n0 _ T44.heap _
    rw [e44]
    subst ex45
    subst ex37
    subst ex36
    subst ex34
    subst ex33
    subst ex32
    subst ex31
    subst ex4
    subst ex3
    subst ex2
    subst ex1
    exact ⟨rfl, N44⟩
  · refine XS.iloadN X0.here hx rfl (hb hby at_0) rfl ?_
    refine X0.ldcInt hx hown (mvT hZ (w_0 hw)) (g := (mkF m 1 #[.val (.int p1), .val (.int p2), .val (.int p3), .val (.int p4), .val (.int p5), .val (.int p6), .unset, .unset, .unset, .unset, .unset, .unset, .unset, .unset] [(.int p2)])) rfl (hb hby at_1) _ ?_
    refine XS.iand X0.here hx rfl (hb hby at_3) rfl ?_
    refine XS.i2c X0.here hx rfl (hb hby at_4) rfl ?_
    show Steps p.tables e below (s₁.setTop (mkF m 5 #[.val (.int p1), .val (.int p2), .val (.int p3), .val (.int p4), .val (.int p5), .val (.int p6), .unset, .unset, .unset, .unset, .unset, .unset, .unset, .unset] [(.int ((p2 &&& (65535 : Int32)).toUInt32.toUInt16.toUInt32.toInt32))])) _
    rw [← ex1]
    refine XS.istore X0.here hx rfl (hb hby at_5) rfl (l' := #[.val (.int p1), .val (.int p2), .val (.int p3), .val (.int p4), .val (.int p5), .val (.int p6), .val (.int x1), .unset, .unset, .unset, .unset, .unset, .unset, .unset]) rfl ?_
    refine XS.iloadN X0.here hx rfl (hb hby at_7) rfl ?_
    refine X0.ldcInt hx hown (mvT hZ (w_0 hw)) (g := (mkF m 8 #[.val (.int p1), .val (.int p2), .val (.int p3), .val (.int p4), .val (.int p5), .val (.int p6), .val (.int x1), .unset, .unset, .unset, .unset, .unset, .unset, .unset] [(.int p3)])) rfl (hb hby at_8) _ ?_
    refine XS.iand X0.here hx rfl (hb hby at_10) rfl ?_
    refine XS.i2c X0.here hx rfl (hb hby at_11) rfl ?_
    show Steps p.tables e below (s₁.setTop (mkF m 12 #[.val (.int p1), .val (.int p2), .val (.int p3), .val (.int p4), .val (.int p5), .val (.int p6), .val (.int x1), .unset, .unset, .unset, .unset, .unset, .unset, .unset] [(.int ((p3 &&& (65535 : Int32)).toUInt32.toUInt16.toUInt32.toInt32))])) _
    rw [← ex2]
    refine XS.istore X0.here hx rfl (hb hby at_12) rfl (l' := #[.val (.int p1), .val (.int p2), .val (.int p3), .val (.int p4), .val (.int p5), .val (.int p6), .val (.int x1), .val (.int x2), .unset, .unset, .unset, .unset, .unset, .unset]) rfl ?_
    refine XS.iloadN X0.here hx rfl (hb hby at_14) rfl ?_
    refine X0.ldcInt hx hown (mvT hZ (w_0 hw)) (g := (mkF m 15 #[.val (.int p1), .val (.int p2), .val (.int p3), .val (.int p4), .val (.int p5), .val (.int p6), .val (.int x1), .val (.int x2), .unset, .unset, .unset, .unset, .unset, .unset] [(.int p4)])) rfl (hb hby at_15) _ ?_
    refine XS.iand X0.here hx rfl (hb hby at_17) rfl ?_
    refine XS.i2c X0.here hx rfl (hb hby at_18) rfl ?_
    show Steps p.tables e below (s₁.setTop (mkF m 19 #[.val (.int p1), .val (.int p2), .val (.int p3), .val (.int p4), .val (.int p5), .val (.int p6), .val (.int x1), .val (.int x2), .unset, .unset, .unset, .unset, .unset, .unset] [(.int ((p4 &&& (65535 : Int32)).toUInt32.toUInt16.toUInt32.toInt32))])) _
    rw [← ex3]
    refine XS.istore X0.here hx rfl (hb hby at_19) rfl (l' := #[.val (.int p1), .val (.int p2), .val (.int p3), .val (.int p4), .val (.int p5), .val (.int p6), .val (.int x1), .val (.int x2), .val (.int x3), .unset, .unset, .unset, .unset, .unset]) rfl ?_
    refine XS.iload X0.here hx rfl (hb hby at_21) rfl ?_
    refine X0.ldcInt hx hown (mvT hZ (w_0 hw)) (g := (mkF m 23 #[.val (.int p1), .val (.int p2), .val (.int p3), .val (.int p4), .val (.int p5), .val (.int p6), .val (.int x1), .val (.int x2), .val (.int x3), .unset, .unset, .unset, .unset, .unset] [(.int p5)])) rfl (hb hby at_23) _ ?_
    refine XS.iand X0.here hx rfl (hb hby at_25) rfl ?_
    refine XS.i2c X0.here hx rfl (hb hby at_26) rfl ?_
    show Steps p.tables e below (s₁.setTop (mkF m 27 #[.val (.int p1), .val (.int p2), .val (.int p3), .val (.int p4), .val (.int p5), .val (.int p6), .val (.int x1), .val (.int x2), .val (.int x3), .unset, .unset, .unset, .unset, .unset] [(.int ((p5 &&& (65535 : Int32)).toUInt32.toUInt16.toUInt32.toInt32))])) _
    rw [← ex4]
    refine XS.istore X0.here hx rfl (hb hby at_27) rfl (l' := #[.val (.int p1), .val (.int p2), .val (.int p3), .val (.int p4), .val (.int p5), .val (.int p6), .val (.int x1), .val (.int x2), .val (.int x3), .val (.int x4), .unset, .unset, .unset, .unset]) rfl ?_
    refine XS.iloadN X0.here hx rfl (hb hby at_29) rfl ?_
    refine XS.iconst X0.here hx rfl (hb hby at_30) ?_
    refine XS.iand X0.here hx rfl (hb hby at_31) rfl ?_
    show Steps p.tables e below (s₁.setTop (mkF m 32 #[.val (.int p1), .val (.int p2), .val (.int p3), .val (.int p4), .val (.int p5), .val (.int p6), .val (.int x1), .val (.int x2), .val (.int x3), .val (.int x4), .unset, .unset, .unset, .unset] [(.int (p1 &&& (3 : Int32)))])) _
    rw [hk]
    refine XS.iconst X0.here hx rfl (hb hby at_32) ?_
    refine XS.iadd X0.here hx rfl (hb hby at_33) rfl ?_
    refine XS.istore X0.here hx rfl (hb hby at_34) rfl (l' := #[.val (.int p1), .val (.int p2), .val (.int p3), .val (.int p4), .val (.int p5), .val (.int p6), .val (.int x1), .val (.int x2), .val (.int x3), .val (.int x4), .val (.int 4), .unset, .unset, .unset]) rfl ?_
    refine XS.iload X0.here hx rfl (hb hby at_36) rfl ?_
    refine XS.iconst X0.here hx rfl (hb hby at_38) ?_
    refine XS.icmpYes X0.here hx rfl (pc0 := 39) (pc' := 62) rfl (hb hby at_39) rfl (feq ((by decide : ¬ ((4 : Int32) = (1 : Int32))) : ¬ ((4 : Int32) = (1 : Int32)))).2 (by decide) (by decide) ?_
    refine XS.iload X0.here hx rfl (hb hby at_62) rfl ?_
    refine XS.iconst X0.here hx rfl (hb hby at_64) ?_
    refine XS.icmpYes X0.here hx rfl (pc0 := 65) (pc' := 93) rfl (hb hby at_65) rfl (feq ((by decide : ¬ ((4 : Int32) = (2 : Int32))) : ¬ ((4 : Int32) = (2 : Int32)))).2 (by decide) (by decide) ?_
    refine XS.iload X0.here hx rfl (hb hby at_93) rfl ?_
    refine XS.iconst X0.here hx rfl (hb hby at_95) ?_
    show Steps p.tables e below (s₁.setTop (mkF m 96 #[.val (.int p1), .val (.int p2), .val (.int p3), .val (.int p4), .val (.int p5), .val (.int p6), .val (.int x1), .val (.int x2), .val (.int x3), .val (.int x4), .val (.int 4), .unset, .unset, .unset] [(.int 3), (.int 4)])) _
    refine XS.icmpYes X0.here hx rfl (pc0 := 96) (pc' := 129) rfl (hb hby at_96) rfl (feq ((by decide : ¬ ((4 : Int32) = (3 : Int32))) : ¬ ((4 : Int32) = (3 : Int32)))).2 (by decide) (by decide) ?_
    refine st5 _ ?_
    refine XS.dup X5.here hx rfl (hb hby at_132) rfl rfl ?_
    refine XS.iconst X5.here hx rfl (hb hby at_133) ?_
    refine st6 _ ?_
    refine XS.dup X6.here hx rfl (hb hby at_136) rfl rfl ?_
    refine XS.iconst X6.here hx rfl (hb hby at_137) ?_
    refine XS.iload X6.here hx rfl (hb hby at_138) rfl ?_
    refine st9 _ ?_
    refine XS.dup X9.here hx rfl (hb hby at_141) rfl rfl ?_
    refine XS.iconst X9.here hx rfl (hb hby at_142) ?_
    refine XS.iload X9.here hx rfl (hb hby at_143) rfl ?_
    show Steps p.tables e below (T9.setTop (mkF m 145 #[.val (.int p1), .val (.int p2), .val (.int p3), .val (.int p4), .val (.int p5), .val (.int p6), .val (.int x1), .val (.int x2), .val (.int x3), .val (.int x4), .val (.int 4), .unset, .unset, .unset] [(.int x2), (.int 1), (.ref b6), (.ref b6), (.ref b5), (.ref b5)])) _
    refine st12 _ ?_
    refine XS.dup X12.here hx rfl (hb hby at_146) rfl rfl ?_
    refine XS.iconst X12.here hx rfl (hb hby at_147) ?_
    refine XS.iload X12.here hx rfl (hb hby at_148) rfl ?_
    refine st15 _ ?_
    refine XS.dup X15.here hx rfl (hb hby at_151) rfl rfl ?_
    refine XS.iconst X15.here hx rfl (hb hby at_152) ?_
    refine XS.iload X15.here hx rfl (hb hby at_153) rfl ?_
    refine st18 _ ?_
    refine st30 _ ?_
    refine XS.astore X30.here hx rfl (hb hby at_159) rfl rfl (l' := #[.val (.int p1), .val (.int p2), .val (.int p3), .val (.int p4), .val (.int p5), .val (.int p6), .val (.int x1), .val (.int x2), .val (.int x3), .val (.int x4), .val (.int 4), .val (.ref b5), .unset, .unset]) rfl ?_
    refine XS.iload X30.here hx rfl (hb hby at_161) rfl ?_
    show Steps p.tables e below (T30.setTop (mkF m 163 #[.val (.int p1), .val (.int p2), .val (.int p3), .val (.int p4), .val (.int p5), .val (.int p6), .val (.int x1), .val (.int x2), .val (.int x3), .val (.int x4), .val (.int 4), .val (.ref b5), .unset, .unset] [(.int p6)])) _
    refine XS.iconst X30.here hx rfl (hb hby at_163) ?_
    refine XS.iand X30.here hx rfl (hb hby at_164) rfl ?_
    refine XS.ifYes X30.here hx rfl (pc0 := 165) (pc' := 175) rfl (hb hby at_165) rfl ((if0 _ _).trans (teq (cc1 : (p6 &&& (1 : Int32)) = (0 : Int32))).1) (by decide) (by decide) ?_
    refine XS.iload X30.here hx rfl (hb hby at_175) rfl ?_
    refine XS.iconst X30.here hx rfl (hb hby at_177) ?_
    refine XS.iushr X30.here hx rfl (hb hby at_178) rfl ?_
    show Steps p.tables e below (T30.setTop (mkF m 179 #[.val (.int p1), .val (.int p2), .val (.int p3), .val (.int p4), .val (.int p5), .val (.int p6), .val (.int x1), .val (.int x2), .val (.int x3), .val (.int x4), .val (.int 4), .val (.ref b5), .unset, .unset] [(.int ((p6.toUInt32 >>> ((1 : Int32) &&& 31).toUInt32).toInt32))])) _
    rw [← ex32]
    refine X30.ldcInt hx hown (mvT hZ (w_0 hw)) (g := (mkF m 179 #[.val (.int p1), .val (.int p2), .val (.int p3), .val (.int p4), .val (.int p5), .val (.int p6), .val (.int x1), .val (.int x2), .val (.int x3), .val (.int x4), .val (.int 4), .val (.ref b5), .unset, .unset] [(.int x32)])) rfl (hb hby at_179) _ ?_
    refine XS.iand X30.here hx rfl (hb hby at_181) rfl ?_
    show Steps p.tables e below (T30.setTop (mkF m 182 #[.val (.int p1), .val (.int p2), .val (.int p3), .val (.int p4), .val (.int p5), .val (.int p6), .val (.int x1), .val (.int x2), .val (.int x3), .val (.int x4), .val (.int 4), .val (.ref b5), .unset, .unset] [(.int (x32 &&& (65535 : Int32)))])) _
    rw [← ex33]
    refine XS.i2c X30.here hx rfl (hb hby at_182) rfl ?_
    show Steps p.tables e below (T30.setTop (mkF m 183 #[.val (.int p1), .val (.int p2), .val (.int p3), .val (.int p4), .val (.int p5), .val (.int p6), .val (.int x1), .val (.int x2), .val (.int x3), .val (.int x4), .val (.int 4), .val (.ref b5), .unset, .unset] [(.int (x33.toUInt32.toUInt16.toUInt32.toInt32))])) _
    rw [← ex34]
    refine st35 _ ?_
    refine XS.astore X35.here hx rfl (hb hby at_186) rfl rfl (l' := #[.val (.int p1), .val (.int p2), .val (.int p3), .val (.int p4), .val (.int p5), .val (.int p6), .val (.int x1), .val (.int x2), .val (.int x3), .val (.int x4), .val (.int 4), .val (.ref b5), .val (.ref b35_m0), .unset]) rfl ?_
    refine XS.aload X35.here hx rfl (hb hby at_188) rfl rfl ?_
    refine XS.aload X35.here hx rfl (hb hby at_190) rfl rfl ?_
    refine st42 _ ?_
    refine XS.astore X42.here hx rfl (hb hby at_195) rfl rfl (l' := #[.val (.int p1), .val (.int p2), .val (.int p3), .val (.int p4), .val (.int p5), .val (.int p6), .val (.int x1), .val (.int x2), .val (.int x3), .val (.int x4), .val (.int 4), .val (.ref b5), .val (.ref b35_m0), .val (.ref b5)]) rfl ?_
    refine XS.aload X42.here hx rfl (hb hby at_197) rfl rfl ?_
    refine XS.aload X42.here hx rfl (hb hby at_199) rfl rfl ?_
    refine Jvm.RoadKit.acmp (g := (mkF m 201 #[.val (.int p1), .val (.int p2), .val (.int p3), .val (.int p4), .val (.int p5), .val (.int p6), .val (.int x1), .val (.int x2), .val (.int x3), .val (.int x4), .val (.int 4), .val (.ref b5), .val (.ref b35_m0), .val (.ref b5)] [(.ref b5), (.ref b5)])) X42 hx rfl rfl rfl (pc0 := 201) (pc' := 204) (same := true) rfl (hb hby at_201) rfl (decide_eq_true rfl) (by decide) (by decide) ?_
    refine XS.aload X42.here hx rfl (hb hby at_204) rfl rfl ?_
    refine st44 _ ?_
    show Steps p.tables e below (T44.setTop (mkF m 209 #[.val (.int p1), .val (.int p2), .val (.int p3), .val (.int p4), .val (.int p5), .val (.int p6), .val (.int x1), .val (.int x2), .val (.int x3), .val (.int x4), .val (.int 4), .val (.ref b5), .val (.ref b35_m0), .val (.ref b5)] [(.int (x31 >>> ((nar .byte (nar .byte (nar .byte (((((4 : Int32) - (if (255 : Int32) < (nar .char x1) then (8 : Int32) else (if (255 : Int32) < (nar .char x2) then (8 : Int32) else (if (255 : Int32) < (nar .char x3) then (8 : Int32) else (if (255 : Int32) < (nar .char x4) then (8 : Int32) else (4 : Int32)))))).toUInt32 >>> ((31 : Int32) &&& 31).toUInt32).toInt32).toInt8.toInt32)))) &&& 31)))])) _
    rw [← ex45]
    refine XS.iload X44.here hx rfl (hb hby at_209) rfl ?_
    refine XS.icmpNo X44.here hx rfl (hb hby at_211) rfl (teq ((by rw [ex45, ex31, ex4, ex3, ex2, ex1]; exact cd46) : x45 = (4 : Int32))).2 ?_
    refine XS.iconst X44.here hx rfl (hb hby at_214) ?_
    refine XS.goto X44.here hx rfl (pc0 := 215) (pc' := 219) rfl (hb hby at_215) (by decide) (by decide) ?_
    exact retN X44 hx (t := .boolean) hret (by simp) (hb hby at_219) hr
theorem rm0_7 (l : Launch) (Z : State) (a0 : Array Value) (hw : ∀ d ∈ tables_1, d.before a0 Z = true) (ws : List Jvm.Cond) (p1 : Int32) (p2 : Int32) (p3 : Int32) (p4 : Int32) (p5 : Int32) (p6 : Int32) (sr1 : Value) (si2 : Int32) (h0 : Heap) (n0 : Nat) (Z0 : n0 ≤ h0.size) (Od0 : Old Z n0 h0) (R_sr1 : sr1.isRef = true) (nc6 : ¬ (si2 = (0 : Int32))) (S7_SIOOBE_FORMATTER : Sta Z Z.heap "jdk/internal/util/Preconditions" "SIOOBE_FORMATTER" "Ljava/util/function/BiFunction;" sr1) (S8_COMPACT_STRINGS : Sta Z Z.heap "java/lang/String" "COMPACT_STRINGS" "Z" (.int si2)) (S9__assertionsDisabled : Sta Z Z.heap "java/lang/StringUTF16" "$assertionsDisabled" "Z" (.int 1)) (S10_HI_BYTE_SHIFT : Sta Z Z.heap "java/lang/StringUTF16" "HI_BYTE_SHIFT" "I" (.int 0)) (S11_LO_BYTE_SHIFT : Sta Z Z.heap "java/lang/StringUTF16" "LO_BYTE_SHIFT" "I" (.int 8)) (hk : (p1 &&& (3 : Int32)) = (3 : Int32)) (cc1 : ¬ ((p6 &&& (1 : Int32)) = (0 : Int32))) :
    OwnMetW l Z x code maxLocals ret ws room_1 #[(.int p1), (.int p2), (.int p3), (.int p4), (.int p5), (.int p6)] h0 (Q0 n0) := by
  refine own_bodyW (plainFor_of_name pn_4) (ef0 p1 p2 p3 p4 p5 p6) ?_
  intro p e s m below meth c s₁ hx hby hml hown hnm hret hZ hs0 hIB X0 e0
  have N0 := Fr.nil n0
  obtain ⟨x1, ex1⟩ : ∃ z, z = ((p2 &&& (65535 : Int32)).toUInt32.toUInt16.toUInt32.toInt32) := ⟨_, rfl⟩
  obtain ⟨x2, ex2⟩ : ∃ z, z = ((p3 &&& (65535 : Int32)).toUInt32.toUInt16.toUInt32.toInt32) := ⟨_, rfl⟩
  obtain ⟨x3, ex3⟩ : ∃ z, z = ((p4 &&& (65535 : Int32)).toUInt32.toUInt16.toUInt32.toInt32) := ⟨_, rfl⟩
  obtain ⟨x4, ex4⟩ : ∃ z, z = ((p5 &&& (65535 : Int32)).toUInt32.toUInt16.toUInt32.toInt32) := ⟨_, rfl⟩
  obtain ⟨T5, h5, X5, e5, E5, A5, D5, -, st5⟩ := newO X0 hx hZ hown (w_1 hw) (w_2 hw) (w_3 hw) e0 (g := (mkF m 129 #[.val (.int p1), .val (.int p2), .val (.int p3), .val (.int p4), .val (.int p5), .val (.int p6), .val (.int x1), .val (.int x2), .val (.int x3), .val (.int x4), .val (.int 4), .unset, .unset, .unset] [])) rfl (hb hby at_129) (by decide) (by decide)
  obtain ⟨b5, g5⟩ : ∃ z, z = h0.size := ⟨_, rfl⟩
  rw [← g5] at A5 D5 st5
  have s0 := E5.1
  have Fn5_coder : Fld Z h5 b5 "java/lang/String" "coder" "B" (.int 0) := D5 (Or.inr (w_28 hw)) (ty := .byte) (by decide)
  have Fn5_value : Fld Z h5 b5 "java/lang/String" "value" "[B" .null := D5 (Or.inr (w_30 hw)) (ty := (.array .byte)) (by decide)
  obtain ⟨T6, h6, k6, X6, e6, E6, A6, B6, st6⟩ := newPE (aty := .char) X5 hx hZ (w_4 hw) e5 (g := (mkF m 134 #[.val (.int p1), .val (.int p2), .val (.int p3), .val (.int p4), .val (.int p5), .val (.int p6), .val (.int x1), .val (.int x2), .val (.int x3), .val (.int x4), .val (.int 4), .unset, .unset, .unset] [(.int 4), (.ref b5), (.ref b5)])) rfl (hb hby at_134) rfl (by decide) (cap := 4) (by decide) (by decide) (by decide) (by decide) (ad := "[C") (by decide)
  obtain ⟨b6, g6⟩ : ∃ z, z = h5.size := ⟨_, rfl⟩
  rw [← g6] at A6 B6 st6
  have s1 := E6.1
  have Vn6 : Arv Z h6 b6 k6 .char (4 : Int32) [(.int 0), (.int 0), (.int 0), (.int 0)] (.int 0) := (Arv.new A6 (by decide)).pad (pad_rep [] (.int 0) 4)
  obtain ⟨cl7, Ar7, q7, S7, M7, Hs7, G7⟩ := id Vn6
  have hin8 : ¬ ((0 : Int32) < 0 ∨ cl7.slots.size ≤ ((0 : Int32)).toNatClampNeg) := inb_of S7 ⟨(by decide : ¬ ((0 : Int32) < (0 : Int32))), (by decide : (0 : Int32) < (4 : Int32))⟩
  obtain ⟨T9, h9, X9, e9, W9, st9⟩ := stC X6 hx hZ e6 Ar7 (j := (0 : Int32)) hin8 (g := (mkF m 140 #[.val (.int p1), .val (.int p2), .val (.int p3), .val (.int p4), .val (.int p5), .val (.int p6), .val (.int x1), .val (.int x2), .val (.int x3), .val (.int x4), .val (.int 4), .unset, .unset, .unset] [(.int x1), (.int 0), (.ref b6), (.ref b6), (.ref b5), (.ref b5)])) rfl rfl (hb hby at_140)
  have s2 := (Keep.of_wr W9).1
  have z1 := Nat.le_trans Z0 s0
  have g_b6 : n0 ≤ b6 := Nat.le_trans z1 (Nat.le_of_eq g6.symm)
  have N9 := Fr.snoc X9 N0 g_b6
  have Vs9 : Arv Z h9 b6 k6 .char (4 : Int32) [(.int (nar .char x1)), (.int 0), (.int 0), (.int 0)] (.int 0) := Arv.set Ar7 q7 S7 M7 Hs7 G7 (fits_nar_char _) W9 0 rfl (Nat.le_of_ble_eq_true rfl)
  obtain ⟨cl10, Ar10, q10, S10, M10, Hs10, G10⟩ := id Vs9
  have hin11 : ¬ ((1 : Int32) < 0 ∨ cl10.slots.size ≤ ((1 : Int32)).toNatClampNeg) := inb_of S10 ⟨(by decide : ¬ ((1 : Int32) < (0 : Int32))), (by decide : (1 : Int32) < (4 : Int32))⟩
  obtain ⟨T12, h12, X12, e12, W12, st12⟩ := stC X9 hx hZ e9 Ar10 (j := (1 : Int32)) hin11 (g := (mkF m 145 #[.val (.int p1), .val (.int p2), .val (.int p3), .val (.int p4), .val (.int p5), .val (.int p6), .val (.int x1), .val (.int x2), .val (.int x3), .val (.int x4), .val (.int 4), .unset, .unset, .unset] [(.int x2), (.int 1), (.ref b6), (.ref b6), (.ref b5), (.ref b5)])) rfl rfl (hb hby at_145)
  have s3 := (Keep.of_wr W12).1
  have N12 := Fr.snoc X12 N9 g_b6
  have Vs12 : Arv Z h12 b6 k6 .char (4 : Int32) [(.int (nar .char x1)), (.int (nar .char x2)), (.int 0), (.int 0)] (.int 0) := Arv.set Ar10 q10 S10 M10 Hs10 G10 (fits_nar_char _) W12 1 rfl (Nat.le_of_ble_eq_true rfl)
  obtain ⟨cl13, Ar13, q13, S13, M13, Hs13, G13⟩ := id Vs12
  have hin14 : ¬ ((2 : Int32) < 0 ∨ cl13.slots.size ≤ ((2 : Int32)).toNatClampNeg) := inb_of S13 ⟨(by decide : ¬ ((2 : Int32) < (0 : Int32))), (by decide : (2 : Int32) < (4 : Int32))⟩
  obtain ⟨T15, h15, X15, e15, W15, st15⟩ := stC X12 hx hZ e12 Ar13 (j := (2 : Int32)) hin14 (g := (mkF m 150 #[.val (.int p1), .val (.int p2), .val (.int p3), .val (.int p4), .val (.int p5), .val (.int p6), .val (.int x1), .val (.int x2), .val (.int x3), .val (.int x4), .val (.int 4), .unset, .unset, .unset] [(.int x3), (.int 2), (.ref b6), (.ref b6), (.ref b5), (.ref b5)])) rfl rfl (hb hby at_150)
  have s4 := (Keep.of_wr W15).1
  have N15 := Fr.snoc X15 N12 g_b6
  have Vs15 : Arv Z h15 b6 k6 .char (4 : Int32) [(.int (nar .char x1)), (.int (nar .char x2)), (.int (nar .char x3)), (.int 0)] (.int 0) := Arv.set Ar13 q13 S13 M13 Hs13 G13 (fits_nar_char _) W15 2 rfl (Nat.le_of_ble_eq_true rfl)
  obtain ⟨cl16, Ar16, q16, S16, M16, Hs16, G16⟩ := id Vs15
  have hin17 : ¬ ((3 : Int32) < 0 ∨ cl16.slots.size ≤ ((3 : Int32)).toNatClampNeg) := inb_of S16 ⟨(by decide : ¬ ((3 : Int32) < (0 : Int32))), (by decide : (3 : Int32) < (4 : Int32))⟩
  obtain ⟨T18, h18, X18, e18, W18, st18⟩ := stC X15 hx hZ e15 Ar16 (j := (3 : Int32)) hin17 (g := (mkF m 155 #[.val (.int p1), .val (.int p2), .val (.int p3), .val (.int p4), .val (.int p5), .val (.int p6), .val (.int x1), .val (.int x2), .val (.int x3), .val (.int x4), .val (.int 4), .unset, .unset, .unset] [(.int x4), (.int 3), (.ref b6), (.ref b6), (.ref b5), (.ref b5)])) rfl rfl (hb hby at_155)
  have s5 := (Keep.of_wr W18).1
  have N18 := Fr.snoc X18 N15 g_b6
  have Vs18 : Arv Z h18 b6 k6 .char (4 : Int32) [(.int (nar .char x1)), (.int (nar .char x2)), (.int (nar .char x3)), (.int (nar .char x4))] (.int 0) := Arv.set Ar16 q16 S16 M16 Hs16 G16 (fits_nar_char _) W18 3 rfl (Nat.le_of_ble_eq_true rfl)
  have Od1 : Old Z n0 h5 := Od0.ext E5
  have Od2 : Old Z n0 h6 := Od1.ext E6
  have Od3 : Old Z n0 h9 := Od2.wr W9 g_b6
  have Od4 : Old Z n0 h12 := Od3.wr W12 g_b6
  have Od5 : Old Z n0 h15 := Od4.wr W15 g_b6
  have Od6 : Old Z n0 h18 := Od5.wr W18 g_b6
  have cd19 : ¬ ((nar .char ((p2 &&& (65535 : Int32)).toUInt32.toUInt16.toUInt32.toInt32)) < (0 : Int32)) := (by rw [Int32.lt_iff_toInt_lt]; have := rng32 (nar .char ((p2 &&& (65535 : Int32)).toUInt32.toUInt16.toUInt32.toInt32)); have := rng32 ((p2 &&& (65535 : Int32)).toUInt32.toUInt16.toUInt32.toInt32); have := rng32 (p2 &&& (65535 : Int32)); have := rng32 p2; have := own_mask p2 (65535 : Int32) 16 (by decide) (by decide) 65536 (by decide); have := c_i2c (p2 &&& (65535 : Int32)); have := own_c_nar_char ((p2 &&& (65535 : Int32)).toUInt32.toUInt16.toUInt32.toInt32); have : ((0 : Int32)).toInt = 0 := (by decide); omega)
  have cd20 : ¬ ((65535 : Int32) < (nar .char ((p2 &&& (65535 : Int32)).toUInt32.toUInt16.toUInt32.toInt32))) := (by rw [Int32.lt_iff_toInt_lt]; have : ((65535 : Int32)).toInt = 65535 := (by decide); have := rng32 (nar .char ((p2 &&& (65535 : Int32)).toUInt32.toUInt16.toUInt32.toInt32)); have := rng32 ((p2 &&& (65535 : Int32)).toUInt32.toUInt16.toUInt32.toInt32); have := rng32 (p2 &&& (65535 : Int32)); have := rng32 p2; have := own_mask p2 (65535 : Int32) 16 (by decide) (by decide) 65536 (by decide); have := c_i2c (p2 &&& (65535 : Int32)); have := own_c_nar_char ((p2 &&& (65535 : Int32)).toUInt32.toUInt16.toUInt32.toInt32); omega)
  have cd21 : ¬ ((nar .char ((p3 &&& (65535 : Int32)).toUInt32.toUInt16.toUInt32.toInt32)) < (0 : Int32)) := (by rw [Int32.lt_iff_toInt_lt]; have := rng32 (nar .char ((p3 &&& (65535 : Int32)).toUInt32.toUInt16.toUInt32.toInt32)); have := rng32 ((p3 &&& (65535 : Int32)).toUInt32.toUInt16.toUInt32.toInt32); have := rng32 (p3 &&& (65535 : Int32)); have := rng32 p3; have := own_mask p3 (65535 : Int32) 16 (by decide) (by decide) 65536 (by decide); have := c_i2c (p3 &&& (65535 : Int32)); have := own_c_nar_char ((p3 &&& (65535 : Int32)).toUInt32.toUInt16.toUInt32.toInt32); have : ((0 : Int32)).toInt = 0 := (by decide); omega)
  have cd22 : ¬ ((65535 : Int32) < (nar .char ((p3 &&& (65535 : Int32)).toUInt32.toUInt16.toUInt32.toInt32))) := (by rw [Int32.lt_iff_toInt_lt]; have : ((65535 : Int32)).toInt = 65535 := (by decide); have := rng32 (nar .char ((p3 &&& (65535 : Int32)).toUInt32.toUInt16.toUInt32.toInt32)); have := rng32 ((p3 &&& (65535 : Int32)).toUInt32.toUInt16.toUInt32.toInt32); have := rng32 (p3 &&& (65535 : Int32)); have := rng32 p3; have := own_mask p3 (65535 : Int32) 16 (by decide) (by decide) 65536 (by decide); have := c_i2c (p3 &&& (65535 : Int32)); have := own_c_nar_char ((p3 &&& (65535 : Int32)).toUInt32.toUInt16.toUInt32.toInt32); omega)
  have cd23 : ¬ ((nar .char ((p4 &&& (65535 : Int32)).toUInt32.toUInt16.toUInt32.toInt32)) < (0 : Int32)) := (by rw [Int32.lt_iff_toInt_lt]; have := rng32 (nar .char ((p4 &&& (65535 : Int32)).toUInt32.toUInt16.toUInt32.toInt32)); have := rng32 ((p4 &&& (65535 : Int32)).toUInt32.toUInt16.toUInt32.toInt32); have := rng32 (p4 &&& (65535 : Int32)); have := rng32 p4; have := own_mask p4 (65535 : Int32) 16 (by decide) (by decide) 65536 (by decide); have := c_i2c (p4 &&& (65535 : Int32)); have := own_c_nar_char ((p4 &&& (65535 : Int32)).toUInt32.toUInt16.toUInt32.toInt32); have : ((0 : Int32)).toInt = 0 := (by decide); omega)
  have cd24 : ¬ ((65535 : Int32) < (nar .char ((p4 &&& (65535 : Int32)).toUInt32.toUInt16.toUInt32.toInt32))) := (by rw [Int32.lt_iff_toInt_lt]; have : ((65535 : Int32)).toInt = 65535 := (by decide); have := rng32 (nar .char ((p4 &&& (65535 : Int32)).toUInt32.toUInt16.toUInt32.toInt32)); have := rng32 ((p4 &&& (65535 : Int32)).toUInt32.toUInt16.toUInt32.toInt32); have := rng32 (p4 &&& (65535 : Int32)); have := rng32 p4; have := own_mask p4 (65535 : Int32) 16 (by decide) (by decide) 65536 (by decide); have := c_i2c (p4 &&& (65535 : Int32)); have := own_c_nar_char ((p4 &&& (65535 : Int32)).toUInt32.toUInt16.toUInt32.toInt32); omega)
  have cd25 : ¬ ((nar .char ((p5 &&& (65535 : Int32)).toUInt32.toUInt16.toUInt32.toInt32)) < (0 : Int32)) := (by rw [Int32.lt_iff_toInt_lt]; have := rng32 (nar .char ((p5 &&& (65535 : Int32)).toUInt32.toUInt16.toUInt32.toInt32)); have := rng32 ((p5 &&& (65535 : Int32)).toUInt32.toUInt16.toUInt32.toInt32); have := rng32 (p5 &&& (65535 : Int32)); have := rng32 p5; have := own_mask p5 (65535 : Int32) 16 (by decide) (by decide) 65536 (by decide); have := c_i2c (p5 &&& (65535 : Int32)); have := own_c_nar_char ((p5 &&& (65535 : Int32)).toUInt32.toUInt16.toUInt32.toInt32); have : ((0 : Int32)).toInt = 0 := (by decide); omega)
  have cd26 : ¬ ((65535 : Int32) < (nar .char ((p5 &&& (65535 : Int32)).toUInt32.toUInt16.toUInt32.toInt32))) := (by rw [Int32.lt_iff_toInt_lt]; have : ((65535 : Int32)).toInt = 65535 := (by decide); have := rng32 (nar .char ((p5 &&& (65535 : Int32)).toUInt32.toUInt16.toUInt32.toInt32)); have := rng32 ((p5 &&& (65535 : Int32)).toUInt32.toUInt16.toUInt32.toInt32); have := rng32 (p5 &&& (65535 : Int32)); have := rng32 p5; have := own_mask p5 (65535 : Int32) 16 (by decide) (by decide) 65536 (by decide); have := c_i2c (p5 &&& (65535 : Int32)); have := own_c_nar_char ((p5 &&& (65535 : Int32)).toUInt32.toUInt16.toUInt32.toInt32); omega)
  have ne_b5_b6 := Nat.ne_of_lt (Nat.lt_of_lt_of_le Fn5_value.lt (Nat.le_of_eq g6.symm))
  have Fl27 := (((((Fn5_coder.ext E6).other W9 (Or.inl ne_b5_b6)).other W12 (Or.inl ne_b5_b6)).other W15 (Or.inl ne_b5_b6)).other W18 (Or.inl ne_b5_b6))
  have Ex28 := (((((A5.ext E6).wr W9).wr W12).wr W15).wr W18)
  have g_b5 : n0 ≤ b5 := Nat.le_trans Z0 (Nat.le_of_eq g5.symm)
  have Fl29 := (((((Fn5_value.ext E6).other W9 (Or.inl ne_b5_b6)).other W12 (Or.inl ne_b5_b6)).other W15 (Or.inl ne_b5_b6)).other W18 (Or.inl ne_b5_b6))
  have z6 := Nat.le_trans Z0 (Nat.le_trans (Nat.le_trans (Nat.le_trans (Nat.le_trans (Nat.le_trans s0 s1) s2) s3) s4) s5)
  obtain ⟨_, T30, L30, X30, hQ30, st30⟩ := own_special X18 hx hZ hown (y := y_9) (a := b5) (w_5 hw) (w_6 hw) (w_3 hw) (w_7 hw) (rm73 l Z a0 hw [] b5 b6 (nar .char x1) (nar .char x2) (nar .char x3) (nar .char x4) k6 si2 h18 n0 z6 Vs18 S8_COMPACT_STRINGS Od6 nc6 S9__assertionsDisabled S10_HI_BYTE_SHIFT S11_LO_BYTE_SHIFT (by rw [ex1]; exact cd19) (by rw [ex1]; exact cd20) (by rw [ex2]; exact cd21) (by rw [ex2]; exact cd22) (by rw [ex3]; exact cd23) (by rw [ex3]; exact cd24) (by rw [ex4]; exact cd25) (by rw [ex4]; exact cd26) Fl27 Ex28 g_b5 Fl29) e18 (Ls := #[.val (.int p1), .val (.int p2), .val (.int p3), .val (.int p4), .val (.int p5), .val (.int p6), .val (.int x1), .val (.int x2), .val (.int x3), .val (.int x4), .val (.int 4), .unset, .unset, .unset]) (by rw [hml]; rfl) (argsL := [(.ref b6)]) (rest := [(.ref b5)]) (lenOf pd_8 rfl) (hb hby at_156) (W := 1)
  obtain ⟨b30_b19_b20_m0, k30_k19_k20_kk1, u30_u19_u20_uu2, rfl, Nq30, K30, o30_0, o30_1, o30_2, o30_3, o30_4, o30_5⟩ := hQ30
  have N30 := Fr.app N18 Nq30
  have s6 := K30.1
  obtain ⟨x31, ex31⟩ : ∃ z, z = (if (255 : Int32) < (nar .char x1) then (8 : Int32) else (if (255 : Int32) < (nar .char x2) then (8 : Int32) else (if (255 : Int32) < (nar .char x3) then (8 : Int32) else (if (255 : Int32) < (nar .char x4) then (8 : Int32) else (4 : Int32))))) := ⟨_, rfl⟩
  have o30_5' : Arv Z T30.heap b30_b19_b20_m0 k30_k19_k20_kk1 .byte x31 u30_u19_u20_uu2 (.int 0) := by rw [ex31]; exact o30_5
  obtain ⟨a32, T32, h32, kn32, X32, e32, E32, Sn32, kl32, hZ32, hown32, st32⟩ := ldcS (s := s) (vm0 := s.vm) X30 hx hZ hown (w_31 hw) (own_wS hw) rfl (own_since s) (by rw [hs0]; exact (Nat.le_trans (Nat.le_trans (Nat.le_trans (Nat.le_trans (Nat.le_trans (Nat.le_trans s0 s1) s2) s3) s4) s5) s6)) (g := (mkF m 168 #[.val (.int p1), .val (.int p2), .val (.int p3), .val (.int p4), .val (.int p5), .val (.int p6), .val (.int x1), .val (.int x2), .val (.int x3), .val (.int x4), .val (.int 4), .val (.ref b5), .unset, .unset] [])) rfl (hb hby at_168) (n := 0) (by decide) (by decide) (by decide) (by decide)
  have s7 := E32.1
  have Ex33 := (o30_0.ext E32)
  have Fl34 := (o30_2.ext E32)
  have Va35 := (o30_5'.ext E32)
  have cd36 : ¬ ((if (255 : Int32) < (nar .char ((p2 &&& (65535 : Int32)).toUInt32.toUInt16.toUInt32.toInt32)) then (8 : Int32) else (if (255 : Int32) < (nar .char ((p3 &&& (65535 : Int32)).toUInt32.toUInt16.toUInt32.toInt32)) then (8 : Int32) else (if (255 : Int32) < (nar .char ((p4 &&& (65535 : Int32)).toUInt32.toUInt16.toUInt32.toInt32)) then (8 : Int32) else (if (255 : Int32) < (nar .char ((p5 &&& (65535 : Int32)).toUInt32.toUInt16.toUInt32.toInt32)) then (8 : Int32) else (4 : Int32))))) = (0 : Int32)) := (by by_cases hi0 : (255 : Int32) < (nar .char ((p2 &&& (65535 : Int32)).toUInt32.toUInt16.toUInt32.toInt32)); exact (by simp only [if_pos hi0]; decide); exact (by simp only [if_neg hi0]; by_cases hi1 : (255 : Int32) < (nar .char ((p3 &&& (65535 : Int32)).toUInt32.toUInt16.toUInt32.toInt32)); exact (by simp only [if_pos hi1]; decide); exact (by simp only [if_neg hi1]; by_cases hi2 : (255 : Int32) < (nar .char ((p4 &&& (65535 : Int32)).toUInt32.toUInt16.toUInt32.toInt32)); exact (by simp only [if_pos hi2]; decide); exact (by simp only [if_neg hi2]; by_cases hi3 : (255 : Int32) < (nar .char ((p5 &&& (65535 : Int32)).toUInt32.toUInt16.toUInt32.toInt32)); exact (by simp only [if_pos hi3]; decide); exact (by simp only [if_neg hi3]; decide)))))
  have z8 := Nat.le_trans Z0 (Nat.le_trans (Nat.le_trans (Nat.le_trans (Nat.le_trans (Nat.le_trans (Nat.le_trans (Nat.le_trans s0 s1) s2) s3) s4) s5) s6) s7)
  obtain ⟨_, T37, L37, X37, hQ37, st37⟩ := own_callS X32 hx hZ32 hown32 (y := y_16) (w_34 hw) (w_35 hw) (w_36 hw) (w_37 hw) (rm20 l Z a0 hw [] b5 a32 b30_b19_b20_m0 u30_u19_u20_uu2 k30_k19_k20_kk1 x31 h32 n0 z8 Ex33 Fl34 Va35 (by rw [ex31, ex4, ex3, ex2, ex1]; exact cd36)) e32 (Ls := #[.val (.int p1), .val (.int p2), .val (.int p3), .val (.int p4), .val (.int p5), .val (.int p6), .val (.int x1), .val (.int x2), .val (.int x3), .val (.int x4), .val (.int 4), .val (.ref b5), .val (.ref a32), .unset]) (by rw [hml]; rfl) (argsL := [(.ref b5), (.ref a32)]) (rest := []) (lenOf pd_14 rfl) (hb hby at_192) (W := 0)
  obtain ⟨rfl, Nq37, e37⟩ := hQ37
  have N37 := Fr.app N30 Nq37
  have Od7 : Old Z n0 T30.heap := Od6.keep K30 (allS g_b5 all0)
  have Od8 : Old Z n0 h32 := Od7.ext E32
  have Fl38 := (o30_1.ext E32)
  obtain ⟨_, T39, L39, X39, hQ39, st39⟩ := own_virtual X37 hx hZ32 hown32 (y := y_18) (z := y_18) Ex33 (w_43 hw) (w_44 hw) (notFace_of_selects (args := #[]) (mvT hZ32 (w_46 hw))) (w_46 hw) (w_45 hw) (w_3 hw) (w_47 hw) (rm22 l Z a0 hw [] b5 b30_b19_b20_m0 u30_u19_u20_uu2 k30_k19_k20_kk1 x31 si2 (nar .byte (nar .byte (((((4 : Int32) - (if (255 : Int32) < (nar .char x1) then (8 : Int32) else (if (255 : Int32) < (nar .char x2) then (8 : Int32) else (if (255 : Int32) < (nar .char x3) then (8 : Int32) else (if (255 : Int32) < (nar .char x4) then (8 : Int32) else (4 : Int32)))))).toUInt32 >>> ((31 : Int32) &&& 31).toUInt32).toInt32).toInt8.toInt32))) h32 n0 z8 Fl34 Va35 Ex33 S8_COMPACT_STRINGS Od8 nc6 Fl38) e37 (Ls := #[.val (.int p1), .val (.int p2), .val (.int p3), .val (.int p4), .val (.int p5), .val (.int p6), .val (.int x1), .val (.int x2), .val (.int x3), .val (.int x4), .val (.int 4), .val (.ref b5), .val (.ref a32), .val (.ref b5)]) (by rw [hml]; rfl) (argsL := []) (rest := []) (lenOf pd_16 rfl) (hb hby at_206) (W := 0)
  obtain ⟨rfl, Nq39, e39⟩ := hQ39
  have N39 := Fr.app N37 Nq39
  obtain ⟨x40, ex40⟩ : ∃ z, z = (x31 >>> ((nar .byte (nar .byte (nar .byte (((((4 : Int32) - (if (255 : Int32) < (nar .char x1) then (8 : Int32) else (if (255 : Int32) < (nar .char x2) then (8 : Int32) else (if (255 : Int32) < (nar .char x3) then (8 : Int32) else (if (255 : Int32) < (nar .char x4) then (8 : Int32) else (4 : Int32)))))).toUInt32 >>> ((31 : Int32) &&& 31).toUInt32).toInt32).toInt8.toInt32)))) &&& 31)) := ⟨_, rfl⟩
  have cd41 : ((if (255 : Int32) < (nar .char ((p2 &&& (65535 : Int32)).toUInt32.toUInt16.toUInt32.toInt32)) then (8 : Int32) else (if (255 : Int32) < (nar .char ((p3 &&& (65535 : Int32)).toUInt32.toUInt16.toUInt32.toInt32)) then (8 : Int32) else (if (255 : Int32) < (nar .char ((p4 &&& (65535 : Int32)).toUInt32.toUInt16.toUInt32.toInt32)) then (8 : Int32) else (if (255 : Int32) < (nar .char ((p5 &&& (65535 : Int32)).toUInt32.toUInt16.toUInt32.toInt32)) then (8 : Int32) else (4 : Int32))))) >>> ((nar .byte (nar .byte (nar .byte (((((4 : Int32) - (if (255 : Int32) < (nar .char ((p2 &&& (65535 : Int32)).toUInt32.toUInt16.toUInt32.toInt32)) then (8 : Int32) else (if (255 : Int32) < (nar .char ((p3 &&& (65535 : Int32)).toUInt32.toUInt16.toUInt32.toInt32)) then (8 : Int32) else (if (255 : Int32) < (nar .char ((p4 &&& (65535 : Int32)).toUInt32.toUInt16.toUInt32.toInt32)) then (8 : Int32) else (if (255 : Int32) < (nar .char ((p5 &&& (65535 : Int32)).toUInt32.toUInt16.toUInt32.toInt32)) then (8 : Int32) else (4 : Int32)))))).toUInt32 >>> ((31 : Int32) &&& 31).toUInt32).toInt32).toInt8.toInt32)))) &&& 31)) = (4 : Int32) := (by by_cases hi0 : (255 : Int32) < (nar .char ((p2 &&& (65535 : Int32)).toUInt32.toUInt16.toUInt32.toInt32)); exact (by simp only [if_pos hi0]; decide); exact (by simp only [if_neg hi0]; by_cases hi1 : (255 : Int32) < (nar .char ((p3 &&& (65535 : Int32)).toUInt32.toUInt16.toUInt32.toInt32)); exact (by simp only [if_pos hi1]; decide); exact (by simp only [if_neg hi1]; by_cases hi2 : (255 : Int32) < (nar .char ((p4 &&& (65535 : Int32)).toUInt32.toUInt16.toUInt32.toInt32)); exact (by simp only [if_pos hi2]; decide); exact (by simp only [if_neg hi2]; by_cases hi3 : (255 : Int32) < (nar .char ((p5 &&& (65535 : Int32)).toUInt32.toUInt16.toUInt32.toInt32)); exact (by simp only [if_pos hi3]; decide); exact (by simp only [if_neg hi3]; decide)))))
  refine ⟨T39, _, _, _, (some (.int 1)), T32.vm, kn32, X39, Sn32, (by rw [e39]; exact Nat.le_trans kl32 (Nat.le_refl _)), nofun, by decide, by decide, ?_, fun fs hr => ?_⟩
  · show Q0 n0 _ T39.heap _
    rw [e39]
    subst ex40
    subst ex31
    subst ex4
    subst ex3
    subst ex2
    subst ex1
    exact ⟨rfl, N39⟩
  · refine XS.iloadN X0.here hx rfl (hb hby at_0) rfl ?_
    refine X0.ldcInt hx hown (mvT hZ (w_0 hw)) (g := (mkF m 1 #[.val (.int p1), .val (.int p2), .val (.int p3), .val (.int p4), .val (.int p5), .val (.int p6), .unset, .unset, .unset, .unset, .unset, .unset, .unset, .unset] [(.int p2)])) rfl (hb hby at_1) _ ?_
    refine XS.iand X0.here hx rfl (hb hby at_3) rfl ?_
    refine XS.i2c X0.here hx rfl (hb hby at_4) rfl ?_
    show Steps p.tables e below (s₁.setTop (mkF m 5 #[.val (.int p1), .val (.int p2), .val (.int p3), .val (.int p4), .val (.int p5), .val (.int p6), .unset, .unset, .unset, .unset, .unset, .unset, .unset, .unset] [(.int ((p2 &&& (65535 : Int32)).toUInt32.toUInt16.toUInt32.toInt32))])) _
    rw [← ex1]
    refine XS.istore X0.here hx rfl (hb hby at_5) rfl (l' := #[.val (.int p1), .val (.int p2), .val (.int p3), .val (.int p4), .val (.int p5), .val (.int p6), .val (.int x1), .unset, .unset, .unset, .unset, .unset, .unset, .unset]) rfl ?_
    refine XS.iloadN X0.here hx rfl (hb hby at_7) rfl ?_
    refine X0.ldcInt hx hown (mvT hZ (w_0 hw)) (g := (mkF m 8 #[.val (.int p1), .val (.int p2), .val (.int p3), .val (.int p4), .val (.int p5), .val (.int p6), .val (.int x1), .unset, .unset, .unset, .unset, .unset, .unset, .unset] [(.int p3)])) rfl (hb hby at_8) _ ?_
    refine XS.iand X0.here hx rfl (hb hby at_10) rfl ?_
    refine XS.i2c X0.here hx rfl (hb hby at_11) rfl ?_
    show Steps p.tables e below (s₁.setTop (mkF m 12 #[.val (.int p1), .val (.int p2), .val (.int p3), .val (.int p4), .val (.int p5), .val (.int p6), .val (.int x1), .unset, .unset, .unset, .unset, .unset, .unset, .unset] [(.int ((p3 &&& (65535 : Int32)).toUInt32.toUInt16.toUInt32.toInt32))])) _
    rw [← ex2]
    refine XS.istore X0.here hx rfl (hb hby at_12) rfl (l' := #[.val (.int p1), .val (.int p2), .val (.int p3), .val (.int p4), .val (.int p5), .val (.int p6), .val (.int x1), .val (.int x2), .unset, .unset, .unset, .unset, .unset, .unset]) rfl ?_
    refine XS.iloadN X0.here hx rfl (hb hby at_14) rfl ?_
    refine X0.ldcInt hx hown (mvT hZ (w_0 hw)) (g := (mkF m 15 #[.val (.int p1), .val (.int p2), .val (.int p3), .val (.int p4), .val (.int p5), .val (.int p6), .val (.int x1), .val (.int x2), .unset, .unset, .unset, .unset, .unset, .unset] [(.int p4)])) rfl (hb hby at_15) _ ?_
    refine XS.iand X0.here hx rfl (hb hby at_17) rfl ?_
    refine XS.i2c X0.here hx rfl (hb hby at_18) rfl ?_
    show Steps p.tables e below (s₁.setTop (mkF m 19 #[.val (.int p1), .val (.int p2), .val (.int p3), .val (.int p4), .val (.int p5), .val (.int p6), .val (.int x1), .val (.int x2), .unset, .unset, .unset, .unset, .unset, .unset] [(.int ((p4 &&& (65535 : Int32)).toUInt32.toUInt16.toUInt32.toInt32))])) _
    rw [← ex3]
    refine XS.istore X0.here hx rfl (hb hby at_19) rfl (l' := #[.val (.int p1), .val (.int p2), .val (.int p3), .val (.int p4), .val (.int p5), .val (.int p6), .val (.int x1), .val (.int x2), .val (.int x3), .unset, .unset, .unset, .unset, .unset]) rfl ?_
    refine XS.iload X0.here hx rfl (hb hby at_21) rfl ?_
    refine X0.ldcInt hx hown (mvT hZ (w_0 hw)) (g := (mkF m 23 #[.val (.int p1), .val (.int p2), .val (.int p3), .val (.int p4), .val (.int p5), .val (.int p6), .val (.int x1), .val (.int x2), .val (.int x3), .unset, .unset, .unset, .unset, .unset] [(.int p5)])) rfl (hb hby at_23) _ ?_
    refine XS.iand X0.here hx rfl (hb hby at_25) rfl ?_
    refine XS.i2c X0.here hx rfl (hb hby at_26) rfl ?_
    show Steps p.tables e below (s₁.setTop (mkF m 27 #[.val (.int p1), .val (.int p2), .val (.int p3), .val (.int p4), .val (.int p5), .val (.int p6), .val (.int x1), .val (.int x2), .val (.int x3), .unset, .unset, .unset, .unset, .unset] [(.int ((p5 &&& (65535 : Int32)).toUInt32.toUInt16.toUInt32.toInt32))])) _
    rw [← ex4]
    refine XS.istore X0.here hx rfl (hb hby at_27) rfl (l' := #[.val (.int p1), .val (.int p2), .val (.int p3), .val (.int p4), .val (.int p5), .val (.int p6), .val (.int x1), .val (.int x2), .val (.int x3), .val (.int x4), .unset, .unset, .unset, .unset]) rfl ?_
    refine XS.iloadN X0.here hx rfl (hb hby at_29) rfl ?_
    refine XS.iconst X0.here hx rfl (hb hby at_30) ?_
    refine XS.iand X0.here hx rfl (hb hby at_31) rfl ?_
    show Steps p.tables e below (s₁.setTop (mkF m 32 #[.val (.int p1), .val (.int p2), .val (.int p3), .val (.int p4), .val (.int p5), .val (.int p6), .val (.int x1), .val (.int x2), .val (.int x3), .val (.int x4), .unset, .unset, .unset, .unset] [(.int (p1 &&& (3 : Int32)))])) _
    rw [hk]
    refine XS.iconst X0.here hx rfl (hb hby at_32) ?_
    refine XS.iadd X0.here hx rfl (hb hby at_33) rfl ?_
    refine XS.istore X0.here hx rfl (hb hby at_34) rfl (l' := #[.val (.int p1), .val (.int p2), .val (.int p3), .val (.int p4), .val (.int p5), .val (.int p6), .val (.int x1), .val (.int x2), .val (.int x3), .val (.int x4), .val (.int 4), .unset, .unset, .unset]) rfl ?_
    refine XS.iload X0.here hx rfl (hb hby at_36) rfl ?_
    refine XS.iconst X0.here hx rfl (hb hby at_38) ?_
    refine XS.icmpYes X0.here hx rfl (pc0 := 39) (pc' := 62) rfl (hb hby at_39) rfl (feq ((by decide : ¬ ((4 : Int32) = (1 : Int32))) : ¬ ((4 : Int32) = (1 : Int32)))).2 (by decide) (by decide) ?_
    refine XS.iload X0.here hx rfl (hb hby at_62) rfl ?_
    refine XS.iconst X0.here hx rfl (hb hby at_64) ?_
    refine XS.icmpYes X0.here hx rfl (pc0 := 65) (pc' := 93) rfl (hb hby at_65) rfl (feq ((by decide : ¬ ((4 : Int32) = (2 : Int32))) : ¬ ((4 : Int32) = (2 : Int32)))).2 (by decide) (by decide) ?_
    refine XS.iload X0.here hx rfl (hb hby at_93) rfl ?_
    refine XS.iconst X0.here hx rfl (hb hby at_95) ?_
    show Steps p.tables e below (s₁.setTop (mkF m 96 #[.val (.int p1), .val (.int p2), .val (.int p3), .val (.int p4), .val (.int p5), .val (.int p6), .val (.int x1), .val (.int x2), .val (.int x3), .val (.int x4), .val (.int 4), .unset, .unset, .unset] [(.int 3), (.int 4)])) _
    refine XS.icmpYes X0.here hx rfl (pc0 := 96) (pc' := 129) rfl (hb hby at_96) rfl (feq ((by decide : ¬ ((4 : Int32) = (3 : Int32))) : ¬ ((4 : Int32) = (3 : Int32)))).2 (by decide) (by decide) ?_
    refine st5 _ ?_
    refine XS.dup X5.here hx rfl (hb hby at_132) rfl rfl ?_
    refine XS.iconst X5.here hx rfl (hb hby at_133) ?_
    refine st6 _ ?_
    refine XS.dup X6.here hx rfl (hb hby at_136) rfl rfl ?_
    refine XS.iconst X6.here hx rfl (hb hby at_137) ?_
    refine XS.iload X6.here hx rfl (hb hby at_138) rfl ?_
    refine st9 _ ?_
    refine XS.dup X9.here hx rfl (hb hby at_141) rfl rfl ?_
    refine XS.iconst X9.here hx rfl (hb hby at_142) ?_
    refine XS.iload X9.here hx rfl (hb hby at_143) rfl ?_
    show Steps p.tables e below (T9.setTop (mkF m 145 #[.val (.int p1), .val (.int p2), .val (.int p3), .val (.int p4), .val (.int p5), .val (.int p6), .val (.int x1), .val (.int x2), .val (.int x3), .val (.int x4), .val (.int 4), .unset, .unset, .unset] [(.int x2), (.int 1), (.ref b6), (.ref b6), (.ref b5), (.ref b5)])) _
    refine st12 _ ?_
    refine XS.dup X12.here hx rfl (hb hby at_146) rfl rfl ?_
    refine XS.iconst X12.here hx rfl (hb hby at_147) ?_
    refine XS.iload X12.here hx rfl (hb hby at_148) rfl ?_
    refine st15 _ ?_
    refine XS.dup X15.here hx rfl (hb hby at_151) rfl rfl ?_
    refine XS.iconst X15.here hx rfl (hb hby at_152) ?_
    refine XS.iload X15.here hx rfl (hb hby at_153) rfl ?_
    refine st18 _ ?_
    refine st30 _ ?_
    refine XS.astore X30.here hx rfl (hb hby at_159) rfl rfl (l' := #[.val (.int p1), .val (.int p2), .val (.int p3), .val (.int p4), .val (.int p5), .val (.int p6), .val (.int x1), .val (.int x2), .val (.int x3), .val (.int x4), .val (.int 4), .val (.ref b5), .unset, .unset]) rfl ?_
    refine XS.iload X30.here hx rfl (hb hby at_161) rfl ?_
    show Steps p.tables e below (T30.setTop (mkF m 163 #[.val (.int p1), .val (.int p2), .val (.int p3), .val (.int p4), .val (.int p5), .val (.int p6), .val (.int x1), .val (.int x2), .val (.int x3), .val (.int x4), .val (.int 4), .val (.ref b5), .unset, .unset] [(.int p6)])) _
    refine XS.iconst X30.here hx rfl (hb hby at_163) ?_
    refine XS.iand X30.here hx rfl (hb hby at_164) rfl ?_
    refine XS.ifNo X30.here hx rfl (hb hby at_165) rfl ((if0 _ _).trans (feq (cc1 : ¬ ((p6 &&& (1 : Int32)) = (0 : Int32)))).1) ?_
    refine st32 _ ?_
    refine XS.astore X32.here hx rfl (hb hby at_170) rfl rfl (l' := #[.val (.int p1), .val (.int p2), .val (.int p3), .val (.int p4), .val (.int p5), .val (.int p6), .val (.int x1), .val (.int x2), .val (.int x3), .val (.int x4), .val (.int 4), .val (.ref b5), .val (.ref a32), .unset]) rfl ?_
    refine XS.goto X32.here hx rfl (pc0 := 172) (pc' := 188) rfl (hb hby at_172) (by decide) (by decide) ?_
    refine XS.aload X32.here hx rfl (hb hby at_188) rfl rfl ?_
    refine XS.aload X32.here hx rfl (hb hby at_190) rfl rfl ?_
    refine st37 _ ?_
    refine XS.astore X37.here hx rfl (hb hby at_195) rfl rfl (l' := #[.val (.int p1), .val (.int p2), .val (.int p3), .val (.int p4), .val (.int p5), .val (.int p6), .val (.int x1), .val (.int x2), .val (.int x3), .val (.int x4), .val (.int 4), .val (.ref b5), .val (.ref a32), .val (.ref b5)]) rfl ?_
    refine XS.aload X37.here hx rfl (hb hby at_197) rfl rfl ?_
    refine XS.aload X37.here hx rfl (hb hby at_199) rfl rfl ?_
    show Steps p.tables e below (T37.setTop (mkF m 201 #[.val (.int p1), .val (.int p2), .val (.int p3), .val (.int p4), .val (.int p5), .val (.int p6), .val (.int x1), .val (.int x2), .val (.int x3), .val (.int x4), .val (.int 4), .val (.ref b5), .val (.ref a32), .val (.ref b5)] [(.ref b5), (.ref b5)])) _
    refine Jvm.RoadKit.acmp (g := (mkF m 201 #[.val (.int p1), .val (.int p2), .val (.int p3), .val (.int p4), .val (.int p5), .val (.int p6), .val (.int x1), .val (.int x2), .val (.int x3), .val (.int x4), .val (.int 4), .val (.ref b5), .val (.ref a32), .val (.ref b5)] [(.ref b5), (.ref b5)])) X37 hx rfl rfl rfl (pc0 := 201) (pc' := 204) (same := true) rfl (hb hby at_201) rfl (decide_eq_true rfl) (by decide) (by decide) ?_
    refine XS.aload X37.here hx rfl (hb hby at_204) rfl rfl ?_
    refine st39 _ ?_
    show Steps p.tables e below (T39.setTop (mkF m 209 #[.val (.int p1), .val (.int p2), .val (.int p3), .val (.int p4), .val (.int p5), .val (.int p6), .val (.int x1), .val (.int x2), .val (.int x3), .val (.int x4), .val (.int 4), .val (.ref b5), .val (.ref a32), .val (.ref b5)] [(.int (x31 >>> ((nar .byte (nar .byte (nar .byte (((((4 : Int32) - (if (255 : Int32) < (nar .char x1) then (8 : Int32) else (if (255 : Int32) < (nar .char x2) then (8 : Int32) else (if (255 : Int32) < (nar .char x3) then (8 : Int32) else (if (255 : Int32) < (nar .char x4) then (8 : Int32) else (4 : Int32)))))).toUInt32 >>> ((31 : Int32) &&& 31).toUInt32).toInt32).toInt8.toInt32)))) &&& 31)))])) _
    rw [← ex40]
    refine XS.iload X39.here hx rfl (hb hby at_209) rfl ?_
    refine XS.icmpNo X39.here hx rfl (hb hby at_211) rfl (teq ((by rw [ex40, ex31, ex4, ex3, ex2, ex1]; exact cd41) : x40 = (4 : Int32))).2 ?_
    refine XS.iconst X39.here hx rfl (hb hby at_214) ?_
    refine XS.goto X39.here hx rfl (pc0 := 215) (pc' := 219) rfl (hb hby at_215) (by decide) (by decide) ?_
    exact retN X39 hx (t := .boolean) hret (by simp) (hb hby at_219) hr
theorem own_k4 (p1 : Int32) : (p1 &&& (3 : Int32)) = (0 : Int32) ∨ (p1 &&& (3 : Int32)) = (1 : Int32) ∨ (p1 &&& (3 : Int32)) = (2 : Int32) ∨ (p1 &&& (3 : Int32)) = (3 : Int32) := by
  have h2 := own_mask p1 (3 : Int32) 2 (by decide) (by decide) 4 (by decide)
  have h3 : ((p1 &&& (3 : Int32))).toInt = 0 ∨ ((p1 &&& (3 : Int32))).toInt = 1 ∨ ((p1 &&& (3 : Int32))).toInt = 2 ∨ ((p1 &&& (3 : Int32))).toInt = 3 := by omega
  rcases h3 with h | h | h | h
  · exact Or.inl (Int32.toInt_inj.mp h)
  · exact Or.inr (Or.inl (Int32.toInt_inj.mp h))
  · exact Or.inr (Or.inr (Or.inl (Int32.toInt_inj.mp h)))
  · exact Or.inr (Or.inr (Or.inr (Int32.toInt_inj.mp h)))
theorem rm0 (l : Launch) (Z : State) (a0 : Array Value) (hw : ∀ d ∈ tables_1, d.before a0 Z = true) (ws : List Jvm.Cond) (p1 : Int32) (p2 : Int32) (p3 : Int32) (p4 : Int32) (p5 : Int32) (p6 : Int32) (sr1 : Value) (si2 : Int32) (h0 : Heap) (n0 : Nat) (Z0 : n0 ≤ h0.size) (Od0 : Old Z n0 h0) (R_sr1 : sr1.isRef = true) (nc6 : ¬ (si2 = (0 : Int32))) (S7_SIOOBE_FORMATTER : Sta Z Z.heap "jdk/internal/util/Preconditions" "SIOOBE_FORMATTER" "Ljava/util/function/BiFunction;" sr1) (S8_COMPACT_STRINGS : Sta Z Z.heap "java/lang/String" "COMPACT_STRINGS" "Z" (.int si2)) (S9__assertionsDisabled : Sta Z Z.heap "java/lang/StringUTF16" "$assertionsDisabled" "Z" (.int 1)) (S10_HI_BYTE_SHIFT : Sta Z Z.heap "java/lang/StringUTF16" "HI_BYTE_SHIFT" "I" (.int 0)) (S11_LO_BYTE_SHIFT : Sta Z Z.heap "java/lang/StringUTF16" "LO_BYTE_SHIFT" "I" (.int 8)) :
    OwnMetW l Z x code maxLocals ret ws room_1 #[(.int p1), (.int p2), (.int p3), (.int p4), (.int p5), (.int p6)] h0 (Q0 n0) := by
  rcases own_k4 p1 with hk | hk | hk | hk
  · by_cases cc1 : (p6 &&& (1 : Int32)) = (0 : Int32)
    · exact own_wide (rm0_0 l Z a0 hw ws p1 p2 p3 p4 p5 p6 sr1 si2 h0 n0 Z0 Od0 R_sr1 nc6 S7_SIOOBE_FORMATTER S8_COMPACT_STRINGS S9__assertionsDisabled S10_HI_BYTE_SHIFT S11_LO_BYTE_SHIFT hk cc1)
    · exact rm0_1 l Z a0 hw ws p1 p2 p3 p4 p5 p6 sr1 si2 h0 n0 Z0 Od0 R_sr1 nc6 S7_SIOOBE_FORMATTER S8_COMPACT_STRINGS S9__assertionsDisabled S10_HI_BYTE_SHIFT S11_LO_BYTE_SHIFT hk cc1
  · by_cases cc1 : (p6 &&& (1 : Int32)) = (0 : Int32)
    · exact own_wide (rm0_2 l Z a0 hw ws p1 p2 p3 p4 p5 p6 sr1 si2 h0 n0 Z0 Od0 R_sr1 nc6 S7_SIOOBE_FORMATTER S8_COMPACT_STRINGS S9__assertionsDisabled S10_HI_BYTE_SHIFT S11_LO_BYTE_SHIFT hk cc1)
    · exact rm0_3 l Z a0 hw ws p1 p2 p3 p4 p5 p6 sr1 si2 h0 n0 Z0 Od0 R_sr1 nc6 S7_SIOOBE_FORMATTER S8_COMPACT_STRINGS S9__assertionsDisabled S10_HI_BYTE_SHIFT S11_LO_BYTE_SHIFT hk cc1
  · by_cases cc1 : (p6 &&& (1 : Int32)) = (0 : Int32)
    · exact own_wide (rm0_4 l Z a0 hw ws p1 p2 p3 p4 p5 p6 sr1 si2 h0 n0 Z0 Od0 R_sr1 nc6 S7_SIOOBE_FORMATTER S8_COMPACT_STRINGS S9__assertionsDisabled S10_HI_BYTE_SHIFT S11_LO_BYTE_SHIFT hk cc1)
    · exact rm0_5 l Z a0 hw ws p1 p2 p3 p4 p5 p6 sr1 si2 h0 n0 Z0 Od0 R_sr1 nc6 S7_SIOOBE_FORMATTER S8_COMPACT_STRINGS S9__assertionsDisabled S10_HI_BYTE_SHIFT S11_LO_BYTE_SHIFT hk cc1
  · by_cases cc1 : (p6 &&& (1 : Int32)) = (0 : Int32)
    · exact own_wide (rm0_6 l Z a0 hw ws p1 p2 p3 p4 p5 p6 sr1 si2 h0 n0 Z0 Od0 R_sr1 nc6 S7_SIOOBE_FORMATTER S8_COMPACT_STRINGS S9__assertionsDisabled S10_HI_BYTE_SHIFT S11_LO_BYTE_SHIFT hk cc1)
    · exact rm0_7 l Z a0 hw ws p1 p2 p3 p4 p5 p6 sr1 si2 h0 n0 Z0 Od0 R_sr1 nc6 S7_SIOOBE_FORMATTER S8_COMPACT_STRINGS S9__assertionsDisabled S10_HI_BYTE_SHIFT S11_LO_BYTE_SHIFT hk cc1
theorem comes_1 {Post : Tables → Env → Array Value → State → Outcome → State → Prop} (hpost : ∀ tb e args s v u, (limb_1_1.after args s (.returned v) u = true ∧ limb_1_2.after args s (.returned v) u = true ∧ True) → ReturnedEndW s (.returned v) u (Jvm.fieldLocs frame_1_writes args s ++ Jvm.arrayLocs frame_1_arrays args s ++ Jvm.staticLocs frame_1_statics s) 24 1152 → Post tb e args s (.returned v) u) :
    ArmFor flags0 classFile x code maxLocals ret World_1 tables_1 room_1 Calls_1 rest_1 Pre_1 Post := by
  intro l hfl _ _ p e ha hc hk s m args below hf hA hF happ hP
  obtain ⟨hcalls, hrest, hpre⟩ := hP
  obtain ⟨-, -, -, hnamed, -, -, -, hat⟩ := (Spec.applies_iff hf).mp happ
  obtain ⟨hg, hn⟩ := and_e (Cond.before_iff.mp (show (Jvm.Cond.and given_1 narrow_1).before args s = true from hpre))
  obtain ⟨hg0, hr0⟩ := and_e hg
  obtain ⟨hg1, hr1⟩ := and_e hr0
  obtain ⟨hg2, hr2⟩ := and_e hr1
  obtain ⟨hg3, hr3⟩ := and_e hr2
  obtain ⟨hg4, hr4⟩ := and_e hr3
  obtain ⟨hg5, hr5⟩ := and_e hr4
  obtain ⟨w0, w1, w2, w3, w4, w5, rfl⟩ : ∃ w0 w1 w2 w3 w4 w5 : Value, args = #[w0, w1, w2, w3, w4, w5] := by
    have hs : args.size = 6 := by simpa [Cond.value, given_1] using hg0
    obtain ⟨L⟩ := args
    match L, hs with
    | [w0, w1, w2, w3, w4, w5], _ => exact ⟨w0, w1, w2, w3, w4, w5, rfl⟩
  have hw := fun d (hd : d ∈ tables_1) => atoms_spec (ws := Jvm.Cond.code x code maxLocals ret :: tables_1) hat d (List.mem_cons_of_mem _ hd)
  have hfit : Fit s := fun {y c} hc i hi => by
    obtain ⟨ha, rfl⟩ := Array.getElem?_eq_some_iff.mp hc
    have q := List.all_eq_true.mp ((Array.all_eq_true_iff_forall_mem.mp hF) _ (Array.getElem_mem ha)) i (List.mem_range.mpr hi)
    simpa [Array.getElem?_eq_getElem hi] using q
  obtain ⟨hsets, hown0⟩ := atoms_of _ (rest_1_c_eq ▸ (show rest_1_c.before _ s = true from hrest))
  have hro := Cond.before_iff.mp hown0
  obtain ⟨p1, ei0⟩ := is_v hg1
  obtain rfl : w0 = (.int p1) := Option.some.inj ei0
  obtain ⟨p2, ei1⟩ := is_v hg2
  obtain rfl : w1 = (.int p2) := Option.some.inj ei1
  obtain ⟨p3, ei2⟩ := is_v hg3
  obtain rfl : w2 = (.int p3) := Option.some.inj ei2
  obtain ⟨p4, ei3⟩ := is_v hg4
  obtain rfl : w3 = (.int p4) := Option.some.inj ei3
  obtain ⟨p5, ei4⟩ := is_v hg5
  obtain rfl : w4 = (.int p5) := Option.some.inj ei4
  obtain ⟨p6, ei5⟩ := is_v hr5
  obtain rfl : w5 = (.int p6) := Option.some.inj ei5
  obtain ⟨sr1, ev_sr1, R_sr1⟩ := isR_v (Cond.before_iff.mp (hsets _ (List.mem_of_getElem? (i := 8) rfl)))
  obtain ⟨si2, ev_si2⟩ := is_v (Cond.before_iff.mp (hsets _ (List.mem_of_getElem? (i := 1) rfl)))
  have ev3 := own_eqI (Cond.before_iff.mp (hsets _ (List.mem_of_getElem? (i := 12) rfl)))
  have ev4 := own_eqI (Cond.before_iff.mp (hsets _ (List.mem_of_getElem? (i := 15) rfl)))
  have ev5 := own_eqI (Cond.before_iff.mp (hsets _ (List.mem_of_getElem? (i := 18) rfl)))
  have nc6 : ¬ (si2 = (0 : Int32)) := gotF (Cond.eq_ints ev_si2 (Term.int_eval (0))) (not_v (Cond.before_iff.mp (hsets _ (List.mem_of_getElem? (i := 2) rfl))))
  have S7_SIOOBE_FORMATTER : Sta s s.heap "jdk/internal/util/Preconditions" "SIOOBE_FORMATTER" "Ljava/util/function/BiFunction;" sr1 := Sta.start ev_sr1 (Or.inl (hsets _ (List.mem_of_getElem? (i := 7) rfl)))
  have S8_COMPACT_STRINGS : Sta s s.heap "java/lang/String" "COMPACT_STRINGS" "Z" (.int si2) := Sta.start ev_si2 (Or.inl (hsets _ (List.mem_of_getElem? (i := 0) rfl)))
  have S9__assertionsDisabled : Sta s s.heap "java/lang/StringUTF16" "$assertionsDisabled" "Z" (.int 1) := Sta.start ev3 (Or.inl (hsets _ (List.mem_of_getElem? (i := 11) rfl)))
  have S10_HI_BYTE_SHIFT : Sta s s.heap "java/lang/StringUTF16" "HI_BYTE_SHIFT" "I" (.int 0) := Sta.start ev4 (Or.inl (hsets _ (List.mem_of_getElem? (i := 14) rfl)))
  have S11_LO_BYTE_SHIFT : Sta s s.heap "java/lang/StringUTF16" "LO_BYTE_SHIFT" "I" (.int 8) := Sta.start ev5 (Or.inl (hsets _ (List.mem_of_getElem? (i := 17) rfl)))
  obtain ⟨n, o, h1, h2, h3, _, L, rfl, ⟨rfl, N⟩, hq⟩ := rm0 l s _ hw tables_1 p1 p2 p3 p4 p5 p6 sr1 si2 s.heap s.heap.size (Nat.le_refl _) (Old.start s) R_sr1 nc6 S7_SIOOBE_FORMATTER S8_COMPACT_STRINGS S9__assertionsDisabled S10_HI_BYTE_SHIFT S11_LO_BYTE_SHIFT p e ha hc hk s m _ below hf ((Spec.applies_iff_loose hf).mp happ).1 ⟨rfl, State.Warmed39.refl s, rfl, IB.start⟩ trivial
  refine ⟨n, _, h1, h2, h3, hpost _ _ _ _ _ _ ⟨Cond.after_iff.mpr rfl, Cond.after_iff.mpr (eq_i res_at (Term.int_eval (1)) rfl), trivial⟩ ⟨hq.1, hq.2.1, hq.2.2.1, (hq.2.2.2.sift fun y hy => Or.inr (N y hy)).mono (by decide) (by decide)⟩⟩
theorem main_1_1 : Claimed_1_1 := comes_1 fun _ _ _ _ _ _ h hF => ⟨h.1, hF⟩
theorem main_1_2 : Claimed_1_2 := comes_1 fun _ _ _ _ _ _ h hF => ⟨h.2.1, hF⟩
end Jvm.Pilot.@@N@@
namespace Jvm.Pilot.@@N@@
open Jvm Jvm.ClassFile Sem Op Lib Jvm.Free Jvm.Stand Jvm.Pilot.@@N@@.Jvm.D
/-! MADE BY PROGRAM (witnessworld.py) out of the Statement's table words and the real class files: 20 classes; the members and pool entries that the words name. The judged class is class 1, her method 1. -/
namespace start1
open Jvm.ClassFile
def u (s : String) : CpInfo := .utf8 (stringToUtf16 s)
/-- a pool by its gaps: so many unusable entries, then the entry; so many at the end -/
def gap : Nat → List CpInfo → List CpInfo
  | 0, r => r
  | n + 1, r => .unusable :: gap n r
def poolList (es : List (Nat × CpInfo)) (last : Nat) : List CpInfo := es.foldr (fun e r => gap e.1 (e.2 :: r)) (gap last [])
def pool (es : List (Nat × CpInfo)) (last : Nat) : Array CpInfo := ⟨poolList es last⟩
def fileOf (pool : Array CpInfo) (this : Nat) (attrs : Array Attribute := #[]) (ms : Array MethodInfo := #[]) (fl : Nat := 33) (sup : Nat := 0) (ifs : Array Nat := #[]) (fds : Array FieldInfo := #[]) : ClassFile where
  minorVersion := 0
  majorVersion := 65
  constantPool := pool
  accessFlags := fl
  thisClass := this
  superClass := sup
  interfaces := ifs
  fields := fds
  methods := ms
  attributes := attrs
def plain (name : String) (sup : Option ClassId) : Class where
  name := name
  kind := .ordinary
  loader := none
  accessFlags := 33
  super := sup
  interfaces := #[]
  cf := none
  fields := #[]
  methods := #[]
  instanceTypes := #[]
  staticTypes := #[]
  resolved := #[]
  callSites := []
  init := .initialized
  statics := none
  mirror := none

def pool0 : Array CpInfo := pool [(5, u "<init>"), (0, u "()V"), (1, .class_ 10), (1, u "java/lang/Object")] 113

def k0c0 : Code := { maxStack := 0, maxLocals := 1, code := object_method_1_code, exceptionTable := #[], attributes := #[] }
def k0m0 : Method := { name := "<init>", desc := "()V", sig := { parameters := [], returnType := none }, accessFlags := 1, code := some k0c0 }
/-- java/lang/Object -/
def k0 : Class := { plain "java/lang/Object" none with
  accessFlags := 33
  interfaces := #[]
  cf := some (fileOf pool0 8 #[] #[{ accessFlags := 1, nameIndex := 5, descriptorIndex := 6, attributes := #[] }] 33 0 #[] #[])
  fields := #[]
  methods := #[k0m0]
  instanceTypes := #[]
  staticTypes := #[]
  resolved := Array.replicate 124 none
  statics := none }

def pool1 : Array CpInfo := pool [(2, .class_ 4), (1, u "java/lang/Object"), (0, u "<init>"), (0, u "()V"), (0, .integer 65535), (0, .class_ 9), (0, u "java/lang/String"), (0, .methodref 8 11), (0, .nameAndType 5 12), (0, u "([C)V"), (0, .string 14), (0, u ""), (0, .methodref 8 16), (0, .nameAndType 17 18), (0, u "valueOf"), (0, u "(C)Ljava/lang/String;"), (0, .methodref 20 21), (0, .class_ 22), (0, .nameAndType 23 24), (0, u "com/example/senret/senret/LineFields"), (0, u "requireNonEmpty"), (0, u "(Ljava/lang/String;Ljava/lang/String;)Ljava/lang/String;"), (0, .methodref 8 26), (0, .nameAndType 27 28), (0, u "length"), (0, u "()I"), (0, .class_ 30), (0, u "com/example/senret/senret/LineFieldsRequireNonEmptyPinLaw"), (2, u "law"), (0, u "(IIIIII)Z")] 6

def k1m0 : Method := { name := "<init>", desc := "()V", sig := { parameters := [], returnType := none }, accessFlags := 2, code := none }
def k1c1 : Code := { maxStack := 6, maxLocals := 14, code := code, exceptionTable := #[], attributes := #[] }
def k1m1 : Method := { name := "law", desc := "(IIIIII)Z", sig := { parameters := [.int, .int, .int, .int, .int, .int], returnType := some .boolean }, accessFlags := 9, code := some k1c1 }
/-- com/example/senret/senret/LineFieldsRequireNonEmptyPinLaw -/
def k1 : Class := { plain "com/example/senret/senret/LineFieldsRequireNonEmptyPinLaw" (some 0) with
  accessFlags := 49
  interfaces := #[]
  cf := some (fileOf pool1 29 #[] #[{ accessFlags := 2, nameIndex := 5, descriptorIndex := 6, attributes := #[] }, { accessFlags := 9, nameIndex := 33, descriptorIndex := 34, attributes := #[] }] 49 2 #[] #[])
  fields := #[]
  methods := #[k1m0, k1m1]
  instanceTypes := #[]
  staticTypes := #[]
  resolved := Array.replicate 41 none
  statics := none }

def pool2 : Array CpInfo := pool [(1, .class_ 2), (0, u "java/io/Serializable"), (0, .class_ 4), (0, u "java/lang/Object")] 2

/-- java/io/Serializable -/
def k2 : Class := { plain "java/io/Serializable" (some 0) with
  accessFlags := 1537
  interfaces := #[]
  cf := some (fileOf pool2 1 #[] #[] 1537 3 #[] #[])
  fields := #[]
  methods := #[]
  instanceTypes := #[]
  staticTypes := #[]
  resolved := Array.replicate 7 none
  statics := none }

def pool3 : Array CpInfo := pool [(1, .class_ 2), (0, u "java/lang/Comparable"), (0, .class_ 4), (0, u "java/lang/Object")] 7

/-- java/lang/Comparable -/
def k3 : Class := { plain "java/lang/Comparable" (some 0) with
  accessFlags := 1537
  interfaces := #[]
  cf := some (fileOf pool3 1 #[] #[] 1537 3 #[] #[])
  fields := #[]
  methods := #[]
  instanceTypes := #[]
  staticTypes := #[]
  resolved := Array.replicate 12 none
  statics := none }

def pool4 : Array CpInfo := pool [(2, .class_ 4), (1, u "java/lang/CharSequence"), (42, .class_ 48), (0, u "java/lang/CharSequence$1CodePointIterator"), (10, .class_ 60), (0, u "java/lang/CharSequence$1CharIterator"), (5, .class_ 67), (0, u "java/lang/Object")] 63

/-- java/lang/CharSequence -/
def k4 : Class := { plain "java/lang/CharSequence" (some 0) with
  accessFlags := 1537
  interfaces := #[]
  cf := some (fileOf pool4 2 #[.nestMembers #[47, 59]] #[] 1537 66 #[] #[])
  fields := #[]
  methods := #[]
  instanceTypes := #[]
  staticTypes := #[]
  resolved := Array.replicate 131 none
  statics := none }

def pool5 : Array CpInfo := pool [(1, .class_ 2), (0, u "java/lang/constant/Constable"), (0, .class_ 4), (0, u "java/lang/Object")] 6

/-- java/lang/constant/Constable -/
def k5 : Class := { plain "java/lang/constant/Constable" (some 0) with
  accessFlags := 1537
  interfaces := #[]
  cf := some (fileOf pool5 1 #[] #[] 1537 3 #[] #[])
  fields := #[]
  methods := #[]
  instanceTypes := #[]
  staticTypes := #[]
  resolved := Array.replicate 11 none
  statics := none }

def pool6 : Array CpInfo := pool [(1, .class_ 2), (0, u "java/lang/constant/ConstantDesc"), (0, .class_ 4), (0, u "java/lang/Object")] 32

/-- java/lang/constant/ConstantDesc -/
def k6 : Class := { plain "java/lang/constant/ConstantDesc" (some 0) with
  accessFlags := 1537
  interfaces := #[]
  cf := some (fileOf pool6 1 #[] #[] 1537 3 #[] #[])
  fields := #[]
  methods := #[]
  instanceTypes := #[]
  staticTypes := #[]
  resolved := Array.replicate 37 none
  statics := none }

def pool7 : Array CpInfo := pool [(1, .methodref 2 3), (0, .class_ 4), (0, .nameAndType 5 6), (0, u "java/lang/Object"), (0, u "<init>"), (0, u "()V"), (2, .fieldref 10 11), (0, .class_ 12), (0, .nameAndType 13 14), (0, u "java/lang/String"), (0, u "value"), (0, u "[B"), (0, .fieldref 10 16), (0, .nameAndType 17 18), (0, u "coder"), (0, u "B"), (2, u "hash"), (0, u "I"), (2, u "hashIsZero"), (0, u "Z"), (0, .methodref 10 28), (0, .nameAndType 5 29), (0, u "([CIILjava/lang/Void;)V"), (8, .fieldref 10 39), (0, .nameAndType 40 26), (0, u "COMPACT_STRINGS"), (1, .class_ 44), (1, u "java/lang/StringUTF16"), (0, u "compress"), (1, .methodref 42 48), (0, .nameAndType 49 50), (0, u "coderFromArrayLen"), (0, u "([BI)B"), (2, u "toBytes"), (53, .class_ 109), (1, u "java/lang/StringLatin1"), (32, u "()Z"), (34, .methodref 42 178), (0, .nameAndType 45 179), (0, u "([CII)[B"), (29, .methodref 10 210), (0, .nameAndType 5 211), (0, u "([BB)V"), (122, u "()I"), (0, .methodref 10 336), (0, .nameAndType 17 337), (0, u "()B"), (31, u "(C)Z"), (137, u "length"), (67, .class_ 576), (0, u "java/lang/CharSequence"), (22, u "CASE_INSENSITIVE_ORDER"), (0, u "Ljava/util/Comparator;"), (91, u "isEmpty"), (89, u "valueOf"), (0, u "(C)Ljava/lang/String;"), (226, u "([C)V"), (4, .methodref 107 1016), (0, .nameAndType 1017 369), (0, u "canEncode"), (0, .methodref 107 1019), (0, .nameAndType 53 1020), (0, u "(C)[B"), (0, .methodref 42 1019), (79, u "serialPersistentFields"), (0, u "[Ljava/io/ObjectStreamField;"), (0, .class_ 1104), (0, u "java/lang/String$CaseInsensitiveComparator"), (1, .class_ 1107), (0, u "java/io/Serializable"), (0, .class_ 1109), (0, u "java/lang/Comparable"), (0, .class_ 1111), (0, u "java/lang/constant/Constable"), (0, .class_ 1113), (0, u "java/lang/constant/ConstantDesc"), (2, u "serialVersionUID"), (0, u "J"), (3, u "REPL"), (0, u "C"), (2, u "LATIN1"), (1, u "UTF16")] 323

def k7m0 : Method := { name := "<init>", desc := "()V", sig := { parameters := [], returnType := none }, accessFlags := 1, code := none }
def k7c1 : Code := { maxStack := 5, maxLocals := 2, code := jdk_42_method_3_code, exceptionTable := #[], attributes := #[] }
def k7m1 : Method := { name := "<init>", desc := "([C)V", sig := { parameters := [(.array .char)], returnType := none }, accessFlags := 1, code := some k7c1 }
def k7c2 : Code := { maxStack := 2, maxLocals := 1, code := jdk_42_method_54_code, exceptionTable := #[], attributes := #[] }
def k7m2 : Method := { name := "length", desc := "()I", sig := { parameters := [], returnType := some .int }, accessFlags := 1, code := some k7c2 }
def k7c3 : Code := { maxStack := 1, maxLocals := 1, code := jdk_42_method_55_code, exceptionTable := #[], attributes := #[] }
def k7m3 : Method := { name := "isEmpty", desc := "()Z", sig := { parameters := [], returnType := some .boolean }, accessFlags := 1, code := some k7c3 }
def k7c4 : Code := { maxStack := 4, maxLocals := 1, code := jdk_42_method_139_code, exceptionTable := #[], attributes := #[] }
def k7m4 : Method := { name := "valueOf", desc := "(C)Ljava/lang/String;", sig := { parameters := [.char], returnType := some (.object "java/lang/String") }, accessFlags := 9, code := some k7c4 }
def k7c5 : Code := { maxStack := 4, maxLocals := 6, code := jdk_42_method_149_code, exceptionTable := #[], attributes := #[] }
def k7m5 : Method := { name := "<init>", desc := "([CIILjava/lang/Void;)V", sig := { parameters := [(.array .char), .int, .int, (.object "java/lang/Void")], returnType := none }, accessFlags := 2, code := some k7c5 }
def k7c6 : Code := { maxStack := 2, maxLocals := 3, code := jdk_42_method_151_code, exceptionTable := #[], attributes := #[] }
def k7m6 : Method := { name := "<init>", desc := "([BB)V", sig := { parameters := [(.array .byte), .byte], returnType := none }, accessFlags := 0, code := some k7c6 }
def k7c7 : Code := { maxStack := 1, maxLocals := 1, code := jdk_42_method_152_code, exceptionTable := #[], attributes := #[] }
def k7m7 : Method := { name := "coder", desc := "()B", sig := { parameters := [], returnType := some .byte }, accessFlags := 0, code := some k7c7 }
/-- java/lang/String -/
def k7 : Class := { plain "java/lang/String" (some 0) with
  accessFlags := 49
  interfaces := #[2, 3, 4, 5, 6]
  cf := some (fileOf pool7 10 #[.nestMembers #[1103]] #[{ accessFlags := 1, nameIndex := 5, descriptorIndex := 6, attributes := #[] }, { accessFlags := 1, nameIndex := 5, descriptorIndex := 1010, attributes := #[] }, { accessFlags := 1, nameIndex := 507, descriptorIndex := 334, attributes := #[] }, { accessFlags := 1, nameIndex := 692, descriptorIndex := 142, attributes := #[] }, { accessFlags := 9, nameIndex := 782, descriptorIndex := 783, attributes := #[] }, { accessFlags := 2, nameIndex := 5, descriptorIndex := 29, attributes := #[] }, { accessFlags := 0, nameIndex := 5, descriptorIndex := 211, attributes := #[] }, { accessFlags := 0, nameIndex := 17, descriptorIndex := 337, attributes := #[] }] 49 2 #[1106, 1108, 575, 1110, 1112] #[{ accessFlags := 18, nameIndex := 13, descriptorIndex := 14, attributes := #[] }, { accessFlags := 18, nameIndex := 17, descriptorIndex := 18, attributes := #[] }, { accessFlags := 2, nameIndex := 21, descriptorIndex := 22, attributes := #[] }, { accessFlags := 2, nameIndex := 25, descriptorIndex := 26, attributes := #[] }, { accessFlags := 26, nameIndex := 1116, descriptorIndex := 1117, attributes := #[] }, { accessFlags := 24, nameIndex := 40, descriptorIndex := 26, attributes := #[] }, { accessFlags := 26, nameIndex := 1101, descriptorIndex := 1102, attributes := #[] }, { accessFlags := 26, nameIndex := 1121, descriptorIndex := 1122, attributes := #[] }, { accessFlags := 25, nameIndex := 599, descriptorIndex := 600, attributes := #[] }, { accessFlags := 24, nameIndex := 1125, descriptorIndex := 18, attributes := #[] }, { accessFlags := 24, nameIndex := 1127, descriptorIndex := 18, attributes := #[] }])
  fields := #[{ name := "value", type := (.array .byte), accessFlags := 18, slot := 0, constantValue := 0 }, { name := "coder", type := .byte, accessFlags := 18, slot := 1, constantValue := 0 }, { name := "hash", type := .int, accessFlags := 2, slot := 2, constantValue := 0 }, { name := "hashIsZero", type := .boolean, accessFlags := 2, slot := 3, constantValue := 0 }, { name := "serialVersionUID", type := .long, accessFlags := 26, slot := 0, constantValue := 0 }, { name := "COMPACT_STRINGS", type := .boolean, accessFlags := 24, slot := 1, constantValue := 0 }, { name := "serialPersistentFields", type := (.array (.object "java/io/ObjectStreamField")), accessFlags := 26, slot := 2, constantValue := 0 }, { name := "REPL", type := .char, accessFlags := 26, slot := 3, constantValue := 0 }, { name := "CASE_INSENSITIVE_ORDER", type := (.object "java/util/Comparator"), accessFlags := 25, slot := 4, constantValue := 0 }, { name := "LATIN1", type := .byte, accessFlags := 24, slot := 5, constantValue := 0 }, { name := "UTF16", type := .byte, accessFlags := 24, slot := 6, constantValue := 0 }]
  methods := #[k7m0, k7m1, k7m2, k7m3, k7m4, k7m5, k7m6, k7m7]
  instanceTypes := #[(.array .byte), .byte, .int, .boolean]
  staticTypes := #[.long, .boolean, (.array (.object "java/io/ObjectStreamField")), .char, (.object "java/util/Comparator"), .byte, .byte]
  resolved := Array.replicate 1451 none
  statics := some 0 }

def pool8 : Array CpInfo := pool [(6, .class_ 8), (1, u "java/lang/Object"), (0, u "<init>"), (0, u "()V"), (0, .methodref 12 13), (0, .class_ 14), (0, .nameAndType 15 16), (0, u "java/lang/StringUTF16"), (0, u "newBytesLength"), (0, u "(I)I"), (3, .integer 1073741823), (23, .fieldref 12 45), (0, .nameAndType 46 47), (0, u "$assertionsDisabled"), (0, u "Z"), (11, .fieldref 12 60), (0, .nameAndType 61 62), (0, u "HI_BYTE_SHIFT"), (0, u "I"), (0, .fieldref 12 64), (0, .nameAndType 65 62), (0, u "LO_BYTE_SHIFT"), (5, .methodref 12 72), (0, .nameAndType 73 74), (0, u "getChar"), (0, u "([BI)C"), (32, .methodref 12 108), (0, .nameAndType 109 110), (0, u "newBytesFor"), (0, u "(I)[B"), (0, .methodref 12 112), (0, .nameAndType 113 114), (0, u "putChar"), (0, u "([BII)V"), (0, .methodref 12 116), (0, .nameAndType 117 118), (0, u "compress"), (0, u "([CI[BII)I"), (0, .methodref 12 120), (0, .nameAndType 121 122), (0, u "toBytes"), (0, u "([CII)[B"), (138, u "coderFromArrayLen"), (0, u "([BI)B"), (106, .class_ 371), (1, u "java/lang/StringUTF16$LinesSpliterator"), (58, u "MAX_LENGTH"), (44, u "(C)[B"), (151, .class_ 628), (0, u "java/lang/StringUTF16$CodePointsSpliterator"), (0, .class_ 630), (0, u "java/lang/StringUTF16$CharsSpliterator")] 4

def k8m0 : Method := { name := "<init>", desc := "()V", sig := { parameters := [], returnType := none }, accessFlags := 0, code := none }
def k8c1 : Code := { maxStack := 1, maxLocals := 1, code := jdk_52_method_2_code, exceptionTable := #[], attributes := #[] }
def k8m1 : Method := { name := "newBytesFor", desc := "(I)[B", sig := { parameters := [.int], returnType := some (.array .byte) }, accessFlags := 9, code := some k8c1 }
def k8c2 : Code := { maxStack := 4, maxLocals := 1, code := jdk_52_method_3_code, exceptionTable := #[], attributes := #[] }
def k8m2 : Method := { name := "newBytesLength", desc := "(I)I", sig := { parameters := [.int], returnType := some .int }, accessFlags := 9, code := some k8c2 }
def k8c3 : Code := { maxStack := 4, maxLocals := 3, code := jdk_52_method_4_code, exceptionTable := #[], attributes := #[] }
def k8m3 : Method := { name := "putChar", desc := "([BII)V", sig := { parameters := [(.array .byte), .int, .int], returnType := none }, accessFlags := 8, code := some k8c3 }
def k8c4 : Code := { maxStack := 3, maxLocals := 2, code := jdk_52_method_5_code, exceptionTable := #[], attributes := #[] }
def k8m4 : Method := { name := "getChar", desc := "([BI)C", sig := { parameters := [(.array .byte), .int], returnType := some .char }, accessFlags := 8, code := some k8c4 }
def k8c5 : Code := { maxStack := 4, maxLocals := 5, code := jdk_52_method_14_code, exceptionTable := #[], attributes := #[] }
def k8m5 : Method := { name := "toBytes", desc := "([CII)[B", sig := { parameters := [(.array .char), .int, .int], returnType := some (.array .byte) }, accessFlags := 9, code := some k8c5 }
def k8c6 : Code := { maxStack := 2, maxLocals := 2, code := jdk_52_method_15_code, exceptionTable := #[], attributes := #[] }
def k8m6 : Method := { name := "coderFromArrayLen", desc := "([BI)B", sig := { parameters := [(.array .byte), .int], returnType := some .byte }, accessFlags := 8, code := some k8c6 }
def k8c7 : Code := { maxStack := 5, maxLocals := 6, code := jdk_52_method_16_code, exceptionTable := #[], attributes := #[] }
def k8m7 : Method := { name := "compress", desc := "([CII)[B", sig := { parameters := [(.array .char), .int, .int], returnType := some (.array .byte) }, accessFlags := 9, code := some k8c7 }
def k8c8 : Code := { maxStack := 3, maxLocals := 7, code := jdk_52_method_21_code, exceptionTable := #[], attributes := #[] }
def k8m8 : Method := { name := "compress", desc := "([CI[BII)I", sig := { parameters := [(.array .char), .int, (.array .byte), .int, .int], returnType := some .int }, accessFlags := 9, code := some k8c8 }
def k8c9 : Code := { maxStack := 3, maxLocals := 2, code := jdk_52_method_24_code, exceptionTable := #[], attributes := #[] }
def k8m9 : Method := { name := "toBytes", desc := "(C)[B", sig := { parameters := [.char], returnType := some (.array .byte) }, accessFlags := 9, code := some k8c9 }
/-- java/lang/StringUTF16 -/
def k8 : Class := { plain "java/lang/StringUTF16" (some 0) with
  accessFlags := 48
  interfaces := #[]
  cf := some (fileOf pool8 12 #[.nestMembers #[627, 629, 369]] #[{ accessFlags := 0, nameIndex := 9, descriptorIndex := 10, attributes := #[] }, { accessFlags := 9, nameIndex := 109, descriptorIndex := 110, attributes := #[] }, { accessFlags := 9, nameIndex := 15, descriptorIndex := 16, attributes := #[] }, { accessFlags := 8, nameIndex := 113, descriptorIndex := 114, attributes := #[] }, { accessFlags := 8, nameIndex := 73, descriptorIndex := 74, attributes := #[] }, { accessFlags := 9, nameIndex := 121, descriptorIndex := 122, attributes := #[] }, { accessFlags := 8, nameIndex := 261, descriptorIndex := 262, attributes := #[] }, { accessFlags := 9, nameIndex := 117, descriptorIndex := 122, attributes := #[] }, { accessFlags := 9, nameIndex := 117, descriptorIndex := 118, attributes := #[] }, { accessFlags := 9, nameIndex := 121, descriptorIndex := 475, attributes := #[] }] 48 6 #[] #[{ accessFlags := 26, nameIndex := 61, descriptorIndex := 62, attributes := #[] }, { accessFlags := 26, nameIndex := 65, descriptorIndex := 62, attributes := #[] }, { accessFlags := 24, nameIndex := 430, descriptorIndex := 62, attributes := #[] }, { accessFlags := 4120, nameIndex := 46, descriptorIndex := 47, attributes := #[] }])
  fields := #[{ name := "HI_BYTE_SHIFT", type := .int, accessFlags := 26, slot := 0, constantValue := 0 }, { name := "LO_BYTE_SHIFT", type := .int, accessFlags := 26, slot := 1, constantValue := 0 }, { name := "MAX_LENGTH", type := .int, accessFlags := 24, slot := 2, constantValue := 0 }, { name := "$assertionsDisabled", type := .boolean, accessFlags := 4120, slot := 3, constantValue := 0 }]
  methods := #[k8m0, k8m1, k8m2, k8m3, k8m4, k8m5, k8m6, k8m7, k8m8, k8m9]
  instanceTypes := #[]
  staticTypes := #[.int, .int, .int, .boolean]
  resolved := Array.replicate 635 none
  statics := some 1 }

def pool9 : Array CpInfo := pool [(2, .class_ 4), (1, u "java/lang/Object"), (0, u "<init>"), (0, u "()V"), (0, .class_ 8), (0, u "java/lang/String"), (0, .class_ 10), (0, u "com/example/senret/senret/LineFields"), (61, u "requireNonEmpty"), (0, u "(Ljava/lang/String;Ljava/lang/String;)Ljava/lang/String;"), (12, .methodref 7 87), (0, .nameAndType 88 89), (0, u "isEmpty"), (0, u "()Z"), (44, u "TAB"), (0, u "C"), (2, u "WHITESPACE"), (0, u "Ljava/lang/String;"), (0, u "TAB_SEPARATED"), (0, u "WHITESPACE_SEPARATED")] 50

def k9m0 : Method := { name := "<init>", desc := "()V", sig := { parameters := [], returnType := none }, accessFlags := 2, code := none }
def k9c1 : Code := { maxStack := 3, maxLocals := 2, code := prog_9_method_7_code, exceptionTable := #[], attributes := #[] }
def k9m1 : Method := { name := "requireNonEmpty", desc := "(Ljava/lang/String;Ljava/lang/String;)Ljava/lang/String;", sig := { parameters := [(.object "java/lang/String"), (.object "java/lang/String")], returnType := some (.object "java/lang/String") }, accessFlags := 8, code := some k9c1 }
/-- com/example/senret/senret/LineFields -/
def k9 : Class := { plain "com/example/senret/senret/LineFields" (some 0) with
  accessFlags := 48
  interfaces := #[]
  cf := some (fileOf pool9 9 #[] #[{ accessFlags := 2, nameIndex := 5, descriptorIndex := 6, attributes := #[] }, { accessFlags := 8, nameIndex := 72, descriptorIndex := 73, attributes := #[] }] 48 2 #[] #[{ accessFlags := 26, nameIndex := 134, descriptorIndex := 135, attributes := #[] }, { accessFlags := 26, nameIndex := 138, descriptorIndex := 139, attributes := #[] }, { accessFlags := 26, nameIndex := 140, descriptorIndex := 139, attributes := #[] }, { accessFlags := 26, nameIndex := 141, descriptorIndex := 139, attributes := #[] }])
  fields := #[{ name := "TAB", type := .char, accessFlags := 26, slot := 0, constantValue := 0 }, { name := "WHITESPACE", type := (.object "java/lang/String"), accessFlags := 26, slot := 1, constantValue := 0 }, { name := "TAB_SEPARATED", type := (.object "java/lang/String"), accessFlags := 26, slot := 2, constantValue := 0 }, { name := "WHITESPACE_SEPARATED", type := (.object "java/lang/String"), accessFlags := 26, slot := 3, constantValue := 0 }]
  methods := #[k9m0, k9m1]
  instanceTypes := #[]
  staticTypes := #[.char, (.object "java/lang/String"), (.object "java/lang/String"), (.object "java/lang/String")]
  resolved := Array.replicate 192 none
  statics := none }

def pool10 : Array CpInfo := pool [(4, .class_ 6), (1, u "java/lang/Object"), (0, u "<init>"), (0, u "()V"), (5, .class_ 16), (1, u "java/lang/StringLatin1"), (73, u "canEncode"), (14, u "(C)Z"), (15, u "$assertionsDisabled"), (0, u "Z"), (98, .class_ 223), (1, u "java/lang/StringLatin1$LinesSpliterator"), (156, u "toBytes"), (1, u "(C)[B"), (7, .class_ 391), (0, u "java/lang/StringLatin1$CharsSpliterator")] 3

def k10m0 : Method := { name := "<init>", desc := "()V", sig := { parameters := [], returnType := none }, accessFlags := 0, code := none }
def k10c1 : Code := { maxStack := 2, maxLocals := 1, code := jdk_43_method_3_code, exceptionTable := #[], attributes := #[] }
def k10m1 : Method := { name := "canEncode", desc := "(C)Z", sig := { parameters := [.char], returnType := some .boolean }, accessFlags := 9, code := some k10c1 }
def k10c2 : Code := { maxStack := 4, maxLocals := 1, code := jdk_43_method_46_code, exceptionTable := #[], attributes := #[] }
def k10m2 : Method := { name := "toBytes", desc := "(C)[B", sig := { parameters := [.char], returnType := some (.array .byte) }, accessFlags := 9, code := some k10c2 }
/-- java/lang/StringLatin1 -/
def k10 : Class := { plain "java/lang/StringLatin1" (some 0) with
  accessFlags := 48
  interfaces := #[]
  cf := some (fileOf pool10 14 #[.nestMembers #[390, 221]] #[{ accessFlags := 0, nameIndex := 7, descriptorIndex := 8, attributes := #[] }, { accessFlags := 9, nameIndex := 90, descriptorIndex := 105, attributes := #[] }, { accessFlags := 9, nameIndex := 380, descriptorIndex := 382, attributes := #[] }] 48 4 #[] #[{ accessFlags := 4120, nameIndex := 121, descriptorIndex := 122, attributes := #[] }])
  fields := #[{ name := "$assertionsDisabled", type := .boolean, accessFlags := 4120, slot := 0, constantValue := 0 }]
  methods := #[k10m0, k10m1, k10m2]
  instanceTypes := #[]
  staticTypes := #[.boolean]
  resolved := Array.replicate 395 none
  statics := none }

def pool11 : Array CpInfo := pool [(2, .class_ 4), (1, u "java/lang/Object"), (0, u "<init>"), (0, u "()V"), (17, .class_ 26), (1, u "jdk/internal/util/Preconditions"), (28, .class_ 56), (0, u "jdk/internal/util/Preconditions$4"), (57, .class_ 115), (0, u "jdk/internal/util/Preconditions$1"), (7, u "SIOOBE_FORMATTER"), (0, u "Ljava/util/function/BiFunction;"), (0, .class_ 126), (0, u "jdk/internal/util/Preconditions$2"), (3, u "AIOOBE_FORMATTER"), (0, .class_ 132), (0, u "jdk/internal/util/Preconditions$3"), (3, u "IOOBE_FORMATTER")] 57

def k11m0 : Method := { name := "<init>", desc := "()V", sig := { parameters := [], returnType := none }, accessFlags := 1, code := none }
/-- jdk/internal/util/Preconditions -/
def k11 : Class := { plain "jdk/internal/util/Preconditions" (some 0) with
  accessFlags := 33
  interfaces := #[]
  cf := some (fileOf pool11 24 #[.nestMembers #[55, 131, 125, 114]] #[{ accessFlags := 1, nameIndex := 5, descriptorIndex := 6, attributes := #[] }] 33 2 #[] #[{ accessFlags := 25, nameIndex := 123, descriptorIndex := 124, attributes := #[] }, { accessFlags := 25, nameIndex := 130, descriptorIndex := 124, attributes := #[] }, { accessFlags := 25, nameIndex := 136, descriptorIndex := 124, attributes := #[] }])
  fields := #[{ name := "SIOOBE_FORMATTER", type := (.object "java/util/function/BiFunction"), accessFlags := 25, slot := 0, constantValue := 0 }, { name := "AIOOBE_FORMATTER", type := (.object "java/util/function/BiFunction"), accessFlags := 25, slot := 1, constantValue := 0 }, { name := "IOOBE_FORMATTER", type := (.object "java/util/function/BiFunction"), accessFlags := 25, slot := 2, constantValue := 0 }]
  methods := #[k11m0]
  instanceTypes := #[]
  staticTypes := #[(.object "java/util/function/BiFunction"), (.object "java/util/function/BiFunction"), (.object "java/util/function/BiFunction")]
  resolved := Array.replicate 194 none
  statics := some 2 }

def pool12 : Array CpInfo := pool [(9, u "<init>"), (6, .class_ 18), (1, u "java/lang/Object"), (0, u "()V"), (1, .class_ 23), (1, u "jdk/internal/util/ArraysSupport"), (0, u "LOG2_ARRAY_LONG_INDEX_SCALE"), (0, u "I"), (2, u "U"), (0, u "Ljdk/internal/misc/Unsafe;"), (8, u "BIG_ENDIAN"), (0, u "Z"), (8, u "LOG2_BYTE_BIT_SIZE"), (4, u "LOG2_ARRAY_INT_INDEX_SCALE"), (54, u "JLA"), (0, u "Ljdk/internal/access/JavaLangAccess;"), (11, u "LOG2_ARRAY_BOOLEAN_INDEX_SCALE"), (9, u "LOG2_ARRAY_BYTE_INDEX_SCALE"), (5, u "LOG2_ARRAY_CHAR_INDEX_SCALE"), (5, u "LOG2_ARRAY_SHORT_INDEX_SCALE"), (18, u "LOG2_ARRAY_FLOAT_INDEX_SCALE"), (24, u "LOG2_ARRAY_DOUBLE_INDEX_SCALE"), (89, u "T_BOOLEAN"), (2, u "T_CHAR"), (1, u "T_FLOAT"), (1, u "T_DOUBLE"), (1, u "T_BYTE"), (1, u "T_SHORT"), (1, u "T_INT"), (1, u "T_LONG"), (1, u "SOFT_MAX_ARRAY_LENGTH")] 83

def k12m0 : Method := { name := "<init>", desc := "()V", sig := { parameters := [], returnType := none }, accessFlags := 2, code := none }
/-- jdk/internal/util/ArraysSupport -/
def k12 : Class := { plain "jdk/internal/util/ArraysSupport" (some 0) with
  accessFlags := 33
  interfaces := #[]
  cf := some (fileOf pool12 21 #[] #[{ accessFlags := 2, nameIndex := 9, descriptorIndex := 19, attributes := #[] }] 33 16 #[] #[{ accessFlags := 24, nameIndex := 28, descriptorIndex := 29, attributes := #[] }, { accessFlags := 26, nameIndex := 38, descriptorIndex := 39, attributes := #[] }, { accessFlags := 25, nameIndex := 121, descriptorIndex := 25, attributes := #[] }, { accessFlags := 25, nameIndex := 131, descriptorIndex := 25, attributes := #[] }, { accessFlags := 25, nameIndex := 137, descriptorIndex := 25, attributes := #[] }, { accessFlags := 25, nameIndex := 143, descriptorIndex := 25, attributes := #[] }, { accessFlags := 25, nameIndex := 53, descriptorIndex := 25, attributes := #[] }, { accessFlags := 25, nameIndex := 24, descriptorIndex := 25, attributes := #[] }, { accessFlags := 25, nameIndex := 162, descriptorIndex := 25, attributes := #[] }, { accessFlags := 25, nameIndex := 187, descriptorIndex := 25, attributes := #[] }, { accessFlags := 26, nameIndex := 48, descriptorIndex := 25, attributes := #[] }, { accessFlags := 25, nameIndex := 277, descriptorIndex := 25, attributes := #[] }, { accessFlags := 25, nameIndex := 280, descriptorIndex := 25, attributes := #[] }, { accessFlags := 25, nameIndex := 282, descriptorIndex := 25, attributes := #[] }, { accessFlags := 25, nameIndex := 284, descriptorIndex := 25, attributes := #[] }, { accessFlags := 25, nameIndex := 286, descriptorIndex := 25, attributes := #[] }, { accessFlags := 25, nameIndex := 288, descriptorIndex := 25, attributes := #[] }, { accessFlags := 25, nameIndex := 290, descriptorIndex := 25, attributes := #[] }, { accessFlags := 25, nameIndex := 292, descriptorIndex := 25, attributes := #[] }, { accessFlags := 26, nameIndex := 108, descriptorIndex := 109, attributes := #[] }, { accessFlags := 25, nameIndex := 294, descriptorIndex := 25, attributes := #[] }])
  fields := #[{ name := "U", type := (.object "jdk/internal/misc/Unsafe"), accessFlags := 24, slot := 0, constantValue := 0 }, { name := "BIG_ENDIAN", type := .boolean, accessFlags := 26, slot := 1, constantValue := 0 }, { name := "LOG2_ARRAY_BOOLEAN_INDEX_SCALE", type := .int, accessFlags := 25, slot := 2, constantValue := 0 }, { name := "LOG2_ARRAY_BYTE_INDEX_SCALE", type := .int, accessFlags := 25, slot := 3, constantValue := 0 }, { name := "LOG2_ARRAY_CHAR_INDEX_SCALE", type := .int, accessFlags := 25, slot := 4, constantValue := 0 }, { name := "LOG2_ARRAY_SHORT_INDEX_SCALE", type := .int, accessFlags := 25, slot := 5, constantValue := 0 }, { name := "LOG2_ARRAY_INT_INDEX_SCALE", type := .int, accessFlags := 25, slot := 6, constantValue := 0 }, { name := "LOG2_ARRAY_LONG_INDEX_SCALE", type := .int, accessFlags := 25, slot := 7, constantValue := 0 }, { name := "LOG2_ARRAY_FLOAT_INDEX_SCALE", type := .int, accessFlags := 25, slot := 8, constantValue := 0 }, { name := "LOG2_ARRAY_DOUBLE_INDEX_SCALE", type := .int, accessFlags := 25, slot := 9, constantValue := 0 }, { name := "LOG2_BYTE_BIT_SIZE", type := .int, accessFlags := 26, slot := 10, constantValue := 0 }, { name := "T_BOOLEAN", type := .int, accessFlags := 25, slot := 11, constantValue := 0 }, { name := "T_CHAR", type := .int, accessFlags := 25, slot := 12, constantValue := 0 }, { name := "T_FLOAT", type := .int, accessFlags := 25, slot := 13, constantValue := 0 }, { name := "T_DOUBLE", type := .int, accessFlags := 25, slot := 14, constantValue := 0 }, { name := "T_BYTE", type := .int, accessFlags := 25, slot := 15, constantValue := 0 }, { name := "T_SHORT", type := .int, accessFlags := 25, slot := 16, constantValue := 0 }, { name := "T_INT", type := .int, accessFlags := 25, slot := 17, constantValue := 0 }, { name := "T_LONG", type := .int, accessFlags := 25, slot := 18, constantValue := 0 }, { name := "JLA", type := (.object "jdk/internal/access/JavaLangAccess"), accessFlags := 26, slot := 19, constantValue := 0 }, { name := "SOFT_MAX_ARRAY_LENGTH", type := .int, accessFlags := 25, slot := 20, constantValue := 0 }]
  methods := #[k12m0]
  instanceTypes := #[]
  staticTypes := #[(.object "jdk/internal/misc/Unsafe"), .boolean, .int, .int, .int, .int, .int, .int, .int, .int, .int, .int, .int, .int, .int, .int, .int, .int, .int, (.object "jdk/internal/access/JavaLangAccess"), .int]
  resolved := Array.replicate 378 none
  statics := none }

def pool13 : Array CpInfo := pool [(1, u "java/lang/Cloneable"), (0, .class_ 1), (0, u "java/lang/Object"), (0, .class_ 3)] 3

/-- java/lang/Cloneable -/
def k13 : Class := { plain "java/lang/Cloneable" (some 0) with
  accessFlags := 1537
  interfaces := #[]
  cf := some (fileOf pool13 2 #[] #[] 1537 4 #[] #[])
  fields := #[]
  methods := #[]
  instanceTypes := #[]
  staticTypes := #[]
  resolved := Array.replicate 8 none
  statics := none }

/-- the primitive byte -/
def k14 : Class := { plain "byte" none with kind := .primitive 'B', accessFlags := 0x411 }
/-- [B -/
def k15 : Class := { plain "[B" (some 0) with kind := .array 14 .byte, interfaces := #[13, 2], accessFlags := 1041 }

/-- the primitive char -/
def k16 : Class := { plain "char" none with kind := .primitive 'C', accessFlags := 0x411 }
/-- [C -/
def k17 : Class := { plain "[C" (some 0) with kind := .array 16 .char, interfaces := #[13, 2], accessFlags := 1041 }

/-- the primitive int -/
def k18 : Class := { plain "int" none with kind := .primitive 'I', accessFlags := 0x411 }
/-- [I -/
def k19 : Class := { plain "[I" (some 0) with kind := .array 18 .int, interfaces := #[13, 2], accessFlags := 1041 }

def heap : Heap := #[{ cls := 7, slots := #[.long 0, .int 1, .null, .int 0, .null, .int 0, .int 0], vm := .statics 7 },
  { cls := 8, slots := #[.int 0, .int 8, .int 0, .int 1], vm := .statics 8 },
  { cls := 11, slots := #[.null, .null, .null], vm := .statics 11 }]
def classes : Array Class := #[k0, k1, k2, k3, k4, k5, k6, k7, k8, k9, k10, k11, k12, k13, k14, k15, k16, k17, k18, k19]
def interned : List (Array UInt16 × Addr) := []
def slotsUsed : Nat := 14
def theMethod : MethodId := ⟨1, 1⟩
def args0 : Array Value := #[.int 5, .int 6, .int 7, .int 8, .int 9, .int 4]
def aboutOver (below : List Frame) : State where
  vm := { classes := classes, interned := interned.toArray }
  heap := heap
  slotsUsed := slotsUsed
  threads := #[{ frames := .invoking theMethod args0 :: below }]
def below0 : List Frame := [.native { method := ⟨0, 0⟩, args := #[] }]
def about1 : State := aboutOver below0
def p0 : Program := .bare "" "" ""
def e0 : Env := launch0.env 0 0 0
theorem w_frames : about1.frames = Frame.invoking theMethod args0 :: below0 := rfl
set_option maxRecDepth 65536 in
theorem w_args : argsFit about1.vm theMethod args0 = true := by decide +kernel
set_option maxRecDepth 65536 in
theorem w_heap : heapFits about1 = true := by decide +kernel
set_option maxRecDepth 65536 in
theorem w_runnable : about1.curStatus? = some .runnable := by decide +kernel
set_option maxRecDepth 65536 in
theorem w_alone : about1.alone = true := by decide +kernel
set_option maxRecDepth 65536 in
theorem w_named : about1.methodNamed? x = some theMethod := by decide +kernel
set_option maxRecDepth 65536 in
theorem w_hears : about1.hears theMethod below0 = true := by decide +kernel
set_option maxRecDepth 65536 in
theorem w_ripe : about1.ripe theMethod args0 below0 = true := by decide +kernel
theorem w_running : about1.status = .running := rfl
set_option maxRecDepth 65536 in
theorem w_room : about1.hasRoom e0.platform room_1 = true :=
  launch0.hasRoom_least _ room_1 (by decide +kernel) (by decide +kernel) (by decide +kernel) (by decide +kernel) (by decide +kernel) (by decide +kernel)
theorem allAtoms_all (ts : List Jvm.Cond) (a : Array Jvm.Value) (st : Jvm.State) : (allAtoms ts).before a st = ts.all (fun c => c.before a st) := by
  induction ts with
  | nil => rfl
  | cons c t ih =>
    show (Jvm.Cond.and c (allAtoms t)).before a st = _
    rw [Jvm.Cond.before_and, ih, List.all_cons]
def words1 : List Jvm.Cond := Jvm.Cond.code x code maxLocals ret :: tables_1
/-- a 'code' word, met by the world's own term for the bytes: nothing is compared byte by byte -/
theorem code_word {y : MethodName} {bytes : ByteArray} {mx : Nat} {rt : Option FieldType} {a : Array Value} {s : State} {m : MethodId} {meth : Method} {c : Code} (h1 : s.methodNamed? y = some m) (h2 : s.vm.method? m = some meth) (h3 : meth.code = some c) (h4 : c.code = bytes)
    (h5 : (c.maxLocals == mx && c.exceptionTable.isEmpty && decide (c.maxStack ≤ mostOperands) && decide (meth.sig.returnType = rt) && !meth.locks && decide (parseMethodDescriptor y.desc = some meth.sig)) = true) : (Jvm.Cond.code y bytes mx rt).before a s = true := by
  simp only [Bool.and_eq_true, beq_iff_eq, Bool.not_eq_true', decide_eq_true_eq] at h5
  obtain ⟨⟨⟨⟨⟨g1, g2⟩, g3⟩, g4⟩, g5⟩, g6⟩ := h5
  simp [Cond.before, Cond.holds, Cond.value, h1, h2, h3, h4, g1, g2, g3, g4, g5, g6]
def isCode : Jvm.Cond → Bool
  | .code _ _ _ _ => true
  | _ => false
theorem all_split {L : List Jvm.Cond} {P : Jvm.Cond → Bool} (h1 : L.all (fun c => isCode c || P c) = true) (h2 : ∀ c ∈ L.filter isCode, P c = true) : L.all P = true := by
  refine List.all_eq_true.mpr fun c hc => ?_
  have h := List.all_eq_true.mp h1 c hc
  rcases Bool.eq_false_or_eq_true (isCode c) with hi | hi
  · exact h2 c (List.mem_filter.mpr ⟨hc, hi⟩)
  · simpa [hi] using h
set_option maxRecDepth 65536 in
theorem w_c0 : (Jvm.Cond.code x code maxLocals ret).before args0 about1 = true := code_word (m := ⟨1, 1⟩) (meth := k1m1) (c := k1c1) (by decide +kernel) rfl rfl rfl (by decide +kernel)
set_option maxRecDepth 65536 in
theorem w_c1 : (Jvm.Cond.code ({ cls := "java/lang/String", name := "<init>", desc := "([C)V" } : Jvm.MethodName) jdk_42_method_3_code (2 : Nat) (Option.none : Option Jvm.ClassFile.FieldType)).before args0 about1 = true := code_word (m := ⟨7, 1⟩) (meth := k7m1) (c := k7c1) (by decide +kernel) rfl rfl rfl (by decide +kernel)
set_option maxRecDepth 65536 in
theorem w_c2 : (Jvm.Cond.code ({ cls := "java/lang/String", name := "<init>", desc := "([CIILjava/lang/Void;)V" } : Jvm.MethodName) jdk_42_method_149_code (6 : Nat) (Option.none : Option Jvm.ClassFile.FieldType)).before args0 about1 = true := code_word (m := ⟨7, 5⟩) (meth := k7m5) (c := k7c5) (by decide +kernel) rfl rfl rfl (by decide +kernel)
set_option maxRecDepth 65536 in
theorem w_c3 : (Jvm.Cond.code ({ cls := "java/lang/Object", name := "<init>", desc := "()V" } : Jvm.MethodName) object_method_1_code (1 : Nat) (Option.none : Option Jvm.ClassFile.FieldType)).before args0 about1 = true := code_word (m := ⟨0, 0⟩) (meth := k0m0) (c := k0c0) (by decide +kernel) rfl rfl rfl (by decide +kernel)
set_option maxRecDepth 65536 in
theorem w_c4 : (Jvm.Cond.code ({ cls := "java/lang/StringUTF16", name := "compress", desc := "([CII)[B" } : Jvm.MethodName) jdk_52_method_16_code (6 : Nat) (Option.some (Jvm.ClassFile.FieldType.array Jvm.ClassFile.FieldType.byte))).before args0 about1 = true := code_word (m := ⟨8, 7⟩) (meth := k8m7) (c := k8c7) (by decide +kernel) rfl rfl rfl (by decide +kernel)
set_option maxRecDepth 65536 in
theorem w_c5 : (Jvm.Cond.code ({ cls := "java/lang/StringUTF16", name := "compress", desc := "([CI[BII)I" } : Jvm.MethodName) jdk_52_method_21_code (7 : Nat) (Option.some Jvm.ClassFile.FieldType.int)).before args0 about1 = true := code_word (m := ⟨8, 8⟩) (meth := k8m8) (c := k8c8) (by decide +kernel) rfl rfl rfl (by decide +kernel)
set_option maxRecDepth 65536 in
theorem w_c6 : (Jvm.Cond.code ({ cls := "java/lang/StringUTF16", name := "coderFromArrayLen", desc := "([BI)B" } : Jvm.MethodName) jdk_52_method_15_code (2 : Nat) (Option.some Jvm.ClassFile.FieldType.byte)).before args0 about1 = true := code_word (m := ⟨8, 6⟩) (meth := k8m6) (c := k8c6) (by decide +kernel) rfl rfl rfl (by decide +kernel)
set_option maxRecDepth 65536 in
theorem w_c7 : (Jvm.Cond.code ({ cls := "com/example/senret/senret/LineFields", name := "requireNonEmpty", desc := "(Ljava/lang/String;Ljava/lang/String;)Ljava/lang/String;" } : Jvm.MethodName) prog_9_method_7_code (2 : Nat) (Option.some (Jvm.ClassFile.FieldType.object "java/lang/String"))).before args0 about1 = true := code_word (m := ⟨9, 1⟩) (meth := k9m1) (c := k9c1) (by decide +kernel) rfl rfl rfl (by decide +kernel)
set_option maxRecDepth 65536 in
theorem w_c8 : (Jvm.Cond.code ({ cls := "java/lang/String", name := "isEmpty", desc := "()Z" } : Jvm.MethodName) jdk_42_method_55_code (1 : Nat) (Option.some Jvm.ClassFile.FieldType.boolean)).before args0 about1 = true := code_word (m := ⟨7, 3⟩) (meth := k7m3) (c := k7c3) (by decide +kernel) rfl rfl rfl (by decide +kernel)
set_option maxRecDepth 65536 in
theorem w_c9 : (Jvm.Cond.code ({ cls := "java/lang/String", name := "length", desc := "()I" } : Jvm.MethodName) jdk_42_method_54_code (1 : Nat) (Option.some Jvm.ClassFile.FieldType.int)).before args0 about1 = true := code_word (m := ⟨7, 2⟩) (meth := k7m2) (c := k7c2) (by decide +kernel) rfl rfl rfl (by decide +kernel)
set_option maxRecDepth 65536 in
theorem w_c10 : (Jvm.Cond.code ({ cls := "java/lang/String", name := "coder", desc := "()B" } : Jvm.MethodName) jdk_42_method_152_code (1 : Nat) (Option.some Jvm.ClassFile.FieldType.byte)).before args0 about1 = true := code_word (m := ⟨7, 7⟩) (meth := k7m7) (c := k7c7) (by decide +kernel) rfl rfl rfl (by decide +kernel)
set_option maxRecDepth 65536 in
theorem w_c11 : (Jvm.Cond.code ({ cls := "java/lang/String", name := "valueOf", desc := "(C)Ljava/lang/String;" } : Jvm.MethodName) jdk_42_method_139_code (1 : Nat) (Option.some (Jvm.ClassFile.FieldType.object "java/lang/String"))).before args0 about1 = true := code_word (m := ⟨7, 4⟩) (meth := k7m4) (c := k7c4) (by decide +kernel) rfl rfl rfl (by decide +kernel)
set_option maxRecDepth 65536 in
theorem w_c12 : (Jvm.Cond.code ({ cls := "java/lang/StringLatin1", name := "canEncode", desc := "(C)Z" } : Jvm.MethodName) jdk_43_method_3_code (1 : Nat) (Option.some Jvm.ClassFile.FieldType.boolean)).before args0 about1 = true := code_word (m := ⟨10, 1⟩) (meth := k10m1) (c := k10c1) (by decide +kernel) rfl rfl rfl (by decide +kernel)
set_option maxRecDepth 65536 in
theorem w_c13 : (Jvm.Cond.code ({ cls := "java/lang/StringLatin1", name := "toBytes", desc := "(C)[B" } : Jvm.MethodName) jdk_43_method_46_code (1 : Nat) (Option.some (Jvm.ClassFile.FieldType.array Jvm.ClassFile.FieldType.byte))).before args0 about1 = true := code_word (m := ⟨10, 2⟩) (meth := k10m2) (c := k10c2) (by decide +kernel) rfl rfl rfl (by decide +kernel)
set_option maxRecDepth 65536 in
theorem w_c14 : (Jvm.Cond.code ({ cls := "java/lang/String", name := "<init>", desc := "([BB)V" } : Jvm.MethodName) jdk_42_method_151_code (3 : Nat) (Option.none : Option Jvm.ClassFile.FieldType)).before args0 about1 = true := code_word (m := ⟨7, 6⟩) (meth := k7m6) (c := k7c6) (by decide +kernel) rfl rfl rfl (by decide +kernel)
set_option maxRecDepth 65536 in
theorem w_c15 : (Jvm.Cond.code ({ cls := "java/lang/StringUTF16", name := "toBytes", desc := "([CII)[B" } : Jvm.MethodName) jdk_52_method_14_code (5 : Nat) (Option.some (Jvm.ClassFile.FieldType.array Jvm.ClassFile.FieldType.byte))).before args0 about1 = true := code_word (m := ⟨8, 5⟩) (meth := k8m5) (c := k8c5) (by decide +kernel) rfl rfl rfl (by decide +kernel)
set_option maxRecDepth 65536 in
theorem w_c16 : (Jvm.Cond.code ({ cls := "java/lang/StringUTF16", name := "newBytesFor", desc := "(I)[B" } : Jvm.MethodName) jdk_52_method_2_code (1 : Nat) (Option.some (Jvm.ClassFile.FieldType.array Jvm.ClassFile.FieldType.byte))).before args0 about1 = true := code_word (m := ⟨8, 1⟩) (meth := k8m1) (c := k8c1) (by decide +kernel) rfl rfl rfl (by decide +kernel)
set_option maxRecDepth 65536 in
theorem w_c17 : (Jvm.Cond.code ({ cls := "java/lang/StringUTF16", name := "newBytesLength", desc := "(I)I" } : Jvm.MethodName) jdk_52_method_3_code (1 : Nat) (Option.some Jvm.ClassFile.FieldType.int)).before args0 about1 = true := code_word (m := ⟨8, 2⟩) (meth := k8m2) (c := k8c2) (by decide +kernel) rfl rfl rfl (by decide +kernel)
set_option maxRecDepth 65536 in
theorem w_c18 : (Jvm.Cond.code ({ cls := "java/lang/StringUTF16", name := "putChar", desc := "([BII)V" } : Jvm.MethodName) jdk_52_method_4_code (3 : Nat) (Option.none : Option Jvm.ClassFile.FieldType)).before args0 about1 = true := code_word (m := ⟨8, 3⟩) (meth := k8m3) (c := k8c3) (by decide +kernel) rfl rfl rfl (by decide +kernel)
set_option maxRecDepth 65536 in
theorem w_c19 : (Jvm.Cond.code ({ cls := "java/lang/StringUTF16", name := "getChar", desc := "([BI)C" } : Jvm.MethodName) jdk_52_method_5_code (2 : Nat) (Option.some Jvm.ClassFile.FieldType.char)).before args0 about1 = true := code_word (m := ⟨8, 4⟩) (meth := k8m4) (c := k8c4) (by decide +kernel) rfl rfl rfl (by decide +kernel)
set_option maxRecDepth 65536 in
theorem w_c20 : (Jvm.Cond.code ({ cls := "java/lang/StringUTF16", name := "toBytes", desc := "(C)[B" } : Jvm.MethodName) jdk_52_method_24_code (2 : Nat) (Option.some (Jvm.ClassFile.FieldType.array Jvm.ClassFile.FieldType.byte))).before args0 about1 = true := code_word (m := ⟨8, 9⟩) (meth := k8m9) (c := k8c9) (by decide +kernel) rfl rfl rfl (by decide +kernel)
def codes1 : List Jvm.Cond := [Jvm.Cond.code x code maxLocals ret, Jvm.Cond.code ({ cls := "java/lang/String", name := "<init>", desc := "([C)V" } : Jvm.MethodName) jdk_42_method_3_code (2 : Nat) (Option.none : Option Jvm.ClassFile.FieldType), Jvm.Cond.code ({ cls := "java/lang/String", name := "<init>", desc := "([CIILjava/lang/Void;)V" } : Jvm.MethodName) jdk_42_method_149_code (6 : Nat) (Option.none : Option Jvm.ClassFile.FieldType), Jvm.Cond.code ({ cls := "java/lang/Object", name := "<init>", desc := "()V" } : Jvm.MethodName) object_method_1_code (1 : Nat) (Option.none : Option Jvm.ClassFile.FieldType), Jvm.Cond.code ({ cls := "java/lang/StringUTF16", name := "compress", desc := "([CII)[B" } : Jvm.MethodName) jdk_52_method_16_code (6 : Nat) (Option.some (Jvm.ClassFile.FieldType.array Jvm.ClassFile.FieldType.byte)), Jvm.Cond.code ({ cls := "java/lang/StringUTF16", name := "compress", desc := "([CI[BII)I" } : Jvm.MethodName) jdk_52_method_21_code (7 : Nat) (Option.some Jvm.ClassFile.FieldType.int), Jvm.Cond.code ({ cls := "java/lang/StringUTF16", name := "coderFromArrayLen", desc := "([BI)B" } : Jvm.MethodName) jdk_52_method_15_code (2 : Nat) (Option.some Jvm.ClassFile.FieldType.byte), Jvm.Cond.code ({ cls := "com/example/senret/senret/LineFields", name := "requireNonEmpty", desc := "(Ljava/lang/String;Ljava/lang/String;)Ljava/lang/String;" } : Jvm.MethodName) prog_9_method_7_code (2 : Nat) (Option.some (Jvm.ClassFile.FieldType.object "java/lang/String")), Jvm.Cond.code ({ cls := "java/lang/String", name := "isEmpty", desc := "()Z" } : Jvm.MethodName) jdk_42_method_55_code (1 : Nat) (Option.some Jvm.ClassFile.FieldType.boolean), Jvm.Cond.code ({ cls := "java/lang/String", name := "length", desc := "()I" } : Jvm.MethodName) jdk_42_method_54_code (1 : Nat) (Option.some Jvm.ClassFile.FieldType.int), Jvm.Cond.code ({ cls := "java/lang/String", name := "coder", desc := "()B" } : Jvm.MethodName) jdk_42_method_152_code (1 : Nat) (Option.some Jvm.ClassFile.FieldType.byte), Jvm.Cond.code ({ cls := "java/lang/String", name := "valueOf", desc := "(C)Ljava/lang/String;" } : Jvm.MethodName) jdk_42_method_139_code (1 : Nat) (Option.some (Jvm.ClassFile.FieldType.object "java/lang/String")), Jvm.Cond.code ({ cls := "java/lang/StringLatin1", name := "canEncode", desc := "(C)Z" } : Jvm.MethodName) jdk_43_method_3_code (1 : Nat) (Option.some Jvm.ClassFile.FieldType.boolean), Jvm.Cond.code ({ cls := "java/lang/StringLatin1", name := "toBytes", desc := "(C)[B" } : Jvm.MethodName) jdk_43_method_46_code (1 : Nat) (Option.some (Jvm.ClassFile.FieldType.array Jvm.ClassFile.FieldType.byte)), Jvm.Cond.code ({ cls := "java/lang/String", name := "<init>", desc := "([BB)V" } : Jvm.MethodName) jdk_42_method_151_code (3 : Nat) (Option.none : Option Jvm.ClassFile.FieldType), Jvm.Cond.code ({ cls := "java/lang/StringUTF16", name := "toBytes", desc := "([CII)[B" } : Jvm.MethodName) jdk_52_method_14_code (5 : Nat) (Option.some (Jvm.ClassFile.FieldType.array Jvm.ClassFile.FieldType.byte)), Jvm.Cond.code ({ cls := "java/lang/StringUTF16", name := "newBytesFor", desc := "(I)[B" } : Jvm.MethodName) jdk_52_method_2_code (1 : Nat) (Option.some (Jvm.ClassFile.FieldType.array Jvm.ClassFile.FieldType.byte)), Jvm.Cond.code ({ cls := "java/lang/StringUTF16", name := "newBytesLength", desc := "(I)I" } : Jvm.MethodName) jdk_52_method_3_code (1 : Nat) (Option.some Jvm.ClassFile.FieldType.int), Jvm.Cond.code ({ cls := "java/lang/StringUTF16", name := "putChar", desc := "([BII)V" } : Jvm.MethodName) jdk_52_method_4_code (3 : Nat) (Option.none : Option Jvm.ClassFile.FieldType), Jvm.Cond.code ({ cls := "java/lang/StringUTF16", name := "getChar", desc := "([BI)C" } : Jvm.MethodName) jdk_52_method_5_code (2 : Nat) (Option.some Jvm.ClassFile.FieldType.char), Jvm.Cond.code ({ cls := "java/lang/StringUTF16", name := "toBytes", desc := "(C)[B" } : Jvm.MethodName) jdk_52_method_24_code (2 : Nat) (Option.some (Jvm.ClassFile.FieldType.array Jvm.ClassFile.FieldType.byte))]
set_option maxRecDepth 65536 in
theorem codes_eq : words1.filter isCode = codes1 := rfl
theorem w_codes : ∀ c ∈ words1.filter isCode, c.before args0 about1 = true := by
  rw [codes_eq]
  intro c hc
  simp only [codes1, List.mem_cons, List.not_mem_nil, or_false] at hc
  rcases hc with rfl | rfl | rfl | rfl | rfl | rfl | rfl | rfl | rfl | rfl | rfl | rfl | rfl | rfl | rfl | rfl | rfl | rfl | rfl | rfl | rfl
  · exact w_c0
  · exact w_c1
  · exact w_c2
  · exact w_c3
  · exact w_c4
  · exact w_c5
  · exact w_c6
  · exact w_c7
  · exact w_c8
  · exact w_c9
  · exact w_c10
  · exact w_c11
  · exact w_c12
  · exact w_c13
  · exact w_c14
  · exact w_c15
  · exact w_c16
  · exact w_c17
  · exact w_c18
  · exact w_c19
  · exact w_c20
set_option maxRecDepth 65536 in
theorem w_t1 : (words1.take 24).all (fun c => isCode c || c.before args0 about1) = true := by decide +kernel
set_option maxRecDepth 65536 in
theorem w_t2 : ((words1.drop 24).take 24).all (fun c => isCode c || c.before args0 about1) = true := by decide +kernel
set_option maxRecDepth 65536 in
theorem w_t3 : (((words1.drop 24).drop 24).take 24).all (fun c => isCode c || c.before args0 about1) = true := by decide +kernel
set_option maxRecDepth 65536 in
theorem w_t4 : (((words1.drop 24).drop 24).drop 24).all (fun c => isCode c || c.before args0 about1) = true := by decide +kernel
theorem w_tables : (allAtoms (Jvm.Cond.code x code maxLocals ret :: tables_1)).before args0 about1 = true := by
  rw [allAtoms_all]
  show words1.all (fun c => c.before args0 about1) = true
  refine all_split ?_ w_codes
  rw [← List.take_append_drop 24 words1, List.all_append, w_t1, ← List.take_append_drop 24 (words1.drop 24), List.all_append, w_t2, ← List.take_append_drop 24 ((words1.drop 24).drop 24), List.all_append, w_t3, w_t4]
  rfl
set_option maxRecDepth 65536 in
theorem w_rest : rest_1_c.before args0 about1 = true := by decide +kernel
set_option maxRecDepth 65536 in
theorem w_case : (Jvm.Cond.and given_1 narrow_1).before args0 about1 = true := by decide +kernel
theorem w_applies : (headSpec (Jvm.Cond.code x code maxLocals ret :: tables_1) room_1).applies x e0.platform about1 = true :=
  (Spec.applies_iff w_frames).mpr ⟨w_running, w_runnable, w_alone, w_named, w_hears, w_ripe, w_room, w_tables⟩
theorem atStart : AtStart classFile x code maxLocals ret World_1 tables_1 room_1 Calls_1 rest_1 Pre_1 launch0 p0 e0 about1 theMethod args0 below0 :=
  ⟨lists_1, trivial, launch0.admits_env _ _ _, launch0.least_env, fairChoices_fair.cas, fairChoices_fair.clock, w_frames, w_args, w_heap, w_applies, trivial, w_rest, w_case⟩
end start1
theorem witness_1 : WitnessClaimed_1 := ⟨start1.p0, start1.e0, start1.about1, start1.theMethod, start1.args0, start1.below0, start1.atStart⟩
end Jvm.Pilot.@@N@@
