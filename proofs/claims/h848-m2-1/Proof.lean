import JvmDerived
import JvmDerived.Pilot.@@N@@Statement
import JvmDerived.Pilot.@@N@@Code
set_option linter.unusedVariables false
set_option linter.unusedSimpArgs false
set_option maxRecDepth 65536
set_option maxHeartbeats 40000000
@@BLOCK:HandJ.lean.txt@@
@@BLOCK:SymMore.lean.txt@@
namespace Jvm.RoadKit
open Sem ClassFile Op Lib Jvm.Stand Jvm.Free Jvm.LawKit
section New
variable {p : Program} {l : Launch} {e : Env} {R : Room} {s : State} {m : MethodId} {args : Array Value} {below : List Frame} {meth : Method} {c : Code} {T : State} {locs : List Loc} {cells slots : Nat}
theorem retI (X : Stand p l e R s m args below meth c T locs cells slots) (hx : p.tables.exec = Jvm.exec) {pc : Nat} {Ls : Array Slot} {z : Int32} {rest : List Value} (hret : meth.sig.returnType = some .int) (hd : decode c.code pc = .ok (.ireturn, 1)) {fs : List Frame}
    (hl : ∀ (f : JFrame) (acts : List Action), f.method = m → f.locked = none → f.entered = [] → (doReturn e (T.setTop f) acts (some (.int z))).1 = T.setFrames fs) : Steps p.tables e below (T.setTop (mkF m pc Ls (.int z :: rest))) (T.setFrames fs) := by
  have hm' : T.vm.method? m = some meth := X.method'
  have hn : narrow .int (.int z) = .int z := rfl
  show Steps p.tables e below (T.setTop { method := m, pc := pc, locals := Ls, stack := _ :: rest, locked := none }) _
  jvm_step X.here [X.here.top, hx, hd, hm', hret, hn]
  first | (intro acts; rw [hl _ acts rfl rfl rfl]) | rw [hl _ _ rfl rfl rfl]
  exact Steps.refl _
end New
/-- a body's contract, written short -/
abbrev OwnMet (l : Launch) (Z : State) (y : MethodName) (bytes : ByteArray) (maxL : Nat) (ret : Option FieldType) (ws : List Cond) (rm : Room) (as' : Array Value) (h0 : Heap) (Q : Option Value → Heap → List Loc → Prop) : Prop :=
  MetFree l y (head1 (Cond.code y bytes maxL ret :: ws) rm) (fun a U => a = as' ∧ Z.Warmed39 U.vm ∧ U.heap = h0) (fun _ _ _ _ _ => True) (fun _ U o U' => ∃ v L, o = .returned v ∧ Q v U'.heap L ∧ FrameEnd U o U' L rm.cells rm.slots)
theorem own_body {l : Launch} {Z : State} {y : MethodName} {bytes : ByteArray} {maxL : Nat} {ret : Option FieldType} {ws : List Cond} {rm : Room} {as' : Array Value} {h0 : Heap} {Q : Option Value → Heap → List Loc → Prop} {L0 : Array Slot} (hp : plainFor y = true) (hef : ∀ m, entryFrame m as' maxL = mkF m 0 L0 [])
    (k : ∀ (p : Program) (e : Env) (s : State) (m : MethodId) (below : List Frame) (meth : Method) (c : Code) (s₁ : State), p.tables.exec = Jvm.exec → c.code = bytes → c.maxLocals = maxL → s.vm.findClass y.cls = some m.cls → meth.name = y.name → meth.sig.returnType = ret → Z.Warmed39 s.vm → Stand p l e rm s m as' below meth c s₁ [] 0 0 → s₁.heap = h0 →
      ∃ (T : State) (L : List Loc) (ce sl : Nat) (v : Option Value), Stand p l e rm s m as' below meth c T L ce sl ∧ (ret = none → v = none) ∧ ce ≤ rm.cells ∧ sl ≤ rm.slots ∧ Q v T.heap L ∧
        ∀ fs, (∀ (f : JFrame) (acts : List Action), f.method = m → f.locked = none → f.entered = [] → (doReturn e (T.setTop f) acts v).1 = T.setFrames fs) → Steps p.tables e below (s₁.setTop (mkF m 0 L0 [])) (T.setFrames fs)) :
    OwnMet l Z y bytes maxL ret ws rm as' h0 Q := by
  refine MetFree.of_bodySF hp hisR ?_
  intro p e s m args below meth c s₁ Bd hml hP hK
  obtain ⟨hargs, hZ, hh⟩ := hP
  subst hargs
  obtain ⟨T, L, ce, sl, v, X, hv, hc, hs, hq, st⟩ := k p e s m below meth c s₁ Bd.exec Bd.bytes hml (findClass_of_methodNamed Bd.named) (name_of_methodNamed Bd.named Bd.method).1 Bd.returns hZ (Stand.of_body Bd) (by rw [← hh, Bd.state]; rfl)
  obtain ⟨fs, hr, hrun, hended, hW, hsame⟩ := X.leave (v := v) (fun h => hv (Bd.returns ▸ h))
  exact ⟨_, _, castTop (hef m) (st fs hr), hrun, hended, v, L, rfl, hq, ⟨_, rfl⟩, hW, hsame.mono hc hs⟩
theorem own_mvNest {Z s : State} {a0 args : Array Value} {own host : String} {index : Nat} {y : MethodName} (hZ : Z.Warmed39 s.vm) (w : (Cond.methodLinkNest own index y host).before a0 Z = true) : (Cond.methodLinkNest own index y host).before args s = true := (Cond.methodLinkNest_wide hZ w :)
section Calls
variable {p : Program} {l : Launch} {e : Env} {R : Room} {s : State} {m : MethodId} {args : Array Value} {below : List Frame} {meth : Method} {c : Code} {T : State} {locs : List Loc} {cells slots : Nat} {Z : State} {a0 : Array Value} {h : Heap}
  {own : String} {index : Nat} {y z : MethodName} {bytes : ByteArray} {maxL : Nat} {ret : Option FieldType} {rm : Room} {as' : Array Value} {Q : Option Value → Heap → List Loc → Prop} {pc : Nat} {Ls : Array Slot} {argsL rest : List Value} {W : Nat}
/-- what a call leaves -/
abbrev OwnCame (p : Program) (l : Launch) (e : Env) (R : Room) (s : State) (m : MethodId) (args : Array Value) (below : List Frame) (meth : Method) (c : Code) (T : State) (locs : List Loc) (cells slots : Nat) (rm : Room) (Q : Option Value → Heap → List Loc → Prop) (pc pc' : Nat) (Ls : Array Slot) (st rest : List Value) : Prop :=
  ∃ (v : Option Value) (T' : State) (L : List Loc), Stand p l e R s m args below meth c T' (locs ++ L) (cells + rm.cells) (slots + rm.slots) ∧ Q v T'.heap L ∧
    ∀ target, Steps p.tables e below (T'.setTop (mkF m pc' Ls (v.toList ++ rest))) target → Steps p.tables e below (T.setTop (mkF m pc Ls st)) target
theorem own_callS (X : Stand p l e R s m args below meth c T locs cells slots) (hx : p.tables.exec = Jvm.exec) (hZ : Z.Warmed39 s.vm) (hown : s.vm.findClass own = some m.cls)
    (w1 : (Cond.methodLink own index y).before a0 Z = true) (w2 : (Cond.static y).before a0 Z = true) (w3 : (Cond.initialized y.cls).before a0 Z = true) (w4 : (Cond.code y bytes maxL ret).before a0 Z = true)
    (hM : OwnMet l Z y bytes maxL ret [] rm as' h Q) (eT : T.heap = h) (hsize : Ls.size = c.maxLocals) (hlen : ∀ sig, parseMethodDescriptor y.desc = some sig → argsL.length = sig.parameters.length) (hd : decode c.code pc = .ok (.invokestatic index, 3))
    (has : argsL.toArray = as' := by rfl) (hW : (rest.map fun v => v.category).sum ≤ W := by exact Nat.le_of_eq rfl) (hf : rm.frames + 1 ≤ R.frames := by decide) (hl : W + (maxL + 11) + rm.locals ≤ R.locals := by decide) (hc : cells + rm.cells ≤ R.cells := by decide) (hs : slots + rm.slots ≤ R.slots := by decide) (hy : y.cls ≠ "java/lang/invoke/MethodHandle" ∧ y.cls ≠ "java/lang/invoke/VarHandle" := by decide) :
    OwnCame p l e R s m args below meth c T locs cells slots rm Q pc (pc + 3) Ls (argsL.reverse ++ rest) rest := by
  obtain ⟨v, vm1, ⟨T', L', c', n'⟩, -, XB, ⟨L, hQ, l1, y1, z1⟩, st⟩ := Jvm.LawKit.callS X hx (y := y) hown (mvT hZ w1) (mvT hZ w2) (mvT hZ w3) (mvT hZ w4) hy (backOf (W := W) hM hZ w4 w3 hf hl) (g := mkF m pc Ls (argsL.reverse ++ rest)) rfl hsize (argsL := argsL) (rest := rest) hlen rfl (by show 2 * 0 + _ ≤ _; omega) hd (fun _ _ => ⟨has, eT, hc, hs⟩)
  dsimp only at XB l1 y1 z1 st hQ
  subst l1 y1 z1
  exact ⟨v, T', L, XB, hQ, st⟩
theorem own_special (X : Stand p l e R s m args below meth c T locs cells slots) (hx : p.tables.exec = Jvm.exec) (hZ : Z.Warmed39 s.vm) (hown : s.vm.findClass own = some m.cls) {a : Addr}
    (w1 : (Cond.methodLink own index y).before a0 Z = true) (w2 : (Cond.instanceMethod y).before a0 Z = true) (w3 : (Cond.initialized y.cls).before a0 Z = true) (w4 : (Cond.code y bytes maxL none).before a0 Z = true)
    (hM : OwnMet l Z y bytes maxL none [] rm as' h Q) (eT : T.heap = h) (hsize : Ls.size = c.maxLocals) (hlen : ∀ sig, parseMethodDescriptor y.desc = some sig → argsL.length = sig.parameters.length) (hd : decode c.code pc = .ok (.invokespecial index, 3))
    (has : (.ref a :: argsL).toArray = as' := by rfl) (hW : (rest.map fun v => v.category).sum ≤ W := by exact Nat.le_of_eq rfl) (hf : rm.frames + 1 ≤ R.frames := by decide) (hl : W + (maxL + 11) + rm.locals ≤ R.locals := by decide) (hc : cells + rm.cells ≤ R.cells := by decide) (hs : slots + rm.slots ≤ R.slots := by decide) (hy : y.cls ≠ "java/lang/invoke/MethodHandle" ∧ y.cls ≠ "java/lang/invoke/VarHandle" := by decide) (hy1 : y.name = "<init>" := by rfl) :
    OwnCame p l e R s m args below meth c T locs cells slots rm Q pc (pc + 3) Ls (argsL.reverse ++ .ref a :: rest) rest := by
  obtain ⟨v, vm1, ⟨T', L', c', n'⟩, -, XB, ⟨L, hQ, l1, y1, z1⟩, st⟩ := X.specialBack hx (y := y) hy1 hown (mvT hZ w1) (mvT hZ w2) (mvT hZ w4) hy (backOf (W := W) hM hZ w4 w3 hf hl) (g := mkF m pc Ls (argsL.reverse ++ .ref a :: rest)) rfl hsize (Steps.refl _) (a := a) (argsL := argsL) (rest := rest) hlen rfl (by show 2 * 0 + _ ≤ _; omega) hd (fun _ _ => ⟨has, eT, hc, hs⟩)
  dsimp only at XB l1 y1 z1 st hQ
  subst l1 y1 z1
  exact ⟨v, T', L, XB, hQ, fun t k => st.trans k⟩
theorem own_virtual (X : Stand p l e R s m args below meth c T locs cells slots) (hx : p.tables.exec = Jvm.exec) (hZ : Z.Warmed39 s.vm) (hown : s.vm.findClass own = some m.cls) {a : Addr} {C : String} (E : Exa Z h a C)
    (w1 : (Cond.methodLink own index y).before a0 Z = true) (w2 : (Cond.declares y).before a0 Z = true) (nf : NotFace s y) (w5 : (Cond.selects C y z).before a0 Z = true) (w6 : (Cond.instanceMethod z).before a0 Z = true) (w3 : (Cond.initialized z.cls).before a0 Z = true) (w4 : (Cond.code z bytes maxL ret).before a0 Z = true)
    (hM : OwnMet l Z z bytes maxL ret [] rm as' h Q) (eT : T.heap = h) (hsize : Ls.size = c.maxLocals) (hlen : ∀ sig, parseMethodDescriptor y.desc = some sig → argsL.length = sig.parameters.length) (hd : decode c.code pc = .ok (.invokevirtual index, 3))
    (has : (.ref a :: argsL).toArray = as' := by rfl) (hW : (rest.map fun v => v.category).sum ≤ W := by exact Nat.le_of_eq rfl) (hf : rm.frames + 1 ≤ R.frames := by decide) (hl : W + (maxL + 11) + rm.locals ≤ R.locals := by decide) (hc : cells + rm.cells ≤ R.cells := by decide) (hs : slots + rm.slots ≤ R.slots := by decide) (hy : y.cls ≠ "java/lang/invoke/MethodHandle" ∧ y.cls ≠ "java/lang/invoke/VarHandle" := by decide) :
    OwnCame p l e R s m args below meth c T locs cells slots rm Q pc (pc + 3) Ls (argsL.reverse ++ .ref a :: rest) rest := by
  obtain ⟨cB, kB, i1, -, i3⟩ := isOf hZ eT E
  obtain ⟨v, vm1, ⟨T', L', c', n'⟩, -, XB, ⟨L, hQ, l1, y1, z1⟩, st⟩ := X.virtualBack hx (y := y) (z := z) hown (mvT hZ w1) (mvT hZ w2) nf (mvT hZ w5) (mvT hZ w6) hy (backOf (W := W) hM hZ w4 w3 hf hl) i1 i3 (g := mkF m pc Ls (argsL.reverse ++ .ref a :: rest)) rfl hsize (Steps.refl _) (argsL := argsL) (rest := rest) hlen rfl (by show 2 * 0 + _ ≤ _; omega) hd (fun _ _ => ⟨has, eT, hc, hs⟩)
  dsimp only at XB l1 y1 z1 st hQ
  subst l1 y1 z1
  exact ⟨v, T', L, XB, hQ, fun t k => st.trans k⟩
theorem own_virtualUp (X : Stand p l e R s m args below meth c T locs cells slots) (hx : p.tables.exec = Jvm.exec) (hZ : Z.Warmed39 s.vm) (hown : s.vm.findClass own = some m.cls) {a : Addr} {C owner : String} (E : Exa Z h a C)
    (w1 : (Cond.methodLink own index y).before a0 Z = true) (w7 : (Cond.sameMethod y.cls owner y.name y.desc).before a0 Z = true) (w2 : (Cond.declares ⟨owner, y.name, y.desc⟩).before a0 Z = true) (w5 : (Cond.selects C y z).before a0 Z = true) (w6 : (Cond.instanceMethod z).before a0 Z = true) (w3 : (Cond.initialized z.cls).before a0 Z = true) (w4 : (Cond.code z bytes maxL ret).before a0 Z = true)
    (hM : OwnMet l Z z bytes maxL ret [] rm as' h Q) (eT : T.heap = h) (hsize : Ls.size = c.maxLocals) (hlen : ∀ sig, parseMethodDescriptor y.desc = some sig → argsL.length = sig.parameters.length) (hd : decode c.code pc = .ok (.invokevirtual index, 3))
    (has : (.ref a :: argsL).toArray = as' := by rfl) (hW : (rest.map fun v => v.category).sum ≤ W := by exact Nat.le_of_eq rfl) (hf : rm.frames + 1 ≤ R.frames := by decide) (hl : W + (maxL + 11) + rm.locals ≤ R.locals := by decide) (hc : cells + rm.cells ≤ R.cells := by decide) (hs : slots + rm.slots ≤ R.slots := by decide) (hy : owner ≠ "java/lang/invoke/MethodHandle" ∧ owner ≠ "java/lang/invoke/VarHandle" := by decide) :
    OwnCame p l e R s m args below meth c T locs cells slots rm Q pc (pc + 3) Ls (argsL.reverse ++ .ref a :: rest) rest := by
  obtain ⟨cB, kB, i1, -, i3⟩ := isOf hZ eT E
  obtain ⟨v, vm1, ⟨T', L', c', n'⟩, -, XB, ⟨L, hQ, l1, y1, z1⟩, st⟩ := X.virtualBackUp hx (x := y) (y := z) (owner := owner) hown (mvT hZ w1) (mvT hZ w7) (mvT hZ w2) hy (mvT hZ w5) (mvT hZ w6) (backOf (W := W) hM hZ w4 w3 hf hl) i1 i3 (g := mkF m pc Ls (argsL.reverse ++ .ref a :: rest)) rfl hsize (Steps.refl _) (argsL := argsL) (rest := rest) hlen rfl (by show 2 * 0 + _ ≤ _; omega) hd (fun _ _ => ⟨has, eT, hc, hs⟩)
  dsimp only at XB l1 y1 z1 st hQ
  subst l1 y1 z1
  exact ⟨v, T', L, XB, hQ, fun t k => st.trans k⟩
theorem own_private (X : Stand p l e R s m args below meth c T locs cells slots) (hx : p.tables.exec = Jvm.exec) (hZ : Z.Warmed39 s.vm) (hown : s.vm.findClass own = some m.cls) {a : Addr} {C : String} (E : Exa Z h a C)
    (w1 : (Cond.methodLink own index y).before a0 Z = true) (w2 : (Cond.instanceMethod y).before a0 Z = true) (w5 : (Cond.selects y.cls y y).before args s = true) (w6 : (Cond.privateMethod y).before a0 Z = true) (w3 : (Cond.initialized y.cls).before a0 Z = true) (w4 : (Cond.code y bytes maxL ret).before a0 Z = true)
    (hM : OwnMet l Z y bytes maxL ret [] rm as' h Q) (eT : T.heap = h) (hsize : Ls.size = c.maxLocals) (hlen : ∀ sig, parseMethodDescriptor y.desc = some sig → argsL.length = sig.parameters.length) (hd : decode c.code pc = .ok (.invokevirtual index, 3))
    (has : (.ref a :: argsL).toArray = as' := by rfl) (hW : (rest.map fun v => v.category).sum ≤ W := by exact Nat.le_of_eq rfl) (hf : rm.frames + 1 ≤ R.frames := by decide) (hl : W + (maxL + 11) + rm.locals ≤ R.locals := by decide) (hc : cells + rm.cells ≤ R.cells := by decide) (hs : slots + rm.slots ≤ R.slots := by decide) (hy : y.cls ≠ "java/lang/invoke/MethodHandle" ∧ y.cls ≠ "java/lang/invoke/VarHandle" := by decide) :
    OwnCame p l e R s m args below meth c T locs cells slots rm Q pc (pc + 3) Ls (argsL.reverse ++ .ref a :: rest) rest := by
  obtain ⟨cq, q1, q2⟩ := E.cell
  obtain ⟨v, vm1, ⟨T', L', c', n'⟩, -, XB, ⟨L, hQ, l1, y1, z1⟩, st⟩ := X.privateBack hx (y := y) hown (mvT hZ w1) (mvT hZ w2) w5 (Cond.privateMethod_at (mvP hZ w6 (args := #[]))) (mvT hZ w4) hy (backOf (W := W) hM hZ w4 w3 hf hl) (g := mkF m pc Ls (argsL.reverse ++ .ref a :: rest)) rfl hsize (Steps.refl _) (a := a) (by rw [eT]; exact q1) q2 (argsL := argsL) (rest := rest) hlen rfl (by show 2 * 0 + _ ≤ _; omega) hd (fun _ _ => ⟨has, eT, hc, hs⟩)
  dsimp only at XB l1 y1 z1 st hQ
  subst l1 y1 z1
  exact ⟨v, T', L, XB, hQ, fun t k => st.trans k⟩
theorem own_iface (X : Stand p l e R s m args below meth c T locs cells slots) (hx : p.tables.exec = Jvm.exec) (hZ : Z.Warmed39 s.vm) (hown : s.vm.findClass own = some m.cls) {a : Addr} {C : String} {count : Nat} (E : Exa Z h a C)
    (w1 : (Cond.methodLink own index y).before a0 Z = true) (w2 : (Cond.declares y).before a0 Z = true) (w7 : (Cond.interfaceMethod y.cls y.cls y.name y.desc).before a0 Z = true) (w5 : (Cond.selects C y z).before a0 Z = true) (w6 : (Cond.instanceMethod z).before a0 Z = true) (w8 : (Cond.publicMethod z).before a0 Z = true) (w9 : (Cond.unhidden C y.name y.desc).before a0 Z = true) (wc : (Cond.castable C y.cls).before a0 Z = true) (w3 : (Cond.initialized z.cls).before a0 Z = true) (w4 : (Cond.code z bytes maxL ret).before a0 Z = true)
    (hM : OwnMet l Z z bytes maxL ret [] rm as' h Q) (eT : T.heap = h) (hsize : Ls.size = c.maxLocals) (hlen : ∀ sig, parseMethodDescriptor y.desc = some sig → argsL.length = sig.parameters.length) (hd : decode c.code pc = .ok (.invokeinterface index count, 5))
    (has : (.ref a :: argsL).toArray = as' := by rfl) (hW : (rest.map fun v => v.category).sum ≤ W := by exact Nat.le_of_eq rfl) (hf : rm.frames + 1 ≤ R.frames := by decide) (hl : W + (maxL + 11) + rm.locals ≤ R.locals := by decide) (hc : cells + rm.cells ≤ R.cells := by decide) (hs : slots + rm.slots ≤ R.slots := by decide) (hy : y.cls ≠ "java/lang/invoke/MethodHandle" ∧ y.cls ≠ "java/lang/invoke/VarHandle" := by decide) :
    OwnCame p l e R s m args below meth c T locs cells slots rm Q pc (pc + 5) Ls (argsL.reverse ++ .ref a :: rest) rest := by
  obtain ⟨cB, kB, i1, i2, i3⟩ := isOf hZ eT E
  obtain ⟨v, vm1, ⟨T', L', c', n'⟩, -, XB, ⟨L, hQ, l1, y1, z1⟩, st⟩ := X.interfaceBack hx (xi := y) (y := z) hown (mvT hZ w1) (mvT hZ w2) (mvT hZ w7 (by simp [Cond.onTables, Cond.keepsFace, Cond.keeps, Cond.steady, Cond.faceAtom, hy.1, hy.2])) (mvT hZ w5) (mvT hZ w6) (mvT hZ w8) (mvT hZ w9) (mvT hZ wc) hy (backOf (W := W) hM hZ w4 w3 hf hl) i1 i2 i3 (g := mkF m pc Ls (argsL.reverse ++ .ref a :: rest)) rfl hsize (Steps.refl _) (argsL := argsL) (rest := rest) hlen rfl (by show 2 * 0 + _ ≤ _; omega) hd (fun _ _ => ⟨has, eT, hc, hs⟩)
  dsimp only at XB l1 y1 z1 st hQ
  subst l1 y1 z1
  exact ⟨v, T', L, XB, hQ, fun t k => st.trans k⟩
theorem own_specialNest (X : Stand p l e R s m args below meth c T locs cells slots) (hx : p.tables.exec = Jvm.exec) (hZ : Z.Warmed39 s.vm) (hown : s.vm.findClass own = some m.cls) {a : Addr} {host : String}
    (w1 : (Cond.methodLinkNest own index y host).before args s = true) (w2 : (Cond.instanceMethod y).before a0 Z = true) (w3 : (Cond.initialized y.cls).before a0 Z = true) (w4 : (Cond.code y bytes maxL none).before a0 Z = true)
    (hM : OwnMet l Z y bytes maxL none [] rm as' h Q) (eT : T.heap = h) (hsize : Ls.size = c.maxLocals) (hlen : ∀ sig, parseMethodDescriptor y.desc = some sig → argsL.length = sig.parameters.length) (hd : decode c.code pc = .ok (.invokespecial index, 3))
    (has : (.ref a :: argsL).toArray = as' := by rfl) (hW : (rest.map fun v => v.category).sum ≤ W := by exact Nat.le_of_eq rfl) (hf : rm.frames + 1 ≤ R.frames := by decide) (hl : W + (maxL + 11) + rm.locals ≤ R.locals := by decide) (hc : cells + rm.cells ≤ R.cells := by decide) (hs : slots + rm.slots ≤ R.slots := by decide) (hy : y.cls ≠ "java/lang/invoke/MethodHandle" ∧ y.cls ≠ "java/lang/invoke/VarHandle" := by decide) (hy1 : y.name = "<init>" := by rfl) :
    OwnCame p l e R s m args below meth c T locs cells slots rm Q pc (pc + 3) Ls (argsL.reverse ++ .ref a :: rest) rest := by
  obtain ⟨v, vm1, ⟨T', L', c', n'⟩, -, XB, ⟨L, hQ, l1, y1, z1⟩, st⟩ := X.specialBackNest hx (y := y) hy1 hown w1 (mvT hZ w2) (mvT hZ w4) hy (backOf (W := W) hM hZ w4 w3 hf hl) (g := mkF m pc Ls (argsL.reverse ++ .ref a :: rest)) rfl hsize (Steps.refl _) (a := a) (argsL := argsL) (rest := rest) hlen rfl (by show 2 * 0 + _ ≤ _; omega) hd (fun _ _ => ⟨has, eT, hc, hs⟩)
  dsimp only at XB l1 y1 z1 st hQ
  subst l1 y1 z1
  exact ⟨v, T', L, XB, hQ, fun t k => st.trans k⟩
end Calls
theorem own_narR {v : Value} (h : v.isRef = true) {t : FieldType} (ht : t.isReference = true := by rfl) : narrow t v = v := by
  rcases ref_cases h with rfl | ⟨a, rfl⟩ <;> cases t <;> first | rfl | cases ht
theorem own_fitR {v : Value} (h : v.isRef = true) {t : FieldType} (ht : t.isReference = true := by rfl) : fits t v = true := by
  rcases ref_cases h with rfl | ⟨a, rfl⟩ <;> cases t <;> first | rfl | cases ht
theorem own_catR {v : Value} (h : v.isRef = true) : v.category = 1 := by rcases ref_cases h with rfl | ⟨a, rfl⟩ <;> rfl
theorem own_arv_of_arh {Z : State} {h : Heap} {a : Addr} {k : ClassId} {ty : FieldType} {z : Int32} {vs : List Value} {dv : Value} (F : Arh Z h a k ty z [] vs dv) : Arv Z h a k ty z vs dv := by
  obtain ⟨c, A, q, S, N, H, G⟩ := F
  exact ⟨c, A, q, S, N, H, G⟩
theorem own_getD_all (j : Nat) (d : Value) : ∀ n, (List.replicate n d).getD j d = d := by
  intro n
  simp only [List.getD_eq_getElem?_getD, List.getElem?_replicate]
  split <;> rfl
theorem own_c_nar_char (x : Int32) : ((nar .char x).toInt - x.toInt) % 65536 = 0 ∧ 0 ≤ (nar .char x).toInt ∧ (nar .char x).toInt < 65536 := c_i2c x
theorem own_c_nar_byte (x : Int32) : ((nar .byte x).toInt - x.toInt) % 256 = 0 ∧ -128 ≤ (nar .byte x).toInt ∧ (nar .byte x).toInt < 128 := c_i2b x
theorem own_mask (x m : Int32) (k : Nat) (hk : k ≤ 31) (hm : m.toBitVec.toNat = 2 ^ k - 1) (P : Int) (hP : ((2 ^ k : Nat) : Int) = P) : (x &&& m).toInt = x.toInt % P := by rw [← hP]; exact c_mask x m k hk hm
theorem own_maskL (x m : Int64) (k : Nat) (hk : k ≤ 63) (hm : m.toBitVec.toNat = 2 ^ k - 1) (P : Int) (hP : ((2 ^ k : Nat) : Int) = P) : (x &&& m).toInt = x.toInt % P := by rw [← hP]; exact c_maskL x m k hk hm
theorem own_ushr (x q : Int32) (k : Nat) (hk : q.toBitVec.toNat % 32 = k) (h0 : 0 < k) (P : Int) (hP : ((2 ^ k : Nat) : Int) = P) : ((x.toUInt32 >>> (q &&& 31).toUInt32).toInt32).toInt = (x.toInt % 4294967296) / P := by rw [← hP]; exact c_iushr x q k hk h0
theorem own_shr (x q : Int32) (k : Nat) (hk : q.toBitVec.toNat % 32 = k) (P : Int) (hP : ((2 ^ k : Nat) : Int) = P) : (x >>> (q &&& 31)).toInt = x.toInt / P := by rw [← hP]; exact c_ishr x q k hk
theorem own_irem_eq (x y : Int32) : x - (x / y) * y = x % y := by
  have h : (x - (x / y) * y).toInt = (x % y).toInt := by
    rw [Int32.toInt_sub, Int32.toInt_mul, Int32.toInt_mod, Int32.toInt_div, Int.bmod_mul_bmod, Int.sub_bmod_bmod]
    have hx := x.le_toInt; have hx' := x.toInt_lt
    have e : x.toInt - x.toInt.tdiv y.toInt * y.toInt = x.toInt.tmod y.toInt := by rw [Int.tmod_def, Int.mul_comm]
    rw [e]
    have h4 : (x.toInt.tmod y.toInt) ≤ 2147483647 := by
      by_cases hp : 0 ≤ x.toInt
      · have := Int.natAbs_tmod x.toInt y.toInt; have := Nat.mod_le x.toInt.natAbs y.toInt.natAbs; omega
      · have := Int.tmod_nonneg (a := -x.toInt) y.toInt (by omega); rw [Int.neg_tmod] at this; omega
    have h5 : -2147483648 ≤ (x.toInt.tmod y.toInt) := by
      have := Int.natAbs_tmod x.toInt y.toInt; have := Nat.mod_le x.toInt.natAbs y.toInt.natAbs; omega
    exact Int.bmod_eq_of_le (by omega) (by omega)
  exact Int32.toInt_inj.mp h
theorem own_irem (x y : Int32) (d : Int) (hy : y.toInt = d) : (0 ≤ x.toInt → (x - (x / y) * y).toInt = x.toInt % d) ∧ (x.toInt < 0 → (x - (x / y) * y).toInt = -((-x.toInt) % d)) := by rw [own_irem_eq]; exact c_irem x y d hy
end Jvm.RoadKit
namespace Jvm.Pilot.@@N@@
open Jvm Jvm.ClassFile Sem Op Lib Jvm.Free Jvm.Stand Jvm.LawKit Jvm.RoadKit Bundle Jvm.Pilot.@@N@@.Jvm.D
abbrev sC (p : Int64) : UInt32 := FP.d2f (FP.ddiv (FP.l2d p) (4696837146684686336 : UInt64))
abbrev kT : String := "com/example/senret/senret/TopSentences"
abbrev HW (a0 : Array Value) (Z : State) : Prop := ∀ d ∈ tables_1, d.before a0 Z = true
def Q0 (n0 : Nat) (v : Option Value) (h : Heap) (L : List Loc) : Prop := v = some (.int 1) ∧ Fr n0 L
theorem own_eqI {args : Array Value} {first s : State} {o : Option Outcome} {idx : List Nat} {t : Term} {n : Int32} (h : (Jvm.Cond.eq t (.int n)).value args first o s idx = some true) : t.eval args first o idx s = some (.int n) := by
  simp only [Jvm.Cond.value, Term.eval] at h
  cases ht : t.eval args first o idx s with
  | none => simp [ht] at h
  | some x => cases x <;> simp [ht] at h ⊢; exact h
theorem own_eqR {args : Array Value} {first s : State} {o : Option Outcome} {idx : List Nat} {t u : Term} {a : Addr} (h : (Jvm.Cond.eq t u).value args first o s idx = some true) (hu : u.eval args first o idx s = some (.ref a)) : t.eval args first o idx s = some (.ref a) := by
  simp only [Jvm.Cond.value, hu] at h
  cases ht : t.eval args first o idx s with
  | none => simp [ht] at h
  | some x => cases x <;> simp [ht] at h ⊢; exact h
theorem own_len {args : Array Value} {s : State} {t : Term} {n : Int32} {a : Addr} {c : Cell} {ty : FieldType} (h : (Term.length t).eval args s none [] s = some (.int n)) (ev : t.eval args s none [] s = some (.ref a)) (A : Arr s s.heap a c ty) : c.slots.size < 2 ^ 31 ∧ c.slots.size.toInt32 = n := by
  have e := Arr.fin (Vm.Alike.refl _) A
  by_cases q : c.slots.size < 2 ^ 31
  · have := (len_f ev e q).symm.trans h
    exact ⟨q, by simpa using this⟩
  · simp [Term.eval, ev, e, q] at h
theorem own_k4 (p1 : Int32) : (p1 &&& (3 : Int32)) = (0 : Int32) ∨ (p1 &&& (3 : Int32)) = (1 : Int32) ∨ (p1 &&& (3 : Int32)) = (2 : Int32) ∨ (p1 &&& (3 : Int32)) = (3 : Int32) := by
  have h2 := Jvm.RoadKit.c_mask p1 (3 : Int32) 2 (by decide) (by decide)
  have h3 : (p1 &&& (3 : Int32)).toInt = 0 ∨ (p1 &&& (3 : Int32)).toInt = 1 ∨ (p1 &&& (3 : Int32)).toInt = 2 ∨ (p1 &&& (3 : Int32)).toInt = 3 := by omega
  rcases h3 with h | h | h | h
  · exact Or.inl (Int32.toInt_inj.mp h)
  · exact Or.inr (Or.inl (Int32.toInt_inj.mp h))
  · exact Or.inr (Or.inr (Or.inl (Int32.toInt_inj.mp h)))
  · exact Or.inr (Or.inr (Or.inr (Int32.toInt_inj.mp h)))
theorem own_nn64 (p : Int64) : Jvm.Free.Fl.NoNaN64 (FP.ddiv (FP.l2d p) (4696837146684686336 : UInt64)) := by
  refine Jvm.Free.Fl.noNaN64_no.mpr (FP.Core.ddiv_out (FP.Core.l2d_notNaN p) ?_ ?_)
  · exact ⟨false, 8589934592000000 / 1, -33, by decide +kernel⟩
  · rintro ⟨s, q, h⟩
    have e : FP.Core.val64 4696837146684686336 = .fin false (8589934592000000 / 1) (-33) := by decide +kernel
    rw [e] at h; cases h
theorem own_nn32 (p : Int64) : Jvm.Free.Fl.NoNaN32 (FP.d2f (FP.ddiv (FP.l2d p) (4696837146684686336 : UInt64))) := (Jvm.Free.Fl.noNaN_d2f _).mpr (own_nn64 p)
theorem own_v32 {r : UInt32} (h : Jvm.Free.Fl.NoNaN32 r) : FP.Core.val32 r ≠ .nan := fun e => by
  have := (FP.Core.fIsNaN_iff r).mpr e
  rw [Jvm.Free.Fl.noNaN32_no.mp h] at this
  cases this
theorem own_cv1 (o : CmpOp) : cmpValue (some .lt) o = (-1 : Int32) := rfl
theorem own_cv2 (o : CmpOp) : cmpValue (some .eq) o = (0 : Int32) := rfl
theorem own_cv3 (o : CmpOp) : cmpValue (some .gt) o = (1 : Int32) := rfl
def own_ok (a b c : Ordering) : Bool := match a, c, b with
  | .lt, .lt, .lt => true | .lt, .eq, .lt => true | .eq, .lt, .lt => true | .eq, .eq, .eq => true | .eq, .gt, .gt => true | .gt, .eq, .gt => true | .gt, .gt, .gt => true
  | .lt, .gt, _ => true | .gt, .lt, _ => true | _, _, _ => false
theorem own_ord (x y : Int) : (compare x y = .lt ∧ compare y x = .gt ∧ x < y) ∨ (compare x y = .eq ∧ compare y x = .eq ∧ x = y) ∨ (compare x y = .gt ∧ compare y x = .lt ∧ y < x) := by
  rcases Int.lt_trichotomy x y with h | h | h
  · exact Or.inl ⟨(FP.Core.compare_lt_iff _ _).mpr h, (FP.Core.compare_gt_iff _ _).mpr h, h⟩
  · exact Or.inr (Or.inl ⟨(FP.Core.compare_eq_iff _ _).mpr h, (FP.Core.compare_eq_iff _ _).mpr h.symm, h⟩)
  · exact Or.inr (Or.inr ⟨(FP.Core.compare_gt_iff _ _).mpr h, (FP.Core.compare_lt_iff _ _).mpr h, h⟩)

theorem own_fin_0 (r0 r1 r2 : UInt32) (o0 o1 o2 : Int32) (n0 : Jvm.Free.Fl.NoNaN32 r0) (n1 : Jvm.Free.Fl.NoNaN32 r1) (n2 : Jvm.Free.Fl.NoNaN32 r2) : (cmpValue (FP.fcmp (if (if (cmpValue (FP.fcmp r0 r1) .g) < (0 : Int32) then (1 : Int32) else (if (cmpValue (FP.fcmp r0 r1) .l) = (0 : Int32) then (if o0 < o1 then (1 : Int32) else (0 : Int32)) else (0 : Int32))) = (0 : Int32) then r0 else r1) (if (cmpValue (FP.fcmp r0 r1) .g) < (0 : Int32) then r1 else r0)) .l) = (0 : Int32) := by
  have h00 := FP.Core.fcmp_zval (own_v32 n0) (own_v32 n0)
  have h01 := FP.Core.fcmp_zval (own_v32 n0) (own_v32 n1)
  have h02 := FP.Core.fcmp_zval (own_v32 n0) (own_v32 n2)
  have h10 := FP.Core.fcmp_zval (own_v32 n1) (own_v32 n0)
  have h11 := FP.Core.fcmp_zval (own_v32 n1) (own_v32 n1)
  have h12 := FP.Core.fcmp_zval (own_v32 n1) (own_v32 n2)
  have h20 := FP.Core.fcmp_zval (own_v32 n2) (own_v32 n0)
  have h21 := FP.Core.fcmp_zval (own_v32 n2) (own_v32 n1)
  have h22 := FP.Core.fcmp_zval (own_v32 n2) (own_v32 n2)
  generalize FP.Core.zval FP.Core.b32 (FP.Core.val32 r0) = k0 at *
  generalize FP.Core.zval FP.Core.b32 (FP.Core.val32 r1) = k1 at *
  generalize FP.Core.zval FP.Core.b32 (FP.Core.val32 r2) = k2 at *
  rw [(FP.Core.compare_eq_iff _ _).mpr rfl] at h00 h11 h22
  rcases own_ord k0 k1 with ⟨a1, a2, a3⟩ | ⟨a1, a2, a3⟩ | ⟨a1, a2, a3⟩ <;> rcases own_ord k0 k2 with ⟨b1, b2, b3⟩ | ⟨b1, b2, b3⟩ | ⟨b1, b2, b3⟩ <;> rcases own_ord k1 k2 with ⟨c1, c2, c3⟩ | ⟨c1, c2, c3⟩ | ⟨c1, c2, c3⟩ <;> first | (exfalso; omega) | skip
  all_goals rw [a1] at h01; rw [a2] at h10; rw [b1] at h02; rw [b2] at h20; rw [c1] at h12; rw [c2] at h21; clear a1 a2 a3 b1 b2 b3 c1 c2 c3
  all_goals first | (simp [own_cv1, own_cv2, own_cv3, h00, h11, h22, h01, h10, h02, h20, h12, h21]; done) | (by_cases q0 : o1 < o0 <;> first | (simp [own_cv1, own_cv2, own_cv3, h00, h11, h22, h01, h10, h02, h20, h12, h21, q0]; done) | (by_cases q1 : o2 < o0 <;> first | (simp [own_cv1, own_cv2, own_cv3, h00, h11, h22, h01, h10, h02, h20, h12, h21, q0, q1]; done) | (by_cases q2 : o2 < o1 <;> first | (simp [own_cv1, own_cv2, own_cv3, h00, h11, h22, h01, h10, h02, h20, h12, h21, q0, q1, q2]; done) | (by_cases q3 : o0 < o2 <;> first | (simp [own_cv1, own_cv2, own_cv3, h00, h11, h22, h01, h10, h02, h20, h12, h21, q0, q1, q2, q3]; done) | (by_cases q4 : o1 < o2 <;> first | (simp [own_cv1, own_cv2, own_cv3, h00, h11, h22, h01, h10, h02, h20, h12, h21, q0, q1, q2, q3, q4]; done) | (by_cases q5 : o0 < o1 <;> (simp [own_cv1, own_cv2, own_cv3, h00, h11, h22, h01, h10, h02, h20, h12, h21, q0, q1, q2, q3, q4, q5]; done)))))))
theorem own_fin_1 (r0 r1 r2 : UInt32) (o0 o1 o2 : Int32) (n0 : Jvm.Free.Fl.NoNaN32 r0) (n1 : Jvm.Free.Fl.NoNaN32 r1) (n2 : Jvm.Free.Fl.NoNaN32 r2) : (cmpValue (FP.fcmp (if (if (cmpValue (FP.fcmp (if (if (cmpValue (FP.fcmp r0 r1) .g) < (0 : Int32) then (1 : Int32) else (if (cmpValue (FP.fcmp r0 r1) .l) = (0 : Int32) then (if o0 < o1 then (1 : Int32) else (0 : Int32)) else (0 : Int32))) = (0 : Int32) then r0 else r1) r2) .g) < (0 : Int32) then (1 : Int32) else (if (cmpValue (FP.fcmp (if (if (cmpValue (FP.fcmp r0 r1) .g) < (0 : Int32) then (1 : Int32) else (if (cmpValue (FP.fcmp r0 r1) .l) = (0 : Int32) then (if o0 < o1 then (1 : Int32) else (0 : Int32)) else (0 : Int32))) = (0 : Int32) then r0 else r1) r2) .l) = (0 : Int32) then (if (if (if (cmpValue (FP.fcmp r0 r1) .g) < (0 : Int32) then (1 : Int32) else (if (cmpValue (FP.fcmp r0 r1) .l) = (0 : Int32) then (if o0 < o1 then (1 : Int32) else (0 : Int32)) else (0 : Int32))) = (0 : Int32) then o0 else o1) < o2 then (1 : Int32) else (0 : Int32)) else (0 : Int32))) = (0 : Int32) then (if (if (cmpValue (FP.fcmp r0 r1) .g) < (0 : Int32) then (1 : Int32) else (if (cmpValue (FP.fcmp r0 r1) .l) = (0 : Int32) then (if o0 < o1 then (1 : Int32) else (0 : Int32)) else (0 : Int32))) = (0 : Int32) then r0 else r1) else r2) (if (cmpValue (FP.fcmp (if (cmpValue (FP.fcmp r0 r1) .g) < (0 : Int32) then r1 else r0) r2) .g) < (0 : Int32) then r2 else (if (cmpValue (FP.fcmp r0 r1) .g) < (0 : Int32) then r1 else r0))) .l) = (0 : Int32) := by
  have h00 := FP.Core.fcmp_zval (own_v32 n0) (own_v32 n0)
  have h01 := FP.Core.fcmp_zval (own_v32 n0) (own_v32 n1)
  have h02 := FP.Core.fcmp_zval (own_v32 n0) (own_v32 n2)
  have h10 := FP.Core.fcmp_zval (own_v32 n1) (own_v32 n0)
  have h11 := FP.Core.fcmp_zval (own_v32 n1) (own_v32 n1)
  have h12 := FP.Core.fcmp_zval (own_v32 n1) (own_v32 n2)
  have h20 := FP.Core.fcmp_zval (own_v32 n2) (own_v32 n0)
  have h21 := FP.Core.fcmp_zval (own_v32 n2) (own_v32 n1)
  have h22 := FP.Core.fcmp_zval (own_v32 n2) (own_v32 n2)
  generalize FP.Core.zval FP.Core.b32 (FP.Core.val32 r0) = k0 at *
  generalize FP.Core.zval FP.Core.b32 (FP.Core.val32 r1) = k1 at *
  generalize FP.Core.zval FP.Core.b32 (FP.Core.val32 r2) = k2 at *
  rw [(FP.Core.compare_eq_iff _ _).mpr rfl] at h00 h11 h22
  rcases own_ord k0 k1 with ⟨a1, a2, a3⟩ | ⟨a1, a2, a3⟩ | ⟨a1, a2, a3⟩ <;> rcases own_ord k0 k2 with ⟨b1, b2, b3⟩ | ⟨b1, b2, b3⟩ | ⟨b1, b2, b3⟩ <;> rcases own_ord k1 k2 with ⟨c1, c2, c3⟩ | ⟨c1, c2, c3⟩ | ⟨c1, c2, c3⟩ <;> first | (exfalso; omega) | skip
  all_goals rw [a1] at h01; rw [a2] at h10; rw [b1] at h02; rw [b2] at h20; rw [c1] at h12; rw [c2] at h21; clear a1 a2 a3 b1 b2 b3 c1 c2 c3
  all_goals first | (simp [own_cv1, own_cv2, own_cv3, h00, h11, h22, h01, h10, h02, h20, h12, h21]; done) | (by_cases q0 : o1 < o0 <;> first | (simp [own_cv1, own_cv2, own_cv3, h00, h11, h22, h01, h10, h02, h20, h12, h21, q0]; done) | (by_cases q1 : o2 < o0 <;> first | (simp [own_cv1, own_cv2, own_cv3, h00, h11, h22, h01, h10, h02, h20, h12, h21, q0, q1]; done) | (by_cases q2 : o2 < o1 <;> first | (simp [own_cv1, own_cv2, own_cv3, h00, h11, h22, h01, h10, h02, h20, h12, h21, q0, q1, q2]; done) | (by_cases q3 : o0 < o2 <;> first | (simp [own_cv1, own_cv2, own_cv3, h00, h11, h22, h01, h10, h02, h20, h12, h21, q0, q1, q2, q3]; done) | (by_cases q4 : o1 < o2 <;> first | (simp [own_cv1, own_cv2, own_cv3, h00, h11, h22, h01, h10, h02, h20, h12, h21, q0, q1, q2, q3, q4]; done) | (by_cases q5 : o0 < o1 <;> (simp [own_cv1, own_cv2, own_cv3, h00, h11, h22, h01, h10, h02, h20, h12, h21, q0, q1, q2, q3, q4, q5]; done)))))))
theorem own_fin_2 (r0 r1 r2 : UInt32) (o0 o1 o2 : Int32) (n0 : Jvm.Free.Fl.NoNaN32 r0) (n1 : Jvm.Free.Fl.NoNaN32 r1) (n2 : Jvm.Free.Fl.NoNaN32 r2) : (cmpValue (FP.fcmp (if (if (cmpValue (FP.fcmp r1 r0) .g) < (0 : Int32) then (1 : Int32) else (if (cmpValue (FP.fcmp r1 r0) .l) = (0 : Int32) then (if o1 < o0 then (1 : Int32) else (0 : Int32)) else (0 : Int32))) = (0 : Int32) then r0 else r1) (if (cmpValue (FP.fcmp r0 r1) .g) < (0 : Int32) then r0 else r1)) .l) = (0 : Int32) := by
  have h00 := FP.Core.fcmp_zval (own_v32 n0) (own_v32 n0)
  have h01 := FP.Core.fcmp_zval (own_v32 n0) (own_v32 n1)
  have h02 := FP.Core.fcmp_zval (own_v32 n0) (own_v32 n2)
  have h10 := FP.Core.fcmp_zval (own_v32 n1) (own_v32 n0)
  have h11 := FP.Core.fcmp_zval (own_v32 n1) (own_v32 n1)
  have h12 := FP.Core.fcmp_zval (own_v32 n1) (own_v32 n2)
  have h20 := FP.Core.fcmp_zval (own_v32 n2) (own_v32 n0)
  have h21 := FP.Core.fcmp_zval (own_v32 n2) (own_v32 n1)
  have h22 := FP.Core.fcmp_zval (own_v32 n2) (own_v32 n2)
  generalize FP.Core.zval FP.Core.b32 (FP.Core.val32 r0) = k0 at *
  generalize FP.Core.zval FP.Core.b32 (FP.Core.val32 r1) = k1 at *
  generalize FP.Core.zval FP.Core.b32 (FP.Core.val32 r2) = k2 at *
  rw [(FP.Core.compare_eq_iff _ _).mpr rfl] at h00 h11 h22
  rcases own_ord k0 k1 with ⟨a1, a2, a3⟩ | ⟨a1, a2, a3⟩ | ⟨a1, a2, a3⟩ <;> rcases own_ord k0 k2 with ⟨b1, b2, b3⟩ | ⟨b1, b2, b3⟩ | ⟨b1, b2, b3⟩ <;> rcases own_ord k1 k2 with ⟨c1, c2, c3⟩ | ⟨c1, c2, c3⟩ | ⟨c1, c2, c3⟩ <;> first | (exfalso; omega) | skip
  all_goals rw [a1] at h01; rw [a2] at h10; rw [b1] at h02; rw [b2] at h20; rw [c1] at h12; rw [c2] at h21; clear a1 a2 a3 b1 b2 b3 c1 c2 c3
  all_goals first | (simp [own_cv1, own_cv2, own_cv3, h00, h11, h22, h01, h10, h02, h20, h12, h21]; done) | (by_cases q0 : o1 < o0 <;> first | (simp [own_cv1, own_cv2, own_cv3, h00, h11, h22, h01, h10, h02, h20, h12, h21, q0]; done) | (by_cases q1 : o2 < o0 <;> first | (simp [own_cv1, own_cv2, own_cv3, h00, h11, h22, h01, h10, h02, h20, h12, h21, q0, q1]; done) | (by_cases q2 : o2 < o1 <;> first | (simp [own_cv1, own_cv2, own_cv3, h00, h11, h22, h01, h10, h02, h20, h12, h21, q0, q1, q2]; done) | (by_cases q3 : o0 < o2 <;> first | (simp [own_cv1, own_cv2, own_cv3, h00, h11, h22, h01, h10, h02, h20, h12, h21, q0, q1, q2, q3]; done) | (by_cases q4 : o1 < o2 <;> first | (simp [own_cv1, own_cv2, own_cv3, h00, h11, h22, h01, h10, h02, h20, h12, h21, q0, q1, q2, q3, q4]; done) | (by_cases q5 : o0 < o1 <;> (simp [own_cv1, own_cv2, own_cv3, h00, h11, h22, h01, h10, h02, h20, h12, h21, q0, q1, q2, q3, q4, q5]; done)))))))
theorem own_fin_3 (r0 r1 r2 : UInt32) (o0 o1 o2 : Int32) (n0 : Jvm.Free.Fl.NoNaN32 r0) (n1 : Jvm.Free.Fl.NoNaN32 r1) (n2 : Jvm.Free.Fl.NoNaN32 r2) : (cmpValue (FP.fcmp (if (if (cmpValue (FP.fcmp (if (if (cmpValue (FP.fcmp r1 r0) .g) < (0 : Int32) then (1 : Int32) else (if (cmpValue (FP.fcmp r1 r0) .l) = (0 : Int32) then (if o1 < o0 then (1 : Int32) else (0 : Int32)) else (0 : Int32))) = (0 : Int32) then r0 else r1) r2) .g) < (0 : Int32) then (1 : Int32) else (if (cmpValue (FP.fcmp (if (if (cmpValue (FP.fcmp r1 r0) .g) < (0 : Int32) then (1 : Int32) else (if (cmpValue (FP.fcmp r1 r0) .l) = (0 : Int32) then (if o1 < o0 then (1 : Int32) else (0 : Int32)) else (0 : Int32))) = (0 : Int32) then r0 else r1) r2) .l) = (0 : Int32) then (if (if (if (cmpValue (FP.fcmp r1 r0) .g) < (0 : Int32) then (1 : Int32) else (if (cmpValue (FP.fcmp r1 r0) .l) = (0 : Int32) then (if o1 < o0 then (1 : Int32) else (0 : Int32)) else (0 : Int32))) = (0 : Int32) then o0 else o1) < o2 then (1 : Int32) else (0 : Int32)) else (0 : Int32))) = (0 : Int32) then (if (if (cmpValue (FP.fcmp r1 r0) .g) < (0 : Int32) then (1 : Int32) else (if (cmpValue (FP.fcmp r1 r0) .l) = (0 : Int32) then (if o1 < o0 then (1 : Int32) else (0 : Int32)) else (0 : Int32))) = (0 : Int32) then r0 else r1) else (if (if (cmpValue (FP.fcmp (if (if (cmpValue (FP.fcmp r1 r0) .g) < (0 : Int32) then (1 : Int32) else (if (cmpValue (FP.fcmp r1 r0) .l) = (0 : Int32) then (if o1 < o0 then (1 : Int32) else (0 : Int32)) else (0 : Int32))) = (0 : Int32) then r1 else r0) r2) .g) < (0 : Int32) then (1 : Int32) else (if (cmpValue (FP.fcmp (if (if (cmpValue (FP.fcmp r1 r0) .g) < (0 : Int32) then (1 : Int32) else (if (cmpValue (FP.fcmp r1 r0) .l) = (0 : Int32) then (if o1 < o0 then (1 : Int32) else (0 : Int32)) else (0 : Int32))) = (0 : Int32) then r1 else r0) r2) .l) = (0 : Int32) then (if (if (if (cmpValue (FP.fcmp r1 r0) .g) < (0 : Int32) then (1 : Int32) else (if (cmpValue (FP.fcmp r1 r0) .l) = (0 : Int32) then (if o1 < o0 then (1 : Int32) else (0 : Int32)) else (0 : Int32))) = (0 : Int32) then o1 else o0) < o2 then (1 : Int32) else (0 : Int32)) else (0 : Int32))) = (0 : Int32) then r2 else (if (if (cmpValue (FP.fcmp r1 r0) .g) < (0 : Int32) then (1 : Int32) else (if (cmpValue (FP.fcmp r1 r0) .l) = (0 : Int32) then (if o1 < o0 then (1 : Int32) else (0 : Int32)) else (0 : Int32))) = (0 : Int32) then r1 else r0))) (if (cmpValue (FP.fcmp r0 r1) .g) < (0 : Int32) then (if (cmpValue (FP.fcmp r1 r2) .g) < (0 : Int32) then r1 else (if (cmpValue (FP.fcmp r0 r2) .g) < (0 : Int32) then r2 else r0)) else (if (cmpValue (FP.fcmp r0 r2) .g) < (0 : Int32) then r0 else (if (cmpValue (FP.fcmp r1 r2) .g) < (0 : Int32) then r2 else r1)))) .l) = (0 : Int32) := by
  have h00 := FP.Core.fcmp_zval (own_v32 n0) (own_v32 n0)
  have h01 := FP.Core.fcmp_zval (own_v32 n0) (own_v32 n1)
  have h02 := FP.Core.fcmp_zval (own_v32 n0) (own_v32 n2)
  have h10 := FP.Core.fcmp_zval (own_v32 n1) (own_v32 n0)
  have h11 := FP.Core.fcmp_zval (own_v32 n1) (own_v32 n1)
  have h12 := FP.Core.fcmp_zval (own_v32 n1) (own_v32 n2)
  have h20 := FP.Core.fcmp_zval (own_v32 n2) (own_v32 n0)
  have h21 := FP.Core.fcmp_zval (own_v32 n2) (own_v32 n1)
  have h22 := FP.Core.fcmp_zval (own_v32 n2) (own_v32 n2)
  generalize FP.Core.zval FP.Core.b32 (FP.Core.val32 r0) = k0 at *
  generalize FP.Core.zval FP.Core.b32 (FP.Core.val32 r1) = k1 at *
  generalize FP.Core.zval FP.Core.b32 (FP.Core.val32 r2) = k2 at *
  rw [(FP.Core.compare_eq_iff _ _).mpr rfl] at h00 h11 h22
  rcases own_ord k0 k1 with ⟨a1, a2, a3⟩ | ⟨a1, a2, a3⟩ | ⟨a1, a2, a3⟩ <;> rcases own_ord k0 k2 with ⟨b1, b2, b3⟩ | ⟨b1, b2, b3⟩ | ⟨b1, b2, b3⟩ <;> rcases own_ord k1 k2 with ⟨c1, c2, c3⟩ | ⟨c1, c2, c3⟩ | ⟨c1, c2, c3⟩ <;> first | (exfalso; omega) | skip
  all_goals rw [a1] at h01; rw [a2] at h10; rw [b1] at h02; rw [b2] at h20; rw [c1] at h12; rw [c2] at h21; clear a1 a2 a3 b1 b2 b3 c1 c2 c3
  all_goals first | (simp [own_cv1, own_cv2, own_cv3, h00, h11, h22, h01, h10, h02, h20, h12, h21]; done) | (by_cases q0 : o1 < o0 <;> first | (simp [own_cv1, own_cv2, own_cv3, h00, h11, h22, h01, h10, h02, h20, h12, h21, q0]; done) | (by_cases q1 : o2 < o0 <;> first | (simp [own_cv1, own_cv2, own_cv3, h00, h11, h22, h01, h10, h02, h20, h12, h21, q0, q1]; done) | (by_cases q2 : o2 < o1 <;> first | (simp [own_cv1, own_cv2, own_cv3, h00, h11, h22, h01, h10, h02, h20, h12, h21, q0, q1, q2]; done) | (by_cases q3 : o0 < o2 <;> first | (simp [own_cv1, own_cv2, own_cv3, h00, h11, h22, h01, h10, h02, h20, h12, h21, q0, q1, q2, q3]; done) | (by_cases q4 : o1 < o2 <;> first | (simp [own_cv1, own_cv2, own_cv3, h00, h11, h22, h01, h10, h02, h20, h12, h21, q0, q1, q2, q3, q4]; done) | (by_cases q5 : o0 < o1 <;> (simp [own_cv1, own_cv2, own_cv3, h00, h11, h22, h01, h10, h02, h20, h12, h21, q0, q1, q2, q3, q4, q5]; done)))))))
theorem own_fin_4 (r0 r1 r2 : UInt32) (o0 o1 o2 : Int32) (n0 : Jvm.Free.Fl.NoNaN32 r0) (n1 : Jvm.Free.Fl.NoNaN32 r1) (n2 : Jvm.Free.Fl.NoNaN32 r2) : (cmpValue (FP.fcmp (if (if (cmpValue (FP.fcmp r2 (if (if (cmpValue (FP.fcmp r1 r0) .g) < (0 : Int32) then (1 : Int32) else (if (cmpValue (FP.fcmp r1 r0) .l) = (0 : Int32) then (if o1 < o0 then (1 : Int32) else (0 : Int32)) else (0 : Int32))) = (0 : Int32) then r0 else r1)) .g) < (0 : Int32) then (1 : Int32) else (if (cmpValue (FP.fcmp r2 (if (if (cmpValue (FP.fcmp r1 r0) .g) < (0 : Int32) then (1 : Int32) else (if (cmpValue (FP.fcmp r1 r0) .l) = (0 : Int32) then (if o1 < o0 then (1 : Int32) else (0 : Int32)) else (0 : Int32))) = (0 : Int32) then r0 else r1)) .l) = (0 : Int32) then (if o2 < (if (if (cmpValue (FP.fcmp r1 r0) .g) < (0 : Int32) then (1 : Int32) else (if (cmpValue (FP.fcmp r1 r0) .l) = (0 : Int32) then (if o1 < o0 then (1 : Int32) else (0 : Int32)) else (0 : Int32))) = (0 : Int32) then o0 else o1) then (1 : Int32) else (0 : Int32)) else (0 : Int32))) = (0 : Int32) then (if (if (cmpValue (FP.fcmp r1 r0) .g) < (0 : Int32) then (1 : Int32) else (if (cmpValue (FP.fcmp r1 r0) .l) = (0 : Int32) then (if o1 < o0 then (1 : Int32) else (0 : Int32)) else (0 : Int32))) = (0 : Int32) then r0 else r1) else r2) (if (cmpValue (FP.fcmp (if (cmpValue (FP.fcmp r0 r1) .g) < (0 : Int32) then r0 else r1) r2) .g) < (0 : Int32) then (if (cmpValue (FP.fcmp r0 r1) .g) < (0 : Int32) then r0 else r1) else r2)) .l) = (0 : Int32) := by
  have h00 := FP.Core.fcmp_zval (own_v32 n0) (own_v32 n0)
  have h01 := FP.Core.fcmp_zval (own_v32 n0) (own_v32 n1)
  have h02 := FP.Core.fcmp_zval (own_v32 n0) (own_v32 n2)
  have h10 := FP.Core.fcmp_zval (own_v32 n1) (own_v32 n0)
  have h11 := FP.Core.fcmp_zval (own_v32 n1) (own_v32 n1)
  have h12 := FP.Core.fcmp_zval (own_v32 n1) (own_v32 n2)
  have h20 := FP.Core.fcmp_zval (own_v32 n2) (own_v32 n0)
  have h21 := FP.Core.fcmp_zval (own_v32 n2) (own_v32 n1)
  have h22 := FP.Core.fcmp_zval (own_v32 n2) (own_v32 n2)
  generalize FP.Core.zval FP.Core.b32 (FP.Core.val32 r0) = k0 at *
  generalize FP.Core.zval FP.Core.b32 (FP.Core.val32 r1) = k1 at *
  generalize FP.Core.zval FP.Core.b32 (FP.Core.val32 r2) = k2 at *
  rw [(FP.Core.compare_eq_iff _ _).mpr rfl] at h00 h11 h22
  rcases own_ord k0 k1 with ⟨a1, a2, a3⟩ | ⟨a1, a2, a3⟩ | ⟨a1, a2, a3⟩ <;> rcases own_ord k0 k2 with ⟨b1, b2, b3⟩ | ⟨b1, b2, b3⟩ | ⟨b1, b2, b3⟩ <;> rcases own_ord k1 k2 with ⟨c1, c2, c3⟩ | ⟨c1, c2, c3⟩ | ⟨c1, c2, c3⟩ <;> first | (exfalso; omega) | skip
  all_goals rw [a1] at h01; rw [a2] at h10; rw [b1] at h02; rw [b2] at h20; rw [c1] at h12; rw [c2] at h21; clear a1 a2 a3 b1 b2 b3 c1 c2 c3
  all_goals first | (simp [own_cv1, own_cv2, own_cv3, h00, h11, h22, h01, h10, h02, h20, h12, h21]; done) | (by_cases q0 : o1 < o0 <;> first | (simp [own_cv1, own_cv2, own_cv3, h00, h11, h22, h01, h10, h02, h20, h12, h21, q0]; done) | (by_cases q1 : o2 < o0 <;> first | (simp [own_cv1, own_cv2, own_cv3, h00, h11, h22, h01, h10, h02, h20, h12, h21, q0, q1]; done) | (by_cases q2 : o2 < o1 <;> first | (simp [own_cv1, own_cv2, own_cv3, h00, h11, h22, h01, h10, h02, h20, h12, h21, q0, q1, q2]; done) | (by_cases q3 : o0 < o2 <;> first | (simp [own_cv1, own_cv2, own_cv3, h00, h11, h22, h01, h10, h02, h20, h12, h21, q0, q1, q2, q3]; done) | (by_cases q4 : o1 < o2 <;> first | (simp [own_cv1, own_cv2, own_cv3, h00, h11, h22, h01, h10, h02, h20, h12, h21, q0, q1, q2, q3, q4]; done) | (by_cases q5 : o0 < o1 <;> (simp [own_cv1, own_cv2, own_cv3, h00, h11, h22, h01, h10, h02, h20, h12, h21, q0, q1, q2, q3, q4, q5]; done)))))))
theorem d1_0 : decode prog_20_method_3_code 0 = .ok (.lload_n 0, 1) := by decide +kernel
theorem d1_1 : decode prog_20_method_3_code 1 = .ok (.l2d, 1) := by decide +kernel
theorem d1_2 : decode prog_20_method_3_code 2 = .ok (.ldc2_w 32, 3) := by decide +kernel
theorem w_4 {a0 : Array Value} {Z : State} (hw : HW a0 Z) : Jvm.Cond.before (Jvm.Cond.constantDouble "com/example/senret/senret/RankedSentence" (32 : Nat) (4696837146684686336 : UInt64)) a0 Z = true := hw _ (List.mem_of_getElem? (i := 4) rfl)
theorem d1_5 : decode prog_20_method_3_code 5 = .ok (.ddiv, 1) := by decide +kernel
theorem d1_6 : decode prog_20_method_3_code 6 = .ok (.d2f, 1) := by decide +kernel
theorem d1_7 : decode prog_20_method_3_code 7 = .ok (.freturn, 1) := by decide +kernel
theorem ef_54bffd (q1 : Int64) (m : MethodId) : entryFrame m #[(.long q1)] 2 = mkF m 0 #[.val (.long q1), .second] [] := by first | (simp [entryFrame, mkF, argsToLocals, Value.category]; done) | rfl
abbrev y_0 : MethodName := ⟨"com/example/senret/senret/RankedSentence", "asRead", "(J)F"⟩
theorem pn_0 : plainName "com/example/senret/senret/RankedSentence" = true := by first | (simp [plainName, overriddenIn]; done) | decide +kernel
-- com/example/senret/senret/RankedSentence.asRead(J)F
abbrev Rm1 : Room := { frames := 0, cells := 0, slots := 0, locals := 0 }
def Q1 (Z : State) (q1 : Int64) (h0 : Heap) (n0 : Nat) (v : Option Value) (h : Heap) (L : List Loc) : Prop := v = some (.float (sC q1)) ∧ Fr n0 L ∧ h = h0
-- ef_54bffd
theorem rm1 (l : Launch) (Z : State) (a0 : Array Value) (hw : HW a0 Z) (ws : List Jvm.Cond) (q1 : Int64) (h0 : Heap) (n0 : Nat) (Z0 : n0 ≤ h0.size) :
    OwnMet l Z y_0 prog_20_method_3_code 2 (some .float) ws Rm1 #[(.long q1)] h0 (Q1 Z q1 h0 n0) := by
  refine own_body (plainFor_of_name pn_0) (ef_54bffd q1) ?_
  intro p e s m below meth c s₁ hx hby hml hown hnm hret hZ X0 e0
  have N0 := Fr.nil n0
  refine ⟨s₁, _, _, _, (some (.float (sC q1))), X0, nofun, by decide, by decide, ?_, fun fs hr => ?_⟩
  · rw [e0]
    exact ⟨rfl, N0, rfl⟩
  · refine XS.lloadN X0.here hx rfl (hb hby d1_0) rfl ?_
    refine XS.l2dS X0.here hx rfl (hb hby d1_1) rfl rfl ?_
    refine X0.ldc2DoubleC hx hown (mvT hZ (w_4 hw)) (g := (mkF m 2 #[.val (.long q1), .second] [(.double (FP.l2d q1))])) rfl (hb hby d1_2) _ ?_
    refine XS.ddivS X0.here hx rfl (hb hby d1_5) rfl (own_nn64 _) rfl ?_
    refine XS.d2fS X0.here hx rfl (hb hby d1_6) rfl (own_nn32 _) rfl ?_
    exact retOut X0 hx hret rfl (Or.inr (Or.inr (Or.inr (Or.inl ⟨rfl, rfl, _, rfl⟩)))) (hb hby d1_7) hr
theorem pd_0 : parseMethodDescriptor "(J)F" = some ⟨[.long], some .float⟩ := by decide +kernel
theorem w_2 {a0 : Array Value} {Z : State} (hw : HW a0 Z) : Jvm.Cond.before (Jvm.Cond.initialized "com/example/senret/senret/RankedSentence") a0 Z = true := hw _ (List.mem_of_getElem? (i := 2) rfl)
theorem w_3 {a0 : Array Value} {Z : State} (hw : HW a0 Z) : Jvm.Cond.before (Jvm.Cond.code ({ cls := "com/example/senret/senret/RankedSentence", name := "asRead", desc := "(J)F" } : Jvm.MethodName) prog_20_method_3_code (2 : Nat) (Option.some Jvm.ClassFile.FieldType.float)) a0 Z = true := hw _ (List.mem_of_getElem? (i := 3) rfl)
theorem w_0 {a0 : Array Value} {Z : State} (hw : HW a0 Z) : Jvm.Cond.before (Jvm.Cond.methodLink "com/example/senret/senret/TopSentencesLowestAdmittedPinLaw" (7 : Nat) ({ cls := "com/example/senret/senret/RankedSentence", name := "asRead", desc := "(J)F" } : Jvm.MethodName)) a0 Z = true := hw _ (List.mem_of_getElem? (i := 0) rfl)
theorem w_1 {a0 : Array Value} {Z : State} (hw : HW a0 Z) : Jvm.Cond.before (Jvm.Cond.static ({ cls := "com/example/senret/senret/RankedSentence", name := "asRead", desc := "(J)F" } : Jvm.MethodName)) a0 Z = true := hw _ (List.mem_of_getElem? (i := 1) rfl)
theorem w_5 {a0 : Array Value} {Z : State} (hw : HW a0 Z) : Jvm.Cond.before (Jvm.Cond.classLink "com/example/senret/senret/TopSentencesLowestAdmittedPinLaw" (13 : Nat) "com/example/senret/senret/TopSentences") a0 Z = true := hw _ (List.mem_of_getElem? (i := 5) rfl)
theorem w_6 {a0 : Array Value} {Z : State} (hw : HW a0 Z) : Jvm.Cond.before (Jvm.Cond.instantiable "com/example/senret/senret/TopSentences" (5 : Nat)) a0 Z = true := hw _ (List.mem_of_getElem? (i := 6) rfl)
theorem w_7 {a0 : Array Value} {Z : State} (hw : HW a0 Z) : Jvm.Cond.before (Jvm.Cond.initialized "com/example/senret/senret/TopSentences") a0 Z = true := hw _ (List.mem_of_getElem? (i := 7) rfl)
theorem w_15 {a0 : Array Value} {Z : State} (hw : HW a0 Z) : Jvm.Cond.before (Jvm.Cond.laysFinal "com/example/senret/senret/TopSentences" "com/example/senret/senret/TopSentences" "depth" "I") a0 Z = true := hw _ (List.mem_of_getElem? (i := 15) rfl)
theorem w_22 {a0 : Array Value} {Z : State} (hw : HW a0 Z) : Jvm.Cond.before (Jvm.Cond.lays "com/example/senret/senret/TopSentences" "com/example/senret/senret/TopSentences" "scoresAsRead" "[F") a0 Z = true := hw _ (List.mem_of_getElem? (i := 22) rfl)
theorem w_25 {a0 : Array Value} {Z : State} (hw : HW a0 Z) : Jvm.Cond.before (Jvm.Cond.lays "com/example/senret/senret/TopSentences" "com/example/senret/senret/TopSentences" "scores" "[J") a0 Z = true := hw _ (List.mem_of_getElem? (i := 25) rfl)
theorem w_28 {a0 : Array Value} {Z : State} (hw : HW a0 Z) : Jvm.Cond.before (Jvm.Cond.lays "com/example/senret/senret/TopSentences" "com/example/senret/senret/TopSentences" "ordinals" "[I") a0 Z = true := hw _ (List.mem_of_getElem? (i := 28) rfl)
theorem w_35 {a0 : Array Value} {Z : State} (hw : HW a0 Z) : Jvm.Cond.before (Jvm.Cond.lays "com/example/senret/senret/TopSentences" "com/example/senret/senret/TopSentences" "size" "I") a0 Z = true := hw _ (List.mem_of_getElem? (i := 35) rfl)
theorem d2_0 : decode prog_25_method_1_code 0 = .ok (.aload_n 0, 1) := by decide +kernel
theorem d2_1 : decode prog_25_method_1_code 1 = .ok (.invokespecial 1, 3) := by decide +kernel
theorem w_11 {a0 : Array Value} {Z : State} (hw : HW a0 Z) : Jvm.Cond.before (Jvm.Cond.methodLink "com/example/senret/senret/TopSentences" (1 : Nat) ({ cls := "java/lang/Object", name := "<init>", desc := "()V" } : Jvm.MethodName)) a0 Z = true := hw _ (List.mem_of_getElem? (i := 11) rfl)
theorem w_12 {a0 : Array Value} {Z : State} (hw : HW a0 Z) : Jvm.Cond.before (Jvm.Cond.instanceMethod ({ cls := "java/lang/Object", name := "<init>", desc := "()V" } : Jvm.MethodName)) a0 Z = true := hw _ (List.mem_of_getElem? (i := 12) rfl)
theorem w_13 {a0 : Array Value} {Z : State} (hw : HW a0 Z) : Jvm.Cond.before (Jvm.Cond.code ({ cls := "java/lang/Object", name := "<init>", desc := "()V" } : Jvm.MethodName) object_method_1_code (1 : Nat) (Option.none : Option Jvm.ClassFile.FieldType)) a0 Z = true := hw _ (List.mem_of_getElem? (i := 13) rfl)
theorem d2_4 : decode prog_25_method_1_code 4 = .ok (.aload_n 0, 1) := by decide +kernel
theorem d2_5 : decode prog_25_method_1_code 5 = .ok (.iload_n 1, 1) := by decide +kernel
theorem d2_6 : decode prog_25_method_1_code 6 = .ok (.putfield 7, 3) := by decide +kernel
theorem w_14 {a0 : Array Value} {Z : State} (hw : HW a0 Z) : Jvm.Cond.before (Jvm.Cond.fieldLink "com/example/senret/senret/TopSentences" (7 : Nat) "com/example/senret/senret/TopSentences" "depth" "I") a0 Z = true := hw _ (List.mem_of_getElem? (i := 14) rfl)
theorem d2_9 : decode prog_25_method_1_code 9 = .ok (.iload_n 1, 1) := by decide +kernel
theorem d2_10 : decode prog_25_method_1_code 10 = .ok (.sipush 1024, 3) := by decide +kernel
theorem d2_13 : decode prog_25_method_1_code 13 = .ok (.invokestatic 13, 3) := by decide +kernel
theorem d4_0 : decode jdk_29_method_69_code 0 = .ok (.iload_n 0, 1) := by decide +kernel
theorem d4_1 : decode jdk_29_method_69_code 1 = .ok (.iload_n 1, 1) := by decide +kernel
theorem d4_2 : decode jdk_29_method_69_code 2 = .ok (.if_icmp .gt 7, 3) := by decide +kernel
theorem d4_5 : decode jdk_29_method_69_code 5 = .ok (.iload_n 0, 1) := by decide +kernel
theorem d4_6 : decode jdk_29_method_69_code 6 = .ok (.goto 4, 3) := by decide +kernel
theorem d4_10 : decode jdk_29_method_69_code 10 = .ok (.ireturn, 1) := by decide +kernel
theorem ef_527414  (m : MethodId) : entryFrame m #[(.int 1), (.int 1024)] 2 = mkF m 0 #[.val (.int 1), .val (.int 1024)] [] := by first | (simp [entryFrame, mkF, argsToLocals, Value.category]; done) | rfl
abbrev y_1 : MethodName := ⟨"java/lang/Math", "min", "(II)I"⟩
-- java/lang/Math.min(II)I
abbrev Rm2 : Room := { frames := 0, cells := 0, slots := 0, locals := 0 }
def Q2 (Z : State)  (h0 : Heap) (n0 : Nat) (v : Option Value) (h : Heap) (L : List Loc) : Prop := v = some (.int 1) ∧ Fr n0 L ∧ h = h0
-- ef_527414
theorem rm2 (l : Launch) (Z : State) (a0 : Array Value) (hw : HW a0 Z) (ws : List Jvm.Cond)  (h0 : Heap) (n0 : Nat) (Z0 : n0 ≤ h0.size) :
    OwnMet l Z y_1 jdk_29_method_69_code 2 (some .int) ws Rm2 #[(.int 1), (.int 1024)] h0 (Q2 Z  h0 n0) := by
  refine own_body (Jvm.Free.JP.mathPlain rfl (by decide +kernel)) (ef_527414) ?_
  intro p e s m below meth c s₁ hx hby hml hown hnm hret hZ X0 e0
  have N0 := Fr.nil n0
  refine ⟨s₁, _, _, _, (some (.int 1)), X0, nofun, by decide, by decide, ?_, fun fs hr => ?_⟩
  · rw [e0]
    exact ⟨rfl, N0, rfl⟩
  · refine XS.iloadN X0.here hx rfl (hb hby d4_0) rfl ?_
    refine XS.iloadN X0.here hx rfl (hb hby d4_1) rfl ?_
    refine XS.icmpNo X0.here hx rfl (hb hby d4_2) rfl (flt ((by decide : ¬ ((1024 : Int32) < (1 : Int32))) : ¬ ((1024 : Int32) < (1 : Int32)))).2.2.1 ?_
    refine XS.iloadN X0.here hx rfl (hb hby d4_5) rfl ?_
    refine XS.goto X0.here hx rfl (pc0 := 6) (pc' := 10) rfl (hb hby d4_6) (by decide) (by decide) ?_
    exact retI X0 hx hret (hb hby d4_10) hr
theorem pd_1 : parseMethodDescriptor "(II)I" = some ⟨[.int, .int], some .int⟩ := by decide +kernel
theorem w_18 {a0 : Array Value} {Z : State} (hw : HW a0 Z) : Jvm.Cond.before (Jvm.Cond.initialized "java/lang/Math") a0 Z = true := hw _ (List.mem_of_getElem? (i := 18) rfl)
theorem w_19 {a0 : Array Value} {Z : State} (hw : HW a0 Z) : Jvm.Cond.before (Jvm.Cond.code ({ cls := "java/lang/Math", name := "min", desc := "(II)I" } : Jvm.MethodName) jdk_29_method_69_code (2 : Nat) (Option.some Jvm.ClassFile.FieldType.int)) a0 Z = true := hw _ (List.mem_of_getElem? (i := 19) rfl)
theorem w_16 {a0 : Array Value} {Z : State} (hw : HW a0 Z) : Jvm.Cond.before (Jvm.Cond.methodLink "com/example/senret/senret/TopSentences" (13 : Nat) ({ cls := "java/lang/Math", name := "min", desc := "(II)I" } : Jvm.MethodName)) a0 Z = true := hw _ (List.mem_of_getElem? (i := 16) rfl)
theorem w_17 {a0 : Array Value} {Z : State} (hw : HW a0 Z) : Jvm.Cond.before (Jvm.Cond.static ({ cls := "java/lang/Math", name := "min", desc := "(II)I" } : Jvm.MethodName)) a0 Z = true := hw _ (List.mem_of_getElem? (i := 17) rfl)
theorem d2_16 : decode prog_25_method_1_code 16 = .ok (.istore_n 2, 1) := by decide +kernel
theorem d2_17 : decode prog_25_method_1_code 17 = .ok (.aload_n 0, 1) := by decide +kernel
theorem d2_18 : decode prog_25_method_1_code 18 = .ok (.iload_n 2, 1) := by decide +kernel
theorem d2_19 : decode prog_25_method_1_code 19 = .ok (.newarray .float, 2) := by decide +kernel
theorem w_20 {a0 : Array Value} {Z : State} (hw : HW a0 Z) : Jvm.Cond.before (Jvm.Cond.arrayClass Jvm.ClassFile.FieldType.float) a0 Z = true := hw _ (List.mem_of_getElem? (i := 20) rfl)
theorem d2_21 : decode prog_25_method_1_code 21 = .ok (.putfield 19, 3) := by decide +kernel
theorem w_21 {a0 : Array Value} {Z : State} (hw : HW a0 Z) : Jvm.Cond.before (Jvm.Cond.fieldLink "com/example/senret/senret/TopSentences" (19 : Nat) "com/example/senret/senret/TopSentences" "scoresAsRead" "[F") a0 Z = true := hw _ (List.mem_of_getElem? (i := 21) rfl)
theorem d2_24 : decode prog_25_method_1_code 24 = .ok (.aload_n 0, 1) := by decide +kernel
theorem d2_25 : decode prog_25_method_1_code 25 = .ok (.iload_n 2, 1) := by decide +kernel
theorem d2_26 : decode prog_25_method_1_code 26 = .ok (.newarray .long, 2) := by decide +kernel
theorem w_23 {a0 : Array Value} {Z : State} (hw : HW a0 Z) : Jvm.Cond.before (Jvm.Cond.arrayClass Jvm.ClassFile.FieldType.long) a0 Z = true := hw _ (List.mem_of_getElem? (i := 23) rfl)
theorem d2_28 : decode prog_25_method_1_code 28 = .ok (.putfield 23, 3) := by decide +kernel
theorem w_24 {a0 : Array Value} {Z : State} (hw : HW a0 Z) : Jvm.Cond.before (Jvm.Cond.fieldLink "com/example/senret/senret/TopSentences" (23 : Nat) "com/example/senret/senret/TopSentences" "scores" "[J") a0 Z = true := hw _ (List.mem_of_getElem? (i := 24) rfl)
theorem d2_31 : decode prog_25_method_1_code 31 = .ok (.aload_n 0, 1) := by decide +kernel
theorem d2_32 : decode prog_25_method_1_code 32 = .ok (.iload_n 2, 1) := by decide +kernel
theorem d2_33 : decode prog_25_method_1_code 33 = .ok (.newarray .int, 2) := by decide +kernel
theorem w_26 {a0 : Array Value} {Z : State} (hw : HW a0 Z) : Jvm.Cond.before (Jvm.Cond.arrayClass Jvm.ClassFile.FieldType.int) a0 Z = true := hw _ (List.mem_of_getElem? (i := 26) rfl)
theorem d2_35 : decode prog_25_method_1_code 35 = .ok (.putfield 27, 3) := by decide +kernel
theorem w_27 {a0 : Array Value} {Z : State} (hw : HW a0 Z) : Jvm.Cond.before (Jvm.Cond.fieldLink "com/example/senret/senret/TopSentences" (27 : Nat) "com/example/senret/senret/TopSentences" "ordinals" "[I") a0 Z = true := hw _ (List.mem_of_getElem? (i := 27) rfl)
theorem d2_38 : decode prog_25_method_1_code 38 = .ok (.return_, 1) := by decide +kernel
theorem ef_4c9b9d (a1 : Addr) (m : MethodId) : entryFrame m #[(.ref a1), (.int 1)] 3 = mkF m 0 #[.val (.ref a1), .val (.int 1), .unset] [] := by first | (simp [entryFrame, mkF, argsToLocals, Value.category]; done) | rfl
abbrev y_2 : MethodName := ⟨"com/example/senret/senret/TopSentences", "<init>", "(I)V"⟩
theorem pn_1 : plainName kT = true := by first | (simp [plainName, overriddenIn]; done) | decide +kernel
-- com/example/senret/senret/TopSentences.<init>(I)V
abbrev Rm3 : Room := { frames := 1, cells := 3, slots := 3, locals := 13 }
def Q3 (Z : State) (a1 : Addr) (h0 : Heap) (n0 : Nat) (v : Option Value) (h : Heap) (L : List Loc) : Prop := ∃ b13 : Addr, ∃ k13 : ClassId, ∃ b9 : Addr, ∃ k9 : ClassId, ∃ b5 : Addr, ∃ k5 : ClassId, v = none ∧ Fr n0 L ∧ Keep h0 h [a1] ∧ Exa Z h a1 kT ∧ Fld Z h a1 kT "depth" "I" (.int 1) ∧ Fld Z h a1 kT "ordinals" "[I" (.ref b13) ∧ Fld Z h a1 kT "scores" "[J" (.ref b9) ∧ Fld Z h a1 kT "scoresAsRead" "[F" (.ref b5) ∧ Fld Z h a1 kT "size" "I" (.int 0) ∧ h0.size ≤ b13 ∧ Exa Z h b13 "[I" ∧ Arv Z h b13 k13 .int (1 : Int32) [(.int 0)] (.int 0) ∧ h0.size ≤ b9 ∧ Exa Z h b9 "[J" ∧ Arv Z h b9 k9 .long (1 : Int32) [(.long 0)] (.long 0) ∧ h0.size ≤ b5 ∧ Exa Z h b5 "[F" ∧ Arv Z h b5 k5 .float (1 : Int32) [(.float 0)] (.float 0) ∧ b13 ≠ b9 ∧ b13 ≠ b5 ∧ b9 ≠ b5
-- ef_4c9b9d
theorem rm3 (l : Launch) (Z : State) (a0 : Array Value) (hw : HW a0 Z) (ws : List Jvm.Cond) (a1 : Addr) (h0 : Heap) (n0 : Nat) (Z0 : n0 ≤ h0.size) (F_depth_a1 : Fld Z h0 a1 kT "depth" "I" (.int 0)) (E_a1 : Exa Z h0 a1 kT) (g_a1 : n0 ≤ a1) (F_scoresAsRead_a1 : Fld Z h0 a1 kT "scoresAsRead" "[F" .null) (F_scores_a1 : Fld Z h0 a1 kT "scores" "[J" .null) (F_ordinals_a1 : Fld Z h0 a1 kT "ordinals" "[I" .null) (F_size_a1 : Fld Z h0 a1 kT "size" "I" (.int 0)) :
    OwnMet l Z y_2 prog_25_method_1_code 3 none ws Rm3 #[(.ref a1), (.int 1)] h0 (Q3 Z a1 h0 n0) := by
  refine own_body (plainFor_of_name pn_1) (ef_4c9b9d a1) ?_
  intro p e s m below meth c s₁ hx hby hml hown hnm hret hZ X0 e0
  have N0 := Fr.nil n0
  obtain ⟨T2, X2, e2, st2⟩ := initO X0 hx hZ hown (w_11 hw) (w_12 hw) (w_13 hw) e0 (g := (mkF m 1 #[.val (.ref a1), .val (.int 1), .unset] [(.ref a1)])) rfl (by rw [hml]; rfl) rfl (hb hby d2_1) (by decide) (W := 0) (by show 2 * 0 + _ ≤ _; exact Nat.le_of_eq rfl) (by decide)
  obtain ⟨T3, h3, X3, e3, W3, st3⟩ := putF X2 hx hZ hown (host := "") (Or.inl (w_14 hw)) Via.refl e2 F_depth_a1 E_a1 (Or.inr ⟨(w_15 hw), rfl, hnm⟩) (w_6 hw) (ty := .int) (by decide) rfl rfl (g := (mkF m 6 #[.val (.ref a1), .val (.int 1), .unset] [(.int 1), (.ref a1)])) rfl rfl (hb hby d2_6)
  have s0 := (Keep.of_wr W3).1
  have N3 := Fr.snoc X3 N0 g_a1
  have Fw3 : Fld Z h3 a1 kT "depth" "I" (.int 1) := F_depth_a1.same W3
  have z1 := Nat.le_trans Z0 s0
  obtain ⟨_, T4, L4, X4, hQ4, st4⟩ := own_callS X3 hx hZ hown (y := y_1) (w_16 hw) (w_17 hw) (w_18 hw) (w_19 hw) (rm2 l Z a0 hw []  h3 n0 z1) e3 (Ls := #[.val (.ref a1), .val (.int 1), .unset]) (by rw [hml]; rfl) (argsL := [(.int 1), (.int 1024)]) (rest := []) (lenOf pd_1 rfl) (hb hby d2_13) (W := 0)
  obtain ⟨rfl, Nq4, e4⟩ := hQ4
  have N4 := Fr.app N3 Nq4
  obtain ⟨T5, h5, k5, X5, e5, E5, A5, B5, st5⟩ := newPE (aty := .float) X4 hx hZ (w_20 hw) e4 (g := (mkF m 19 #[.val (.ref a1), .val (.int 1), .val (.int 1)] [(.int 1), (.ref a1)])) rfl (hb hby d2_19) rfl (by decide) (cap := 1) (by decide) (by decide) (by decide) (by decide) (ad := "[F") (by decide)
  obtain ⟨b5, g5⟩ : ∃ z, z = h3.size := ⟨_, rfl⟩
  rw [← g5] at A5 B5 st5
  have s1 := E5.1
  have Vn5 : Arv Z h5 b5 k5 .float (1 : Int32) [(.float 0)] (.float 0) := (Arv.new A5 (by decide)).pad (pad_rep [] (.float 0) 1)
  have Ex6 := ((E_a1.wr W3).ext E5)
  have Fl7 := ((F_scoresAsRead_a1.other W3 (Or.inr (slot_ne (Or.inl (w_22 hw)) (Or.inr (w_15 hw)) (by decide) (t := (.array .float)) (t' := .int) (by decide) (by decide)))).ext E5)
  obtain ⟨T8, h8, X8, e8, W8, st8⟩ := putF X5 hx hZ hown (host := "") (Or.inl (w_21 hw)) Via.refl e5 Fl7 Ex6 (Or.inl (w_22 hw)) (w_6 hw) (ty := (.array .float)) (by decide) rfl rfl (g := (mkF m 21 #[.val (.ref a1), .val (.int 1), .val (.int 1)] [(.ref b5), (.ref a1)])) rfl rfl (hb hby d2_21)
  have s2 := (Keep.of_wr W8).1
  have N8 := Fr.snoc X8 N4 g_a1
  have Fw8 : Fld Z h8 a1 kT "scoresAsRead" "[F" (.ref b5) := Fl7.same W8
  obtain ⟨T9, h9, k9, X9, e9, E9, A9, B9, st9⟩ := newPE (aty := .long) X8 hx hZ (w_23 hw) e8 (g := (mkF m 26 #[.val (.ref a1), .val (.int 1), .val (.int 1)] [(.int 1), (.ref a1)])) rfl (hb hby d2_26) rfl (by decide) (cap := 1) (by decide) (by decide) (by decide) (by decide) (ad := "[J") (by decide)
  obtain ⟨b9, g9⟩ : ∃ z, z = h8.size := ⟨_, rfl⟩
  rw [← g9] at A9 B9 st9
  have s3 := E9.1
  have Vn9 : Arv Z h9 b9 k9 .long (1 : Int32) [(.long 0)] (.long 0) := (Arv.new A9 (by decide)).pad (pad_rep [] (.long 0) 1)
  have Ex10 := ((Ex6.wr W8).ext E9)
  have Fl11 := ((((F_scores_a1.other W3 (Or.inr (slot_ne (Or.inl (w_25 hw)) (Or.inr (w_15 hw)) (by decide) (t := (.array .long)) (t' := .int) (by decide) (by decide)))).ext E5).other W8 (Or.inr (slot_ne (Or.inl (w_25 hw)) (Or.inl (w_22 hw)) (by decide) (t := (.array .long)) (t' := (.array .float)) (by decide) (by decide)))).ext E9)
  obtain ⟨T12, h12, X12, e12, W12, st12⟩ := putF X9 hx hZ hown (host := "") (Or.inl (w_24 hw)) Via.refl e9 Fl11 Ex10 (Or.inl (w_25 hw)) (w_6 hw) (ty := (.array .long)) (by decide) rfl rfl (g := (mkF m 28 #[.val (.ref a1), .val (.int 1), .val (.int 1)] [(.ref b9), (.ref a1)])) rfl rfl (hb hby d2_28)
  have s4 := (Keep.of_wr W12).1
  have N12 := Fr.snoc X12 N8 g_a1
  have Fw12 : Fld Z h12 a1 kT "scores" "[J" (.ref b9) := Fl11.same W12
  obtain ⟨T13, h13, k13, X13, e13, E13, A13, B13, st13⟩ := newPE (aty := .int) X12 hx hZ (w_26 hw) e12 (g := (mkF m 33 #[.val (.ref a1), .val (.int 1), .val (.int 1)] [(.int 1), (.ref a1)])) rfl (hb hby d2_33) rfl (by decide) (cap := 1) (by decide) (by decide) (by decide) (by decide) (ad := "[I") (by decide)
  obtain ⟨b13, g13⟩ : ∃ z, z = h12.size := ⟨_, rfl⟩
  rw [← g13] at A13 B13 st13
  have s5 := E13.1
  have Vn13 : Arv Z h13 b13 k13 .int (1 : Int32) [(.int 0)] (.int 0) := (Arv.new A13 (by decide)).pad (pad_rep [] (.int 0) 1)
  have Ex14 := ((Ex10.wr W12).ext E13)
  have Fl15 := ((((((F_ordinals_a1.other W3 (Or.inr (slot_ne (Or.inl (w_28 hw)) (Or.inr (w_15 hw)) (by decide) (t := (.array .int)) (t' := .int) (by decide) (by decide)))).ext E5).other W8 (Or.inr (slot_ne (Or.inl (w_28 hw)) (Or.inl (w_22 hw)) (by decide) (t := (.array .int)) (t' := (.array .float)) (by decide) (by decide)))).ext E9).other W12 (Or.inr (slot_ne (Or.inl (w_28 hw)) (Or.inl (w_25 hw)) (by decide) (t := (.array .int)) (t' := (.array .long)) (by decide) (by decide)))).ext E13)
  obtain ⟨T16, h16, X16, e16, W16, st16⟩ := putF X13 hx hZ hown (host := "") (Or.inl (w_27 hw)) Via.refl e13 Fl15 Ex14 (Or.inl (w_28 hw)) (w_6 hw) (ty := (.array .int)) (by decide) rfl rfl (g := (mkF m 35 #[.val (.ref a1), .val (.int 1), .val (.int 1)] [(.ref b13), (.ref a1)])) rfl rfl (hb hby d2_35)
  have s6 := (Keep.of_wr W16).1
  have N16 := Fr.snoc X16 N12 g_a1
  have Fw16 : Fld Z h16 a1 kT "ordinals" "[I" (.ref b13) := Fl15.same W16
  have Ex17 := (Ex14.wr W16)
  have Fl18 := ((((((Fw3.ext E5).other W8 (Or.inr (slot_ne (Or.inr (w_15 hw)) (Or.inl (w_22 hw)) (by decide) (t := .int) (t' := (.array .float)) (by decide) (by decide)))).ext E9).other W12 (Or.inr (slot_ne (Or.inr (w_15 hw)) (Or.inl (w_25 hw)) (by decide) (t := .int) (t' := (.array .long)) (by decide) (by decide)))).ext E13).other W16 (Or.inr (slot_ne (Or.inr (w_15 hw)) (Or.inl (w_28 hw)) (by decide) (t := .int) (t' := (.array .int)) (by decide) (by decide))))
  have Fl19 := ((Fw12.ext E13).other W16 (Or.inr (slot_ne (Or.inl (w_25 hw)) (Or.inl (w_28 hw)) (by decide) (t := (.array .long)) (t' := (.array .int)) (by decide) (by decide))))
  have Fl20 := ((((Fw8.ext E9).other W12 (Or.inr (slot_ne (Or.inl (w_22 hw)) (Or.inl (w_25 hw)) (by decide) (t := (.array .float)) (t' := (.array .long)) (by decide) (by decide)))).ext E13).other W16 (Or.inr (slot_ne (Or.inl (w_22 hw)) (Or.inl (w_28 hw)) (by decide) (t := (.array .float)) (t' := (.array .int)) (by decide) (by decide))))
  have Fl21 := (((((((F_size_a1.other W3 (Or.inr (slot_ne (Or.inl (w_35 hw)) (Or.inr (w_15 hw)) (by decide) (t := .int) (t' := .int) (by decide) (by decide)))).ext E5).other W8 (Or.inr (slot_ne (Or.inl (w_35 hw)) (Or.inl (w_22 hw)) (by decide) (t := .int) (t' := (.array .float)) (by decide) (by decide)))).ext E9).other W12 (Or.inr (slot_ne (Or.inl (w_35 hw)) (Or.inl (w_25 hw)) (by decide) (t := .int) (t' := (.array .long)) (by decide) (by decide)))).ext E13).other W16 (Or.inr (slot_ne (Or.inl (w_35 hw)) (Or.inl (w_28 hw)) (by decide) (t := .int) (t' := (.array .int)) (by decide) (by decide))))
  have sz_b13 : h0.size ≤ b13 := Nat.le_trans (Nat.le_trans (Nat.le_trans (Nat.le_trans (Nat.le_trans s0 s1) s2) s3) s4) (Nat.le_of_eq g13.symm)
  have Ex22 := (B13.wr W16)
  have ne_a1_b13 := Nat.ne_of_lt (Nat.lt_of_lt_of_le Fw12.lt (Nat.le_of_eq g13.symm))
  have Va23 := (Vn13.other W16 (Ne.symm ne_a1_b13))
  have sz_b9 : h0.size ≤ b9 := Nat.le_trans (Nat.le_trans (Nat.le_trans s0 s1) s2) (Nat.le_of_eq g9.symm)
  have Ex24 := (((B9.wr W12).ext E13).wr W16)
  have ne_a1_b9 := Nat.ne_of_lt (Nat.lt_of_lt_of_le Fw8.lt (Nat.le_of_eq g9.symm))
  have Va25 := (((Vn9.other W12 (Ne.symm ne_a1_b9)).ext E13).other W16 (Ne.symm ne_a1_b9))
  have sz_b5 : h0.size ≤ b5 := Nat.le_trans s0 (Nat.le_of_eq g5.symm)
  have Ex26 := (((((B5.wr W8).ext E9).wr W12).ext E13).wr W16)
  have ne_a1_b5 := Nat.ne_of_lt (Nat.lt_of_lt_of_le Fw3.lt (Nat.le_of_eq g5.symm))
  have Va27 := (((((Vn5.other W8 (Ne.symm ne_a1_b5)).ext E9).other W12 (Ne.symm ne_a1_b5)).ext E13).other W16 (Ne.symm ne_a1_b5))
  have ne_b9_b13 := Nat.ne_of_lt (Nat.lt_of_lt_of_le (Nat.lt_of_lt_of_le Vn9.lt s4) (Nat.le_of_eq g13.symm))
  have ne_b5_b13 := Nat.ne_of_lt (Nat.lt_of_lt_of_le (Nat.lt_of_lt_of_le Vn5.lt (Nat.le_trans (Nat.le_trans s2 s3) s4)) (Nat.le_of_eq g13.symm))
  have ne_b5_b9 := Nat.ne_of_lt (Nat.lt_of_lt_of_le (Nat.lt_of_lt_of_le Vn5.lt s2) (Nat.le_of_eq g9.symm))
  have Kp0 : Keep h0 h3 [a1] := (Keep.refl h0 [a1]).wr W3 (Or.inl (List.mem_of_getElem? (i := 0) rfl))
  have Kp1 : Keep h0 h5 [a1] := Kp0.ext E5
  have Kp2 : Keep h0 h8 [a1] := Kp1.wr W8 (Or.inl (List.mem_of_getElem? (i := 0) rfl))
  have Kp3 : Keep h0 h9 [a1] := Kp2.ext E9
  have Kp4 : Keep h0 h12 [a1] := Kp3.wr W12 (Or.inl (List.mem_of_getElem? (i := 0) rfl))
  have Kp5 : Keep h0 h13 [a1] := Kp4.ext E13
  have Kp6 : Keep h0 h16 [a1] := Kp5.wr W16 (Or.inl (List.mem_of_getElem? (i := 0) rfl))
  refine ⟨T16, _, _, _, none, X16, (fun _ => rfl), by decide, by decide, ?_, fun fs hr => ?_⟩
  · rw [e16]
    exact ⟨b13, k13, b9, k9, b5, k5, rfl, N16, Kp6, Ex17, Fl18, Fw16, Fl19, Fl20, Fl21, sz_b13, Ex22, Va23, sz_b9, Ex24, Va25, sz_b5, Ex26, Va27, (Ne.symm ne_b9_b13), (Ne.symm ne_b5_b13), (Ne.symm ne_b5_b9)⟩
  · refine XS.aloadN X0.here hx rfl (hb hby d2_0) rfl rfl ?_
    refine st2 _ ?_
    refine XS.aloadN X2.here hx rfl (hb hby d2_4) rfl rfl ?_
    refine XS.iloadN X2.here hx rfl (hb hby d2_5) rfl ?_
    refine st3 _ ?_
    refine XS.iloadN X3.here hx rfl (hb hby d2_9) rfl ?_
    refine XS.sipush X3.here hx rfl (hb hby d2_10) ?_
    refine st4 _ ?_
    refine XS.istoreN X4.here hx rfl (hb hby d2_16) rfl (l' := #[.val (.ref a1), .val (.int 1), .val (.int 1)]) rfl ?_
    refine XS.aloadN X4.here hx rfl (hb hby d2_17) rfl rfl ?_
    refine XS.iloadN X4.here hx rfl (hb hby d2_18) rfl ?_
    refine st5 _ ?_
    refine st8 _ ?_
    refine XS.aloadN X8.here hx rfl (hb hby d2_24) rfl rfl ?_
    refine XS.iloadN X8.here hx rfl (hb hby d2_25) rfl ?_
    refine st9 _ ?_
    refine st12 _ ?_
    refine XS.aloadN X12.here hx rfl (hb hby d2_31) rfl rfl ?_
    refine XS.iloadN X12.here hx rfl (hb hby d2_32) rfl ?_
    refine st13 _ ?_
    refine st16 _ ?_
    exact X16.returnOut hx hret (hb hby d2_38) hr
theorem pd_2 : parseMethodDescriptor "(I)V" = some ⟨[.int], none⟩ := by decide +kernel
theorem w_10 {a0 : Array Value} {Z : State} (hw : HW a0 Z) : Jvm.Cond.before (Jvm.Cond.code ({ cls := "com/example/senret/senret/TopSentences", name := "<init>", desc := "(I)V" } : Jvm.MethodName) prog_25_method_1_code (3 : Nat) (Option.none : Option Jvm.ClassFile.FieldType)) a0 Z = true := hw _ (List.mem_of_getElem? (i := 10) rfl)
theorem w_8 {a0 : Array Value} {Z : State} (hw : HW a0 Z) : Jvm.Cond.before (Jvm.Cond.methodLink "com/example/senret/senret/TopSentencesLowestAdmittedPinLaw" (15 : Nat) ({ cls := "com/example/senret/senret/TopSentences", name := "<init>", desc := "(I)V" } : Jvm.MethodName)) a0 Z = true := hw _ (List.mem_of_getElem? (i := 8) rfl)
theorem w_9 {a0 : Array Value} {Z : State} (hw : HW a0 Z) : Jvm.Cond.before (Jvm.Cond.instanceMethod ({ cls := "com/example/senret/senret/TopSentences", name := "<init>", desc := "(I)V" } : Jvm.MethodName)) a0 Z = true := hw _ (List.mem_of_getElem? (i := 9) rfl)
theorem d5_0 : decode prog_25_method_3_code 0 = .ok (.aload_n 0, 1) := by decide +kernel
theorem d5_1 : decode prog_25_method_3_code 1 = .ok (.getfield 41, 3) := by decide +kernel
theorem w_34 {a0 : Array Value} {Z : State} (hw : HW a0 Z) : Jvm.Cond.before (Jvm.Cond.fieldLink "com/example/senret/senret/TopSentences" (41 : Nat) "com/example/senret/senret/TopSentences" "size" "I") a0 Z = true := hw _ (List.mem_of_getElem? (i := 34) rfl)
theorem d5_4 : decode prog_25_method_3_code 4 = .ok (.aload_n 0, 1) := by decide +kernel
theorem d5_5 : decode prog_25_method_3_code 5 = .ok (.getfield 7, 3) := by decide +kernel
theorem d5_8 : decode prog_25_method_3_code 8 = .ok (.if_icmp .ge 8, 3) := by decide +kernel
theorem d5_11 : decode prog_25_method_3_code 11 = .ok (.ldc 46, 2) := by decide +kernel
theorem w_36 {a0 : Array Value} {Z : State} (hw : HW a0 Z) : Jvm.Cond.before (Jvm.Cond.constantFloat "com/example/senret/senret/TopSentences" (46 : Nat) (4286578688 : UInt32)) a0 Z = true := hw _ (List.mem_of_getElem? (i := 36) rfl)
theorem d5_13 : decode prog_25_method_3_code 13 = .ok (.goto 9, 3) := by decide +kernel
theorem d5_22 : decode prog_25_method_3_code 22 = .ok (.freturn, 1) := by decide +kernel
theorem ef_26f21a (a1 : Addr) (m : MethodId) : entryFrame m #[(.ref a1)] 1 = mkF m 0 #[.val (.ref a1)] [] := by first | (simp [entryFrame, mkF, argsToLocals, Value.category]; done) | rfl
abbrev y_3 : MethodName := ⟨"com/example/senret/senret/TopSentences", "lowestAdmitted", "()F"⟩
-- com/example/senret/senret/TopSentences.lowestAdmitted()F
abbrev Rm4 : Room := { frames := 0, cells := 0, slots := 0, locals := 0 }
def Q4 (Z : State) (a1 : Addr) (h0 : Heap) (n0 : Nat) (v : Option Value) (h : Heap) (L : List Loc) : Prop := v = some (.float 4286578688) ∧ Fr n0 L ∧ h = h0
-- ef_26f21a
theorem rm4 (l : Launch) (Z : State) (a0 : Array Value) (hw : HW a0 Z) (ws : List Jvm.Cond) (a1 : Addr) (h0 : Heap) (n0 : Nat) (Z0 : n0 ≤ h0.size) (F_size_a1 : Fld Z h0 a1 kT "size" "I" (.int 0)) (F_depth_a1 : Fld Z h0 a1 kT "depth" "I" (.int 1)) :
    OwnMet l Z y_3 prog_25_method_3_code 1 (some .float) ws Rm4 #[(.ref a1)] h0 (Q4 Z a1 h0 n0) := by
  refine own_body (plainFor_of_name pn_1) (ef_26f21a a1) ?_
  intro p e s m below meth c s₁ hx hby hml hown hnm hret hZ X0 e0
  have N0 := Fr.nil n0
  obtain ⟨T2, X2, e2, st2⟩ := getF X0 hx hZ hown (host := "") (Or.inl (w_34 hw)) Via.refl e0 F_size_a1 (g := (mkF m 1 #[.val (.ref a1)] [(.ref a1)])) rfl rfl (hb hby d5_1)
  obtain ⟨T3, X3, e3, st3⟩ := getF X2 hx hZ hown (host := "") (Or.inl (w_14 hw)) Via.refl e2 F_depth_a1 (g := (mkF m 5 #[.val (.ref a1)] [(.ref a1), (.int 0)])) rfl rfl (hb hby d5_5)
  refine ⟨T3, _, _, _, (some (.float 4286578688)), X3, nofun, by decide, by decide, ?_, fun fs hr => ?_⟩
  · rw [e3]
    exact ⟨rfl, N0, rfl⟩
  · refine XS.aloadN X0.here hx rfl (hb hby d5_0) rfl rfl ?_
    refine st2 _ ?_
    refine XS.aloadN X2.here hx rfl (hb hby d5_4) rfl rfl ?_
    refine st3 _ ?_
    refine XS.icmpNo X3.here hx rfl (hb hby d5_8) rfl (tlt ((by decide : (0 : Int32) < (1 : Int32)) : (0 : Int32) < (1 : Int32))).2.1 ?_
    refine X3.ldcFloatC hx hown (mvT hZ (w_36 hw)) (g := (mkF m 11 #[.val (.ref a1)] [])) rfl (hb hby d5_11) _ ?_
    refine XS.goto X3.here hx rfl (pc0 := 13) (pc' := 22) rfl (hb hby d5_13) (by decide) (by decide) ?_
    exact retOut X3 hx hret rfl (Or.inr (Or.inr (Or.inr (Or.inl ⟨rfl, rfl, _, rfl⟩)))) (hb hby d5_22) hr
theorem pd_3 : parseMethodDescriptor "()F" = some ⟨[], some .float⟩ := by decide +kernel
theorem w_33 {a0 : Array Value} {Z : State} (hw : HW a0 Z) : Jvm.Cond.before (Jvm.Cond.code ({ cls := "com/example/senret/senret/TopSentences", name := "lowestAdmitted", desc := "()F" } : Jvm.MethodName) prog_25_method_3_code (1 : Nat) (Option.some Jvm.ClassFile.FieldType.float)) a0 Z = true := hw _ (List.mem_of_getElem? (i := 33) rfl)
theorem w_29 {a0 : Array Value} {Z : State} (hw : HW a0 Z) : Jvm.Cond.before (Jvm.Cond.methodLink "com/example/senret/senret/TopSentencesLowestAdmittedPinLaw" (18 : Nat) ({ cls := "com/example/senret/senret/TopSentences", name := "lowestAdmitted", desc := "()F" } : Jvm.MethodName)) a0 Z = true := hw _ (List.mem_of_getElem? (i := 29) rfl)
theorem w_32 {a0 : Array Value} {Z : State} (hw : HW a0 Z) : Jvm.Cond.before (Jvm.Cond.selects "com/example/senret/senret/TopSentences" ({ cls := "com/example/senret/senret/TopSentences", name := "lowestAdmitted", desc := "()F" } : Jvm.MethodName) ({ cls := "com/example/senret/senret/TopSentences", name := "lowestAdmitted", desc := "()F" } : Jvm.MethodName)) a0 Z = true := hw _ (List.mem_of_getElem? (i := 32) rfl)
theorem w_30 {a0 : Array Value} {Z : State} (hw : HW a0 Z) : Jvm.Cond.before (Jvm.Cond.declares ({ cls := "com/example/senret/senret/TopSentences", name := "lowestAdmitted", desc := "()F" } : Jvm.MethodName)) a0 Z = true := hw _ (List.mem_of_getElem? (i := 30) rfl)
theorem w_31 {a0 : Array Value} {Z : State} (hw : HW a0 Z) : Jvm.Cond.before (Jvm.Cond.instanceMethod ({ cls := "com/example/senret/senret/TopSentences", name := "lowestAdmitted", desc := "()F" } : Jvm.MethodName)) a0 Z = true := hw _ (List.mem_of_getElem? (i := 31) rfl)
theorem w_37 {a0 : Array Value} {Z : State} (hw : HW a0 Z) : Jvm.Cond.before (Jvm.Cond.constantFloat "com/example/senret/senret/TopSentencesLowestAdmittedPinLaw" (24 : Nat) (4286578688 : UInt32)) a0 Z = true := hw _ (List.mem_of_getElem? (i := 37) rfl)
theorem d6_0 : decode prog_25_method_4_code 0 = .ok (.lload_n 1, 1) := by decide +kernel
theorem d6_1 : decode prog_25_method_4_code 1 = .ok (.invokestatic 31, 3) := by decide +kernel
theorem w_43 {a0 : Array Value} {Z : State} (hw : HW a0 Z) : Jvm.Cond.before (Jvm.Cond.methodLink "com/example/senret/senret/TopSentences" (31 : Nat) ({ cls := "com/example/senret/senret/RankedSentence", name := "asRead", desc := "(J)F" } : Jvm.MethodName)) a0 Z = true := hw _ (List.mem_of_getElem? (i := 43) rfl)
theorem d6_4 : decode prog_25_method_4_code 4 = .ok (.fstore 4, 2) := by decide +kernel
theorem d6_6 : decode prog_25_method_4_code 6 = .ok (.aload_n 0, 1) := by decide +kernel
theorem d6_7 : decode prog_25_method_4_code 7 = .ok (.getfield 41, 3) := by decide +kernel
theorem d6_10 : decode prog_25_method_4_code 10 = .ok (.aload_n 0, 1) := by decide +kernel
theorem d6_11 : decode prog_25_method_4_code 11 = .ok (.getfield 7, 3) := by decide +kernel
theorem d6_14 : decode prog_25_method_4_code 14 = .ok (.if_icmp .ge 34, 3) := by decide +kernel
theorem d6_17 : decode prog_25_method_4_code 17 = .ok (.aload_n 0, 1) := by decide +kernel
theorem d6_18 : decode prog_25_method_4_code 18 = .ok (.invokevirtual 47, 3) := by decide +kernel
theorem d7_0 : decode prog_25_method_7_code 0 = .ok (.aload_n 0, 1) := by decide +kernel
theorem d7_1 : decode prog_25_method_7_code 1 = .ok (.getfield 41, 3) := by decide +kernel
theorem d7_4 : decode prog_25_method_7_code 4 = .ok (.aload_n 0, 1) := by decide +kernel
theorem d7_5 : decode prog_25_method_7_code 5 = .ok (.getfield 23, 3) := by decide +kernel
theorem d7_8 : decode prog_25_method_7_code 8 = .ok (.arraylength, 1) := by decide +kernel
theorem d7_9 : decode prog_25_method_7_code 9 = .ok (.if_icmp .ne 59, 3) := by decide +kernel
theorem d7_68 : decode prog_25_method_7_code 68 = .ok (.return_, 1) := by decide +kernel
theorem ef_692380 (a1 : Addr) (m : MethodId) : entryFrame m #[(.ref a1)] 2 = mkF m 0 #[.val (.ref a1), .unset] [] := by first | (simp [entryFrame, mkF, argsToLocals, Value.category]; done) | rfl
abbrev y_4 : MethodName := ⟨"com/example/senret/senret/TopSentences", "grow", "()V"⟩
-- com/example/senret/senret/TopSentences.grow()V
abbrev Rm5 : Room := { frames := 0, cells := 0, slots := 0, locals := 0 }
def Q5 (Z : State) (a1 : Addr) (a3 : Addr) (k5 : ClassId) (h0 : Heap) (n0 : Nat) (v : Option Value) (h : Heap) (L : List Loc) : Prop := v = none ∧ Fr n0 L ∧ h = h0
-- ef_692380
theorem rm5 (l : Launch) (Z : State) (a0 : Array Value) (hw : HW a0 Z) (ws : List Jvm.Cond) (a1 : Addr) (a3 : Addr) (k5 : ClassId) (h0 : Heap) (n0 : Nat) (Z0 : n0 ≤ h0.size) (F_size_a1 : Fld Z h0 a1 kT "size" "I" (.int 0)) (F_scores_a1 : Fld Z h0 a1 kT "scores" "[J" (.ref a3)) (V_a3 : Arv Z h0 a3 k5 .long (1 : Int32) [(.long 0)] (.long 0)) :
    OwnMet l Z y_4 prog_25_method_7_code 2 none ws Rm5 #[(.ref a1)] h0 (Q5 Z a1 a3 k5 h0 n0) := by
  refine own_body (plainFor_of_name pn_1) (ef_692380 a1) ?_
  intro p e s m below meth c s₁ hx hby hml hown hnm hret hZ X0 e0
  have N0 := Fr.nil n0
  obtain ⟨T2, X2, e2, st2⟩ := getF X0 hx hZ hown (host := "") (Or.inl (w_34 hw)) Via.refl e0 F_size_a1 (g := (mkF m 1 #[.val (.ref a1), .unset] [(.ref a1)])) rfl rfl (hb hby d7_1)
  obtain ⟨T4, X4, e4, st4⟩ := getF X2 hx hZ hown (host := "") (Or.inl (w_24 hw)) Via.refl e2 F_scores_a1 (g := (mkF m 5 #[.val (.ref a1), .unset] [(.ref a1), (.int 0)])) rfl rfl (hb hby d7_5)
  obtain ⟨cl6, Ar6, q6, S6, M6, Hs6, G6⟩ := id V_a3
  refine ⟨T4, _, _, _, none, X4, (fun _ => rfl), by decide, by decide, ?_, fun fs hr => ?_⟩
  · rw [e4]
    exact ⟨rfl, N0, rfl⟩
  · refine XS.aloadN X0.here hx rfl (hb hby d7_0) rfl rfl ?_
    refine st2 _ ?_
    refine XS.aloadN X2.here hx rfl (hb hby d7_4) rfl rfl ?_
    refine st4 _ ?_
    refine X4.arraylength hx (by rw [e4]; exact Ar6.1) (State.isArrayOf_alike hZ.alike Ar6.2.1) (g := (mkF m 8 #[.val (.ref a1), .unset] [(.ref a3), (.int 0)])) rfl rfl (hb hby d7_8) _ ?_
    show Steps p.tables e below (T4.setTop (mkF m 9 #[.val (.ref a1), .unset] [(.int cl6.slots.size.toInt32), (.int 0)])) _
    rw [len_of S6 M6]
    refine XS.icmpYes X4.here hx rfl (pc0 := 9) (pc' := 68) rfl (hb hby d7_9) rfl (feq ((by decide : ¬ ((0 : Int32) = (1 : Int32))) : ¬ ((0 : Int32) = (1 : Int32)))).2 (by decide) (by decide) ?_
    exact X4.returnOut hx hret (hb hby d7_68) hr
theorem pd_4 : parseMethodDescriptor "()V" = some ⟨[], none⟩ := by decide +kernel
theorem w_47 {a0 : Array Value} {Z : State} (hw : HW a0 Z) : Jvm.Cond.before (Jvm.Cond.code ({ cls := "com/example/senret/senret/TopSentences", name := "grow", desc := "()V" } : Jvm.MethodName) prog_25_method_7_code (2 : Nat) (Option.none : Option Jvm.ClassFile.FieldType)) a0 Z = true := hw _ (List.mem_of_getElem? (i := 47) rfl)
theorem w_44 {a0 : Array Value} {Z : State} (hw : HW a0 Z) : Jvm.Cond.before (Jvm.Cond.methodLink "com/example/senret/senret/TopSentences" (47 : Nat) ({ cls := "com/example/senret/senret/TopSentences", name := "grow", desc := "()V" } : Jvm.MethodName)) a0 Z = true := hw _ (List.mem_of_getElem? (i := 44) rfl)
theorem w_45 {a0 : Array Value} {Z : State} (hw : HW a0 Z) : Jvm.Cond.before (Jvm.Cond.instanceMethod ({ cls := "com/example/senret/senret/TopSentences", name := "grow", desc := "()V" } : Jvm.MethodName)) a0 Z = true := hw _ (List.mem_of_getElem? (i := 45) rfl)
theorem w_46 {a0 : Array Value} {Z : State} (hw : HW a0 Z) : Jvm.Cond.before (Jvm.Cond.privateMethod ({ cls := "com/example/senret/senret/TopSentences", name := "grow", desc := "()V" } : Jvm.MethodName)) a0 Z = true := hw _ (List.mem_of_getElem? (i := 46) rfl)
theorem d6_21 : decode prog_25_method_4_code 21 = .ok (.aload_n 0, 1) := by decide +kernel
theorem d6_22 : decode prog_25_method_4_code 22 = .ok (.dup, 1) := by decide +kernel
theorem d6_23 : decode prog_25_method_4_code 23 = .ok (.getfield 41, 3) := by decide +kernel
theorem d6_26 : decode prog_25_method_4_code 26 = .ok (.iconst 1, 1) := by decide +kernel
theorem d6_27 : decode prog_25_method_4_code 27 = .ok (.iadd, 1) := by decide +kernel
theorem d6_28 : decode prog_25_method_4_code 28 = .ok (.putfield 41, 3) := by decide +kernel
theorem d6_31 : decode prog_25_method_4_code 31 = .ok (.aload_n 0, 1) := by decide +kernel
theorem d6_32 : decode prog_25_method_4_code 32 = .ok (.aload_n 0, 1) := by decide +kernel
theorem d6_33 : decode prog_25_method_4_code 33 = .ok (.getfield 41, 3) := by decide +kernel
theorem d6_36 : decode prog_25_method_4_code 36 = .ok (.iconst 1, 1) := by decide +kernel
theorem d6_37 : decode prog_25_method_4_code 37 = .ok (.isub, 1) := by decide +kernel
theorem d6_38 : decode prog_25_method_4_code 38 = .ok (.fload 4, 2) := by decide +kernel
theorem d6_40 : decode prog_25_method_4_code 40 = .ok (.lload_n 1, 1) := by decide +kernel
theorem d6_41 : decode prog_25_method_4_code 41 = .ok (.iload_n 3, 1) := by decide +kernel
theorem d6_42 : decode prog_25_method_4_code 42 = .ok (.invokevirtual 50, 3) := by decide +kernel
theorem d8_0 : decode prog_25_method_8_code 0 = .ok (.iload_n 1, 1) := by decide +kernel
theorem d8_1 : decode prog_25_method_8_code 1 = .ok (.istore 6, 2) := by decide +kernel
theorem d8_3 : decode prog_25_method_8_code 3 = .ok (.iload 6, 2) := by decide +kernel
theorem d8_5 : decode prog_25_method_8_code 5 = .ok (.ifCond .le 52, 3) := by decide +kernel
theorem d8_57 : decode prog_25_method_8_code 57 = .ok (.aload_n 0, 1) := by decide +kernel
theorem d8_58 : decode prog_25_method_8_code 58 = .ok (.iload 6, 2) := by decide +kernel
theorem d8_60 : decode prog_25_method_8_code 60 = .ok (.fload_n 2, 1) := by decide +kernel
theorem d8_61 : decode prog_25_method_8_code 61 = .ok (.lload_n 3, 1) := by decide +kernel
theorem d8_62 : decode prog_25_method_8_code 62 = .ok (.iload 5, 2) := by decide +kernel
theorem d8_64 : decode prog_25_method_8_code 64 = .ok (.invokevirtual 99, 3) := by decide +kernel
theorem d9_0 : decode prog_25_method_11_code 0 = .ok (.aload_n 0, 1) := by decide +kernel
theorem d9_1 : decode prog_25_method_11_code 1 = .ok (.getfield 19, 3) := by decide +kernel
theorem d9_4 : decode prog_25_method_11_code 4 = .ok (.iload_n 1, 1) := by decide +kernel
theorem d9_5 : decode prog_25_method_11_code 5 = .ok (.fload_n 2, 1) := by decide +kernel
theorem d9_6 : decode prog_25_method_11_code 6 = .ok (.fastore, 1) := by decide +kernel
theorem d9_7 : decode prog_25_method_11_code 7 = .ok (.aload_n 0, 1) := by decide +kernel
theorem d9_8 : decode prog_25_method_11_code 8 = .ok (.getfield 23, 3) := by decide +kernel
theorem d9_11 : decode prog_25_method_11_code 11 = .ok (.iload_n 1, 1) := by decide +kernel
theorem d9_12 : decode prog_25_method_11_code 12 = .ok (.lload_n 3, 1) := by decide +kernel
theorem d9_13 : decode prog_25_method_11_code 13 = .ok (.lastore, 1) := by decide +kernel
theorem d9_14 : decode prog_25_method_11_code 14 = .ok (.aload_n 0, 1) := by decide +kernel
theorem d9_15 : decode prog_25_method_11_code 15 = .ok (.getfield 27, 3) := by decide +kernel
theorem d9_18 : decode prog_25_method_11_code 18 = .ok (.iload_n 1, 1) := by decide +kernel
theorem d9_19 : decode prog_25_method_11_code 19 = .ok (.iload 5, 2) := by decide +kernel
theorem d9_21 : decode prog_25_method_11_code 21 = .ok (.iastore, 1) := by decide +kernel
theorem d9_22 : decode prog_25_method_11_code 22 = .ok (.return_, 1) := by decide +kernel
theorem ef_bf04c5 (a1 : Addr) (f2 : UInt32) (q3 : Int64) (p4 : Int32) (m : MethodId) : entryFrame m #[(.ref a1), (.int 0), (.float f2), (.long q3), (.int p4)] 6 = mkF m 0 #[.val (.ref a1), .val (.int 0), .val (.float f2), .val (.long q3), .second, .val (.int p4)] [] := by first | (simp [entryFrame, mkF, argsToLocals, Value.category]; done) | rfl
abbrev y_5 : MethodName := ⟨"com/example/senret/senret/TopSentences", "put", "(IFJI)V"⟩
-- com/example/senret/senret/TopSentences.put(IFJI)V
abbrev Rm6 : Room := { frames := 0, cells := 0, slots := 0, locals := 0 }
def Q6 (Z : State) (a1 : Addr) (f2 : UInt32) (q3 : Int64) (p4 : Int32) (a5 : Addr) (k7 : ClassId) (a11 : Addr) (k14 : ClassId) (a19 : Addr) (k22 : ClassId) (h0 : Heap) (n0 : Nat) (v : Option Value) (h : Heap) (L : List Loc) : Prop := v = none ∧ Fr n0 L ∧ Keep h0 h [a5, a11, a19] ∧ Exa Z h a5 "[F" ∧ Arv Z h a5 k7 .float (1 : Int32) [(.float f2)] (.float 0) ∧ Exa Z h a11 "[J" ∧ Arv Z h a11 k14 .long (1 : Int32) [(.long q3)] (.long 0) ∧ Exa Z h a19 "[I" ∧ Arv Z h a19 k22 .int (1 : Int32) [(.int p4)] (.int 0)
-- ef_bf04c5
theorem rm6 (l : Launch) (Z : State) (a0 : Array Value) (hw : HW a0 Z) (ws : List Jvm.Cond) (a1 : Addr) (f2 : UInt32) (q3 : Int64) (p4 : Int32) (a5 : Addr) (k7 : ClassId) (a11 : Addr) (k14 : ClassId) (a19 : Addr) (k22 : ClassId) (h0 : Heap) (n0 : Nat) (Z0 : n0 ≤ h0.size) (F_scoresAsRead_a1 : Fld Z h0 a1 kT "scoresAsRead" "[F" (.ref a5)) (V_a5 : Arv Z h0 a5 k7 .float (1 : Int32) [(.float 0)] (.float 0)) (g_a5 : n0 ≤ a5) (F_scores_a1 : Fld Z h0 a1 kT "scores" "[J" (.ref a11)) (ne_a1_a5 : a1 ≠ a5) (V_a11 : Arv Z h0 a11 k14 .long (1 : Int32) [(.long 0)] (.long 0)) (ne_a11_a5 : a11 ≠ a5) (g_a11 : n0 ≤ a11) (F_ordinals_a1 : Fld Z h0 a1 kT "ordinals" "[I" (.ref a19)) (ne_a1_a11 : a1 ≠ a11) (V_a19 : Arv Z h0 a19 k22 .int (1 : Int32) [(.int 0)] (.int 0)) (ne_a19_a5 : a19 ≠ a5) (ne_a19_a11 : a19 ≠ a11) (g_a19 : n0 ≤ a19) (E_a5 : Exa Z h0 a5 "[F") (E_a11 : Exa Z h0 a11 "[J") (E_a19 : Exa Z h0 a19 "[I") :
    OwnMet l Z y_5 prog_25_method_11_code 6 none ws Rm6 #[(.ref a1), (.int 0), (.float f2), (.long q3), (.int p4)] h0 (Q6 Z a1 f2 q3 p4 a5 k7 a11 k14 a19 k22 h0 n0) := by
  refine own_body (plainFor_of_name pn_1) (ef_bf04c5 a1 f2 q3 p4) ?_
  intro p e s m below meth c s₁ hx hby hml hown hnm hret hZ X0 e0
  have N0 := Fr.nil n0
  obtain ⟨T6, X6, e6, st6⟩ := getF X0 hx hZ hown (host := "") (Or.inl (w_21 hw)) Via.refl e0 F_scoresAsRead_a1 (g := (mkF m 1 #[.val (.ref a1), .val (.int 0), .val (.float f2), .val (.long q3), .second, .val (.int p4)] [(.ref a1)])) rfl rfl (hb hby d9_1)
  obtain ⟨cl8, Ar8, q8, S8, M8, Hs8, G8⟩ := id V_a5
  have hin9 : ¬ ((0 : Int32) < 0 ∨ cl8.slots.size ≤ ((0 : Int32)).toNatClampNeg) := inb_of S8 ⟨(by decide : ¬ ((0 : Int32) < (0 : Int32))), (by decide : (0 : Int32) < (1 : Int32))⟩
  obtain ⟨T10, h10, X10, e10, W10, st10⟩ := stF X6 hx hZ e6 Ar8 (j := (0 : Int32)) hin9 (g := (mkF m 6 #[.val (.ref a1), .val (.int 0), .val (.float f2), .val (.long q3), .second, .val (.int p4)] [(.float f2), (.int 0), (.ref a5)])) rfl rfl (hb hby d9_6)
  have s0 := (Keep.of_wr W10).1
  have N10 := Fr.snoc X10 N0 g_a5
  have Vs10 : Arv Z h10 a5 k7 .float (1 : Int32) [(.float f2)] (.float 0) := Arv.set Ar8 q8 S8 M8 Hs8 G8 rfl W10 0 rfl (Nat.le_of_ble_eq_true rfl)
  have Fl12 := (F_scores_a1.other W10 (Or.inl ne_a1_a5))
  obtain ⟨T13, X13, e13, st13⟩ := getF X10 hx hZ hown (host := "") (Or.inl (w_24 hw)) Via.refl e10 Fl12 (g := (mkF m 8 #[.val (.ref a1), .val (.int 0), .val (.float f2), .val (.long q3), .second, .val (.int p4)] [(.ref a1)])) rfl rfl (hb hby d9_8)
  have Va15 := (V_a11.other W10 ne_a11_a5)
  obtain ⟨cl16, Ar16, q16, S16, M16, Hs16, G16⟩ := id Va15
  have hin17 : ¬ ((0 : Int32) < 0 ∨ cl16.slots.size ≤ ((0 : Int32)).toNatClampNeg) := inb_of S16 ⟨(by decide : ¬ ((0 : Int32) < (0 : Int32))), (by decide : (0 : Int32) < (1 : Int32))⟩
  obtain ⟨T18, h18, X18, e18, W18, st18⟩ := stJ X13 hx hZ e13 Ar16 (j := (0 : Int32)) hin17 (g := (mkF m 13 #[.val (.ref a1), .val (.int 0), .val (.float f2), .val (.long q3), .second, .val (.int p4)] [(.long q3), (.int 0), (.ref a11)])) rfl rfl (hb hby d9_13)
  have s1 := (Keep.of_wr W18).1
  have N18 := Fr.snoc X18 N10 g_a11
  have Vs18 : Arv Z h18 a11 k14 .long (1 : Int32) [(.long q3)] (.long 0) := Arv.set Ar16 q16 S16 M16 Hs16 G16 rfl W18 0 rfl (Nat.le_of_ble_eq_true rfl)
  have Fl20 := ((F_ordinals_a1.other W10 (Or.inl ne_a1_a5)).other W18 (Or.inl ne_a1_a11))
  obtain ⟨T21, X21, e21, st21⟩ := getF X18 hx hZ hown (host := "") (Or.inl (w_27 hw)) Via.refl e18 Fl20 (g := (mkF m 15 #[.val (.ref a1), .val (.int 0), .val (.float f2), .val (.long q3), .second, .val (.int p4)] [(.ref a1)])) rfl rfl (hb hby d9_15)
  have Va23 := ((V_a19.other W10 ne_a19_a5).other W18 ne_a19_a11)
  obtain ⟨cl24, Ar24, q24, S24, M24, Hs24, G24⟩ := id Va23
  have hin25 : ¬ ((0 : Int32) < 0 ∨ cl24.slots.size ≤ ((0 : Int32)).toNatClampNeg) := inb_of S24 ⟨(by decide : ¬ ((0 : Int32) < (0 : Int32))), (by decide : (0 : Int32) < (1 : Int32))⟩
  obtain ⟨T26, h26, X26, e26, W26, st26⟩ := stI X21 hx hZ e21 Ar24 (j := (0 : Int32)) hin25 (g := (mkF m 21 #[.val (.ref a1), .val (.int 0), .val (.float f2), .val (.long q3), .second, .val (.int p4)] [(.int p4), (.int 0), (.ref a19)])) rfl rfl (hb hby d9_21)
  have s2 := (Keep.of_wr W26).1
  have N26 := Fr.snoc X26 N18 g_a19
  have Vs26 : Arv Z h26 a19 k22 .int (1 : Int32) [(.int p4)] (.int 0) := Arv.set Ar24 q24 S24 M24 Hs24 G24 rfl W26 0 rfl (Nat.le_of_ble_eq_true rfl)
  have Ex27 := (((E_a5.wr W10).wr W18).wr W26)
  have Va28 := ((Vs10.other W18 (Ne.symm ne_a11_a5)).other W26 (Ne.symm ne_a19_a5))
  have Ex29 := (((E_a11.wr W10).wr W18).wr W26)
  have Va30 := (Vs18.other W26 (Ne.symm ne_a19_a11))
  have Ex31 := (((E_a19.wr W10).wr W18).wr W26)
  have Kp0 : Keep h0 h10 [a5, a11, a19] := (Keep.refl h0 [a5, a11, a19]).wr W10 (Or.inl (List.mem_of_getElem? (i := 0) rfl))
  have Kp1 : Keep h0 h18 [a5, a11, a19] := Kp0.wr W18 (Or.inl (List.mem_of_getElem? (i := 1) rfl))
  have Kp2 : Keep h0 h26 [a5, a11, a19] := Kp1.wr W26 (Or.inl (List.mem_of_getElem? (i := 2) rfl))
  refine ⟨T26, _, _, _, none, X26, (fun _ => rfl), by decide, by decide, ?_, fun fs hr => ?_⟩
  · rw [e26]
    exact ⟨rfl, N26, Kp2, Ex27, Va28, Ex29, Va30, Ex31, Vs26⟩
  · refine XS.aloadN X0.here hx rfl (hb hby d9_0) rfl rfl ?_
    refine st6 _ ?_
    refine XS.iloadN X6.here hx rfl (hb hby d9_4) rfl ?_
    refine XS.floadN X6.here hx rfl (hb hby d9_5) rfl ?_
    refine st10 _ ?_
    refine XS.aloadN X10.here hx rfl (hb hby d9_7) rfl rfl ?_
    refine st13 _ ?_
    refine XS.iloadN X13.here hx rfl (hb hby d9_11) rfl ?_
    refine XS.lloadN X13.here hx rfl (hb hby d9_12) rfl ?_
    refine st18 _ ?_
    refine XS.aloadN X18.here hx rfl (hb hby d9_14) rfl rfl ?_
    refine st21 _ ?_
    refine XS.iloadN X21.here hx rfl (hb hby d9_18) rfl ?_
    refine XS.iload X21.here hx rfl (hb hby d9_19) rfl ?_
    refine st26 _ ?_
    exact X26.returnOut hx hret (hb hby d9_22) hr
theorem pd_5 : parseMethodDescriptor "(IFJI)V" = some ⟨[.int, .float, .long, .int], none⟩ := by decide +kernel
theorem w_55 {a0 : Array Value} {Z : State} (hw : HW a0 Z) : Jvm.Cond.before (Jvm.Cond.code ({ cls := "com/example/senret/senret/TopSentences", name := "put", desc := "(IFJI)V" } : Jvm.MethodName) prog_25_method_11_code (6 : Nat) (Option.none : Option Jvm.ClassFile.FieldType)) a0 Z = true := hw _ (List.mem_of_getElem? (i := 55) rfl)
theorem w_52 {a0 : Array Value} {Z : State} (hw : HW a0 Z) : Jvm.Cond.before (Jvm.Cond.methodLink "com/example/senret/senret/TopSentences" (99 : Nat) ({ cls := "com/example/senret/senret/TopSentences", name := "put", desc := "(IFJI)V" } : Jvm.MethodName)) a0 Z = true := hw _ (List.mem_of_getElem? (i := 52) rfl)
theorem w_53 {a0 : Array Value} {Z : State} (hw : HW a0 Z) : Jvm.Cond.before (Jvm.Cond.instanceMethod ({ cls := "com/example/senret/senret/TopSentences", name := "put", desc := "(IFJI)V" } : Jvm.MethodName)) a0 Z = true := hw _ (List.mem_of_getElem? (i := 53) rfl)
theorem w_54 {a0 : Array Value} {Z : State} (hw : HW a0 Z) : Jvm.Cond.before (Jvm.Cond.privateMethod ({ cls := "com/example/senret/senret/TopSentences", name := "put", desc := "(IFJI)V" } : Jvm.MethodName)) a0 Z = true := hw _ (List.mem_of_getElem? (i := 54) rfl)
theorem d8_67 : decode prog_25_method_8_code 67 = .ok (.return_, 1) := by decide +kernel
theorem ef_b865c2 (a1 : Addr) (f2 : UInt32) (q3 : Int64) (p4 : Int32) (m : MethodId) : entryFrame m #[(.ref a1), (.int 0), (.float f2), (.long q3), (.int p4)] 8 = mkF m 0 #[.val (.ref a1), .val (.int 0), .val (.float f2), .val (.long q3), .second, .val (.int p4), .unset, .unset] [] := by first | (simp [entryFrame, mkF, argsToLocals, Value.category]; done) | rfl
abbrev y_6 : MethodName := ⟨"com/example/senret/senret/TopSentences", "siftUp", "(IFJI)V"⟩
-- com/example/senret/senret/TopSentences.siftUp(IFJI)V
abbrev Rm7 : Room := { frames := 1, cells := 0, slots := 0, locals := 17 }
def Q7 (Z : State) (a1 : Addr) (f2 : UInt32) (q3 : Int64) (p4 : Int32) (a5 : Addr) (k6 : ClassId) (a7 : Addr) (k8 : ClassId) (a9 : Addr) (k10 : ClassId) (h0 : Heap) (n0 : Nat) (v : Option Value) (h : Heap) (L : List Loc) : Prop := v = none ∧ Fr n0 L ∧ Keep h0 h [a5, a7, a9] ∧ Exa Z h a5 "[F" ∧ Arv Z h a5 k6 .float (1 : Int32) [(.float f2)] (.float 0) ∧ Exa Z h a7 "[J" ∧ Arv Z h a7 k8 .long (1 : Int32) [(.long q3)] (.long 0) ∧ Exa Z h a9 "[I" ∧ Arv Z h a9 k10 .int (1 : Int32) [(.int p4)] (.int 0)
-- ef_b865c2
theorem rm7 (l : Launch) (Z : State) (a0 : Array Value) (hw : HW a0 Z) (ws : List Jvm.Cond) (a1 : Addr) (f2 : UInt32) (q3 : Int64) (p4 : Int32) (a5 : Addr) (k6 : ClassId) (a7 : Addr) (k8 : ClassId) (a9 : Addr) (k10 : ClassId) (h0 : Heap) (n0 : Nat) (Z0 : n0 ≤ h0.size) (F_scoresAsRead_a1 : Fld Z h0 a1 kT "scoresAsRead" "[F" (.ref a5)) (V_a5 : Arv Z h0 a5 k6 .float (1 : Int32) [(.float 0)] (.float 0)) (g_a5 : n0 ≤ a5) (F_scores_a1 : Fld Z h0 a1 kT "scores" "[J" (.ref a7)) (ne_a1_a5 : a1 ≠ a5) (V_a7 : Arv Z h0 a7 k8 .long (1 : Int32) [(.long 0)] (.long 0)) (ne_a7_a5 : a7 ≠ a5) (g_a7 : n0 ≤ a7) (F_ordinals_a1 : Fld Z h0 a1 kT "ordinals" "[I" (.ref a9)) (ne_a1_a7 : a1 ≠ a7) (V_a9 : Arv Z h0 a9 k10 .int (1 : Int32) [(.int 0)] (.int 0)) (ne_a9_a5 : a9 ≠ a5) (ne_a9_a7 : a9 ≠ a7) (g_a9 : n0 ≤ a9) (E_a5 : Exa Z h0 a5 "[F") (E_a7 : Exa Z h0 a7 "[J") (E_a9 : Exa Z h0 a9 "[I") (E_a1 : Exa Z h0 a1 kT) :
    OwnMet l Z y_6 prog_25_method_8_code 8 none ws Rm7 #[(.ref a1), (.int 0), (.float f2), (.long q3), (.int p4)] h0 (Q7 Z a1 f2 q3 p4 a5 k6 a7 k8 a9 k10 h0 n0) := by
  refine own_body (plainFor_of_name pn_1) (ef_b865c2 a1 f2 q3 p4) ?_
  intro p e s m below meth c s₁ hx hby hml hown hnm hret hZ X0 e0
  have N0 := Fr.nil n0
  obtain ⟨_, T11, L11, X11, hQ11, st11⟩ := own_private X0 hx hZ hown (y := y_5) E_a1 (w_52 hw) (w_53 hw) (Jvm.Kit.selects_private (by decide) (mvT hZ (w_6 hw)) (mvP hZ (w_54 hw)) (mvT hZ (w_53 hw))) (w_54 hw) (w_7 hw) (w_55 hw) (rm6 l Z a0 hw [] a1 f2 q3 p4 a5 k6 a7 k8 a9 k10 h0 n0 Z0 F_scoresAsRead_a1 V_a5 g_a5 F_scores_a1 ne_a1_a5 V_a7 ne_a7_a5 g_a7 F_ordinals_a1 ne_a1_a7 V_a9 ne_a9_a5 ne_a9_a7 g_a9 E_a5 E_a7 E_a9) e0 (Ls := #[.val (.ref a1), .val (.int 0), .val (.float f2), .val (.long q3), .second, .val (.int p4), .val (.int 0), .unset]) (by rw [hml]; rfl) (argsL := [(.int 0), (.float f2), (.long q3), (.int p4)]) (rest := []) (lenOf pd_5 rfl) (hb hby d8_64) (W := 0)
  obtain ⟨rfl, Nq11, K11, o11_0, o11_1, o11_2, o11_3, o11_4, o11_5⟩ := hQ11
  have N11 := Fr.app N0 Nq11
  have s0 := K11.1
  have Kp0 : Keep h0 T11.heap [a5, a7, a9] := (Keep.refl h0 [a5, a7, a9]).trans K11 (allS (Or.inl (List.mem_of_getElem? (i := 0) rfl)) (allS (Or.inl (List.mem_of_getElem? (i := 1) rfl)) (allS (Or.inl (List.mem_of_getElem? (i := 2) rfl)) all0)))
  refine ⟨T11, _, _, _, none, X11, (fun _ => rfl), by decide, by decide, ?_, fun fs hr => ?_⟩
  · exact ⟨rfl, N11, Kp0, o11_0, o11_1, o11_2, o11_3, o11_4, o11_5⟩
  · refine XS.iloadN X0.here hx rfl (hb hby d8_0) rfl ?_
    refine XS.istore X0.here hx rfl (hb hby d8_1) rfl (l' := #[.val (.ref a1), .val (.int 0), .val (.float f2), .val (.long q3), .second, .val (.int p4), .val (.int 0), .unset]) rfl ?_
    refine XS.iload X0.here hx rfl (hb hby d8_3) rfl ?_
    refine XS.ifYes X0.here hx rfl (pc0 := 5) (pc' := 57) rfl (hb hby d8_5) rfl ((if0 _ _).trans (flt ((by decide : ¬ ((0 : Int32) < (0 : Int32))) : ¬ ((0 : Int32) < (0 : Int32)))).2.2.2) (by decide) (by decide) ?_
    refine XS.aloadN X0.here hx rfl (hb hby d8_57) rfl rfl ?_
    refine XS.iload X0.here hx rfl (hb hby d8_58) rfl ?_
    refine XS.floadN X0.here hx rfl (hb hby d8_60) rfl ?_
    refine XS.lloadN X0.here hx rfl (hb hby d8_61) rfl ?_
    refine XS.iload X0.here hx rfl (hb hby d8_62) rfl ?_
    refine st11 _ ?_
    exact X11.returnOut hx hret (hb hby d8_67) hr
theorem w_51 {a0 : Array Value} {Z : State} (hw : HW a0 Z) : Jvm.Cond.before (Jvm.Cond.code ({ cls := "com/example/senret/senret/TopSentences", name := "siftUp", desc := "(IFJI)V" } : Jvm.MethodName) prog_25_method_8_code (8 : Nat) (Option.none : Option Jvm.ClassFile.FieldType)) a0 Z = true := hw _ (List.mem_of_getElem? (i := 51) rfl)
theorem w_48 {a0 : Array Value} {Z : State} (hw : HW a0 Z) : Jvm.Cond.before (Jvm.Cond.methodLink "com/example/senret/senret/TopSentences" (50 : Nat) ({ cls := "com/example/senret/senret/TopSentences", name := "siftUp", desc := "(IFJI)V" } : Jvm.MethodName)) a0 Z = true := hw _ (List.mem_of_getElem? (i := 48) rfl)
theorem w_49 {a0 : Array Value} {Z : State} (hw : HW a0 Z) : Jvm.Cond.before (Jvm.Cond.instanceMethod ({ cls := "com/example/senret/senret/TopSentences", name := "siftUp", desc := "(IFJI)V" } : Jvm.MethodName)) a0 Z = true := hw _ (List.mem_of_getElem? (i := 49) rfl)
theorem w_50 {a0 : Array Value} {Z : State} (hw : HW a0 Z) : Jvm.Cond.before (Jvm.Cond.privateMethod ({ cls := "com/example/senret/senret/TopSentences", name := "siftUp", desc := "(IFJI)V" } : Jvm.MethodName)) a0 Z = true := hw _ (List.mem_of_getElem? (i := 50) rfl)
theorem d6_45 : decode prog_25_method_4_code 45 = .ok (.goto 32, 3) := by decide +kernel
theorem d6_77 : decode prog_25_method_4_code 77 = .ok (.return_, 1) := by decide +kernel
theorem ef_8cdad2 (a1 : Addr) (q2 : Int64) (p3 : Int32) (m : MethodId) : entryFrame m #[(.ref a1), (.long q2), (.int p3)] 5 = mkF m 0 #[.val (.ref a1), .val (.long q2), .second, .val (.int p3), .unset] [] := by first | (simp [entryFrame, mkF, argsToLocals, Value.category]; done) | rfl
abbrev y_7 : MethodName := ⟨"com/example/senret/senret/TopSentences", "offer", "(JI)V"⟩
-- com/example/senret/senret/TopSentences.offer(JI)V
abbrev Rm8 : Room := { frames := 2, cells := 0, slots := 0, locals := 36 }
def Q8 (Z : State) (a1 : Addr) (q2 : Int64) (p3 : Int32) (a7 : Addr) (k8 : ClassId) (a13 : Addr) (k16 : ClassId) (a20 : Addr) (k22 : ClassId) (h0 : Heap) (n0 : Nat) (v : Option Value) (h : Heap) (L : List Loc) : Prop := v = none ∧ Fr n0 L ∧ Keep h0 h [a1, a13, a7, a20] ∧ Exa Z h a1 kT ∧ Fld Z h a1 kT "depth" "I" (.int 1) ∧ Fld Z h a1 kT "ordinals" "[I" (.ref a20) ∧ Fld Z h a1 kT "scores" "[J" (.ref a7) ∧ Fld Z h a1 kT "scoresAsRead" "[F" (.ref a13) ∧ Fld Z h a1 kT "size" "I" (.int 1) ∧ Exa Z h a13 "[F" ∧ Arv Z h a13 k16 .float (1 : Int32) [(.float (sC q2))] (.float 0) ∧ Exa Z h a7 "[J" ∧ Arv Z h a7 k8 .long (1 : Int32) [(.long q2)] (.long 0) ∧ Exa Z h a20 "[I" ∧ Arv Z h a20 k22 .int (1 : Int32) [(.int p3)] (.int 0)
-- ef_8cdad2
theorem rm8 (l : Launch) (Z : State) (a0 : Array Value) (hw : HW a0 Z) (ws : List Jvm.Cond) (a1 : Addr) (q2 : Int64) (p3 : Int32) (a7 : Addr) (k8 : ClassId) (a13 : Addr) (k16 : ClassId) (a20 : Addr) (k22 : ClassId) (h0 : Heap) (n0 : Nat) (Z0 : n0 ≤ h0.size) (F_size_a1 : Fld Z h0 a1 kT "size" "I" (.int 0)) (F_depth_a1 : Fld Z h0 a1 kT "depth" "I" (.int 1)) (F_scores_a1 : Fld Z h0 a1 kT "scores" "[J" (.ref a7)) (V_a7 : Arv Z h0 a7 k8 .long (1 : Int32) [(.long 0)] (.long 0)) (E_a1 : Exa Z h0 a1 kT) (g_a1 : n0 ≤ a1) (F_scoresAsRead_a1 : Fld Z h0 a1 kT "scoresAsRead" "[F" (.ref a13)) (V_a13 : Arv Z h0 a13 k16 .float (1 : Int32) [(.float 0)] (.float 0)) (ne_a13_a1 : a13 ≠ a1) (g_a13 : n0 ≤ a13) (ne_a7_a1 : a7 ≠ a1) (ne_a7_a13 : a7 ≠ a13) (g_a7 : n0 ≤ a7) (F_ordinals_a1 : Fld Z h0 a1 kT "ordinals" "[I" (.ref a20)) (V_a20 : Arv Z h0 a20 k22 .int (1 : Int32) [(.int 0)] (.int 0)) (ne_a20_a1 : a20 ≠ a1) (ne_a20_a13 : a20 ≠ a13) (ne_a20_a7 : a20 ≠ a7) (g_a20 : n0 ≤ a20) (E_a13 : Exa Z h0 a13 "[F") (E_a7 : Exa Z h0 a7 "[J") (E_a20 : Exa Z h0 a20 "[I") :
    OwnMet l Z y_7 prog_25_method_4_code 5 none ws Rm8 #[(.ref a1), (.long q2), (.int p3)] h0 (Q8 Z a1 q2 p3 a7 k8 a13 k16 a20 k22 h0 n0) := by
  refine own_body (plainFor_of_name pn_1) (ef_8cdad2 a1 q2 p3) ?_
  intro p e s m below meth c s₁ hx hby hml hown hnm hret hZ X0 e0
  have N0 := Fr.nil n0
  obtain ⟨_, T4, L4, X4, hQ4, st4⟩ := own_callS X0 hx hZ hown (y := y_0) (w_43 hw) (w_1 hw) (w_2 hw) (w_3 hw) (rm1 l Z a0 hw [] q2 h0 n0 Z0) e0 (Ls := #[.val (.ref a1), .val (.long q2), .second, .val (.int p3), .unset]) (by rw [hml]; rfl) (argsL := [(.long q2)]) (rest := []) (lenOf pd_0 rfl) (hb hby d6_1) (W := 0)
  obtain ⟨rfl, Nq4, e4⟩ := hQ4
  have N4 := Fr.app N0 Nq4
  obtain ⟨T5, X5, e5, st5⟩ := getF X4 hx hZ hown (host := "") (Or.inl (w_34 hw)) Via.refl e4 F_size_a1 (g := (mkF m 7 #[.val (.ref a1), .val (.long q2), .second, .val (.int p3), .val (.float (sC q2))] [(.ref a1)])) rfl rfl (hb hby d6_7)
  obtain ⟨T6, X6, e6, st6⟩ := getF X5 hx hZ hown (host := "") (Or.inl (w_14 hw)) Via.refl e5 F_depth_a1 (g := (mkF m 11 #[.val (.ref a1), .val (.long q2), .second, .val (.int p3), .val (.float (sC q2))] [(.ref a1), (.int 0)])) rfl rfl (hb hby d6_11)
  obtain ⟨_, T9, L9, X9, hQ9, st9⟩ := own_private X6 hx hZ hown (y := y_4) E_a1 (w_44 hw) (w_45 hw) (Jvm.Kit.selects_private (by decide) (mvT hZ (w_6 hw)) (mvP hZ (w_46 hw)) (mvT hZ (w_45 hw))) (w_46 hw) (w_7 hw) (w_47 hw) (rm5 l Z a0 hw [] a1 a7 k8 h0 n0 Z0 F_size_a1 F_scores_a1 V_a7) e6 (Ls := #[.val (.ref a1), .val (.long q2), .second, .val (.int p3), .val (.float (sC q2))]) (by rw [hml]; rfl) (argsL := []) (rest := []) (lenOf pd_4 rfl) (hb hby d6_18) (W := 0)
  obtain ⟨rfl, Nq9, e9⟩ := hQ9
  have N9 := Fr.app N4 Nq9
  obtain ⟨T10, X10, e10, st10⟩ := getF X9 hx hZ hown (host := "") (Or.inl (w_34 hw)) Via.refl e9 F_size_a1 (g := (mkF m 23 #[.val (.ref a1), .val (.long q2), .second, .val (.int p3), .val (.float (sC q2))] [(.ref a1), (.ref a1)])) rfl rfl (hb hby d6_23)
  obtain ⟨T11, h11, X11, e11, W11, st11⟩ := putF X10 hx hZ hown (host := "") (Or.inl (w_34 hw)) Via.refl e10 F_size_a1 E_a1 (Or.inl (w_35 hw)) (w_6 hw) (ty := .int) (by decide) rfl rfl (g := (mkF m 28 #[.val (.ref a1), .val (.long q2), .second, .val (.int p3), .val (.float (sC q2))] [(.int 1), (.ref a1)])) rfl rfl (hb hby d6_28)
  have s0 := (Keep.of_wr W11).1
  have N11 := Fr.snoc X11 N9 g_a1
  have Fw11 : Fld Z h11 a1 kT "size" "I" (.int 1) := F_size_a1.same W11
  obtain ⟨T12, X12, e12, st12⟩ := getF X11 hx hZ hown (host := "") (Or.inl (w_34 hw)) Via.refl e11 Fw11 (g := (mkF m 33 #[.val (.ref a1), .val (.long q2), .second, .val (.int p3), .val (.float (sC q2))] [(.ref a1), (.ref a1)])) rfl rfl (hb hby d6_33)
  have Ex14 := (E_a1.wr W11)
  have Fl15 := (F_scoresAsRead_a1.other W11 (Or.inr (slot_ne (Or.inl (w_22 hw)) (Or.inl (w_35 hw)) (by decide) (t := (.array .float)) (t' := .int) (by decide) (by decide))))
  have Va17 := (V_a13.other W11 ne_a13_a1)
  have Fl18 := (F_scores_a1.other W11 (Or.inr (slot_ne (Or.inl (w_25 hw)) (Or.inl (w_35 hw)) (by decide) (t := (.array .long)) (t' := .int) (by decide) (by decide))))
  have Va19 := (V_a7.other W11 ne_a7_a1)
  have Fl21 := (F_ordinals_a1.other W11 (Or.inr (slot_ne (Or.inl (w_28 hw)) (Or.inl (w_35 hw)) (by decide) (t := (.array .int)) (t' := .int) (by decide) (by decide))))
  have Va23 := (V_a20.other W11 ne_a20_a1)
  have Ex24 := (E_a13.wr W11)
  have Ex25 := (E_a7.wr W11)
  have Ex26 := (E_a20.wr W11)
  have z1 := Nat.le_trans Z0 s0
  obtain ⟨_, T27, L27, X27, hQ27, st27⟩ := own_private X12 hx hZ hown (y := y_6) Ex14 (w_48 hw) (w_49 hw) (Jvm.Kit.selects_private (by decide) (mvT hZ (w_6 hw)) (mvP hZ (w_50 hw)) (mvT hZ (w_49 hw))) (w_50 hw) (w_7 hw) (w_51 hw) (rm7 l Z a0 hw [] a1 (sC q2) q2 p3 a13 k16 a7 k8 a20 k22 h11 n0 z1 Fl15 Va17 g_a13 Fl18 (Ne.symm ne_a13_a1) Va19 ne_a7_a13 g_a7 Fl21 (Ne.symm ne_a7_a1) Va23 ne_a20_a13 ne_a20_a7 g_a20 Ex24 Ex25 Ex26 Ex14) e12 (Ls := #[.val (.ref a1), .val (.long q2), .second, .val (.int p3), .val (.float (sC q2))]) (by rw [hml]; rfl) (argsL := [(.int 0), (.float (sC q2)), (.long q2), (.int p3)]) (rest := []) (lenOf pd_5 rfl) (hb hby d6_42) (W := 0)
  obtain ⟨rfl, Nq27, K27, o27_0, o27_1, o27_2, o27_3, o27_4, o27_5⟩ := hQ27
  have N27 := Fr.app N11 Nq27
  have s1 := K27.1
  have Ex28 := (Ex14.keep K27)
  have Fl29 := ((F_depth_a1.other W11 (Or.inr (slot_ne (Or.inr (w_15 hw)) (Or.inl (w_35 hw)) (by decide) (t := .int) (t' := .int) (by decide) (by decide)))).keep K27 (ninS (Ne.symm ne_a13_a1) (ninS (Ne.symm ne_a7_a1) (ninS (Ne.symm ne_a20_a1) nin0))))
  have Fl30 := (Fl21.keep K27 (ninS (Ne.symm ne_a13_a1) (ninS (Ne.symm ne_a7_a1) (ninS (Ne.symm ne_a20_a1) nin0))))
  have Fl31 := (Fl18.keep K27 (ninS (Ne.symm ne_a13_a1) (ninS (Ne.symm ne_a7_a1) (ninS (Ne.symm ne_a20_a1) nin0))))
  have Fl32 := (Fl15.keep K27 (ninS (Ne.symm ne_a13_a1) (ninS (Ne.symm ne_a7_a1) (ninS (Ne.symm ne_a20_a1) nin0))))
  have Fl33 := (Fw11.keep K27 (ninS (Ne.symm ne_a13_a1) (ninS (Ne.symm ne_a7_a1) (ninS (Ne.symm ne_a20_a1) nin0))))
  have Kp0 : Keep h0 h11 [a1, a13, a7, a20] := (Keep.refl h0 [a1, a13, a7, a20]).wr W11 (Or.inl (List.mem_of_getElem? (i := 0) rfl))
  have Kp1 : Keep h0 T27.heap [a1, a13, a7, a20] := Kp0.trans K27 (allS (Or.inl (List.mem_of_getElem? (i := 1) rfl)) (allS (Or.inl (List.mem_of_getElem? (i := 2) rfl)) (allS (Or.inl (List.mem_of_getElem? (i := 3) rfl)) all0)))
  refine ⟨T27, _, _, _, none, X27, (fun _ => rfl), by decide, by decide, ?_, fun fs hr => ?_⟩
  · exact ⟨rfl, N27, Kp1, Ex28, Fl29, Fl30, Fl31, Fl32, Fl33, o27_0, o27_1, o27_2, o27_3, o27_4, o27_5⟩
  · refine XS.lloadN X0.here hx rfl (hb hby d6_0) rfl ?_
    refine st4 _ ?_
    refine XS.fstore X4.here hx rfl (hb hby d6_4) rfl (l' := #[.val (.ref a1), .val (.long q2), .second, .val (.int p3), .val (.float (sC q2))]) rfl ?_
    refine XS.aloadN X4.here hx rfl (hb hby d6_6) rfl rfl ?_
    refine st5 _ ?_
    refine XS.aloadN X5.here hx rfl (hb hby d6_10) rfl rfl ?_
    refine st6 _ ?_
    refine XS.icmpNo X6.here hx rfl (hb hby d6_14) rfl (tlt ((by decide : (0 : Int32) < (1 : Int32)) : (0 : Int32) < (1 : Int32))).2.1 ?_
    refine XS.aloadN X6.here hx rfl (hb hby d6_17) rfl rfl ?_
    refine st9 _ ?_
    refine XS.aloadN X9.here hx rfl (hb hby d6_21) rfl rfl ?_
    refine XS.dup X9.here hx rfl (hb hby d6_22) rfl rfl ?_
    refine st10 _ ?_
    refine XS.iconst X10.here hx rfl (hb hby d6_26) ?_
    refine XS.iadd X10.here hx rfl (hb hby d6_27) rfl ?_
    refine st11 _ ?_
    refine XS.aloadN X11.here hx rfl (hb hby d6_31) rfl rfl ?_
    refine XS.aloadN X11.here hx rfl (hb hby d6_32) rfl rfl ?_
    refine st12 _ ?_
    refine XS.iconst X12.here hx rfl (hb hby d6_36) ?_
    refine XS.isub X12.here hx rfl (hb hby d6_37) rfl ?_
    refine XS.fload X12.here hx rfl (hb hby d6_38) rfl ?_
    refine XS.lloadN X12.here hx rfl (hb hby d6_40) rfl ?_
    refine XS.iloadN X12.here hx rfl (hb hby d6_41) rfl ?_
    refine st27 _ ?_
    refine XS.goto X27.here hx rfl (pc0 := 45) (pc' := 77) rfl (hb hby d6_45) (by decide) (by decide) ?_
    exact X27.returnOut hx hret (hb hby d6_77) hr
theorem pd_6 : parseMethodDescriptor "(JI)V" = some ⟨[.long, .int], none⟩ := by decide +kernel
theorem w_42 {a0 : Array Value} {Z : State} (hw : HW a0 Z) : Jvm.Cond.before (Jvm.Cond.code ({ cls := "com/example/senret/senret/TopSentences", name := "offer", desc := "(JI)V" } : Jvm.MethodName) prog_25_method_4_code (5 : Nat) (Option.none : Option Jvm.ClassFile.FieldType)) a0 Z = true := hw _ (List.mem_of_getElem? (i := 42) rfl)
theorem w_38 {a0 : Array Value} {Z : State} (hw : HW a0 Z) : Jvm.Cond.before (Jvm.Cond.methodLink "com/example/senret/senret/TopSentencesLowestAdmittedPinLaw" (25 : Nat) ({ cls := "com/example/senret/senret/TopSentences", name := "offer", desc := "(JI)V" } : Jvm.MethodName)) a0 Z = true := hw _ (List.mem_of_getElem? (i := 38) rfl)
theorem w_41 {a0 : Array Value} {Z : State} (hw : HW a0 Z) : Jvm.Cond.before (Jvm.Cond.selects "com/example/senret/senret/TopSentences" ({ cls := "com/example/senret/senret/TopSentences", name := "offer", desc := "(JI)V" } : Jvm.MethodName) ({ cls := "com/example/senret/senret/TopSentences", name := "offer", desc := "(JI)V" } : Jvm.MethodName)) a0 Z = true := hw _ (List.mem_of_getElem? (i := 41) rfl)
theorem w_39 {a0 : Array Value} {Z : State} (hw : HW a0 Z) : Jvm.Cond.before (Jvm.Cond.declares ({ cls := "com/example/senret/senret/TopSentences", name := "offer", desc := "(JI)V" } : Jvm.MethodName)) a0 Z = true := hw _ (List.mem_of_getElem? (i := 39) rfl)
theorem w_40 {a0 : Array Value} {Z : State} (hw : HW a0 Z) : Jvm.Cond.before (Jvm.Cond.instanceMethod ({ cls := "com/example/senret/senret/TopSentences", name := "offer", desc := "(JI)V" } : Jvm.MethodName)) a0 Z = true := hw _ (List.mem_of_getElem? (i := 40) rfl)
theorem d5_16 : decode prog_25_method_3_code 16 = .ok (.aload_n 0, 1) := by decide +kernel
theorem d5_17 : decode prog_25_method_3_code 17 = .ok (.getfield 19, 3) := by decide +kernel
theorem d5_20 : decode prog_25_method_3_code 20 = .ok (.iconst 0, 1) := by decide +kernel
theorem d5_21 : decode prog_25_method_3_code 21 = .ok (.faload, 1) := by decide +kernel
-- com/example/senret/senret/TopSentences.lowestAdmitted()F
abbrev Rm9 : Room := { frames := 0, cells := 0, slots := 0, locals := 0 }
def Q9 (Z : State) (a1 : Addr) (a4 : Addr) (f6 : UInt32) (k7 : ClassId) (h0 : Heap) (n0 : Nat) (v : Option Value) (h : Heap) (L : List Loc) : Prop := v = some (.float f6) ∧ Fr n0 L ∧ h = h0
-- ef_26f21a
theorem rm9 (l : Launch) (Z : State) (a0 : Array Value) (hw : HW a0 Z) (ws : List Jvm.Cond) (a1 : Addr) (a4 : Addr) (f6 : UInt32) (k7 : ClassId) (h0 : Heap) (n0 : Nat) (Z0 : n0 ≤ h0.size) (F_size_a1 : Fld Z h0 a1 kT "size" "I" (.int 1)) (F_depth_a1 : Fld Z h0 a1 kT "depth" "I" (.int 1)) (F_scoresAsRead_a1 : Fld Z h0 a1 kT "scoresAsRead" "[F" (.ref a4)) (V_a4 : Arv Z h0 a4 k7 .float (1 : Int32) [(.float f6)] (.float 0)) :
    OwnMet l Z y_3 prog_25_method_3_code 1 (some .float) ws Rm9 #[(.ref a1)] h0 (Q9 Z a1 a4 f6 k7 h0 n0) := by
  refine own_body (plainFor_of_name pn_1) (ef_26f21a a1) ?_
  intro p e s m below meth c s₁ hx hby hml hown hnm hret hZ X0 e0
  have N0 := Fr.nil n0
  obtain ⟨T2, X2, e2, st2⟩ := getF X0 hx hZ hown (host := "") (Or.inl (w_34 hw)) Via.refl e0 F_size_a1 (g := (mkF m 1 #[.val (.ref a1)] [(.ref a1)])) rfl rfl (hb hby d5_1)
  obtain ⟨T3, X3, e3, st3⟩ := getF X2 hx hZ hown (host := "") (Or.inl (w_14 hw)) Via.refl e2 F_depth_a1 (g := (mkF m 5 #[.val (.ref a1)] [(.ref a1), (.int 1)])) rfl rfl (hb hby d5_5)
  obtain ⟨T5, X5, e5, st5⟩ := getF X3 hx hZ hown (host := "") (Or.inl (w_21 hw)) Via.refl e3 F_scoresAsRead_a1 (g := (mkF m 17 #[.val (.ref a1)] [(.ref a1)])) rfl rfl (hb hby d5_17)
  obtain ⟨cl8, Ar8, q8, S8, M8, Hs8, G8⟩ := id V_a4
  have hin9 : ¬ ((0 : Int32) < 0 ∨ cl8.slots.size ≤ ((0 : Int32)).toNatClampNeg) := inb_of S8 ⟨(by decide : ¬ ((0 : Int32) < (0 : Int32))), (by decide : (0 : Int32) < (1 : Int32))⟩
  refine ⟨T5, _, _, _, (some (.float f6)), X5, nofun, by decide, by decide, ?_, fun fs hr => ?_⟩
  · rw [e5]
    exact ⟨rfl, N0, rfl⟩
  · refine XS.aloadN X0.here hx rfl (hb hby d5_0) rfl rfl ?_
    refine st2 _ ?_
    refine XS.aloadN X2.here hx rfl (hb hby d5_4) rfl rfl ?_
    refine st3 _ ?_
    refine XS.icmpYes X3.here hx rfl (pc0 := 8) (pc' := 16) rfl (hb hby d5_8) rfl (flt ((by decide : ¬ ((1 : Int32) < (1 : Int32))) : ¬ ((1 : Int32) < (1 : Int32)))).2.1 (by decide) (by decide) ?_
    refine XS.aloadN X3.here hx rfl (hb hby d5_16) rfl rfl ?_
    refine st5 _ ?_
    refine XS.iconst X5.here hx rfl (hb hby d5_20) ?_
    refine X5.faload hx (j := (0 : Int32)) (v := (.float f6)) (by rw [e5]; exact Ar8.1) (State.isArrayOf_alike hZ.alike Ar8.2.1) Ar8.2.2 hin9 (Has.at Hs8 hin9 rfl) (g := (mkF m 21 #[.val (.ref a1)] [(.int 0), (.ref a4)])) rfl rfl (hb hby d5_21) _ ?_
    exact retOut X5 hx hret rfl (Or.inr (Or.inr (Or.inr (Or.inl ⟨rfl, rfl, _, rfl⟩)))) (hb hby d5_22) hr
theorem d10_0 : decode method_3_code 0 = .ok (.iload_n 1, 1) := by decide +kernel
theorem d10_1 : decode method_3_code 1 = .ok (.iload_n 0, 1) := by decide +kernel
theorem d10_2 : decode method_3_code 2 = .ok (.if_icmp .ge 6, 3) := by decide +kernel
theorem d10_8 : decode method_3_code 8 = .ok (.iload_n 1, 1) := by decide +kernel
theorem d10_9 : decode method_3_code 9 = .ok (.iconst 1, 1) := by decide +kernel
theorem d10_10 : decode method_3_code 10 = .ok (.if_icmp .ne 5, 3) := by decide +kernel
theorem d10_13 : decode method_3_code 13 = .ok (.fload_n 2, 1) := by decide +kernel
theorem d10_14 : decode method_3_code 14 = .ok (.freturn, 1) := by decide +kernel
theorem ef_2a5a65 (f1 : UInt32) (f2 : UInt32) (f3 : UInt32) (m : MethodId) : entryFrame m #[(.int 1), (.int 1), (.float f1), (.float f2), (.float f3)] 5 = mkF m 0 #[.val (.int 1), .val (.int 1), .val (.float f1), .val (.float f2), .val (.float f3)] [] := by first | (simp [entryFrame, mkF, argsToLocals, Value.category]; done) | rfl
abbrev y_8 : MethodName := ⟨"com/example/senret/senret/TopSentencesLowestAdmittedPinLaw", "expected", "(IIFFF)F"⟩
theorem pn_2 : plainName "com/example/senret/senret/TopSentencesLowestAdmittedPinLaw" = true := by first | (simp [plainName, overriddenIn]; done) | decide +kernel
-- com/example/senret/senret/TopSentencesLowestAdmittedPinLaw.expected(IIFFF)F
abbrev Rm10 : Room := { frames := 0, cells := 0, slots := 0, locals := 0 }
def Q10 (Z : State) (f1 : UInt32) (f2 : UInt32) (f3 : UInt32) (h0 : Heap) (n0 : Nat) (v : Option Value) (h : Heap) (L : List Loc) : Prop := v = some (.float f1) ∧ Fr n0 L ∧ h = h0
-- ef_2a5a65
theorem rm10 (l : Launch) (Z : State) (a0 : Array Value) (hw : HW a0 Z) (ws : List Jvm.Cond) (f1 : UInt32) (f2 : UInt32) (f3 : UInt32) (h0 : Heap) (n0 : Nat) (Z0 : n0 ≤ h0.size) :
    OwnMet l Z y_8 method_3_code 5 (some .float) ws Rm10 #[(.int 1), (.int 1), (.float f1), (.float f2), (.float f3)] h0 (Q10 Z f1 f2 f3 h0 n0) := by
  refine own_body (plainFor_of_name pn_2) (ef_2a5a65 f1 f2 f3) ?_
  intro p e s m below meth c s₁ hx hby hml hown hnm hret hZ X0 e0
  have N0 := Fr.nil n0
  refine ⟨s₁, _, _, _, (some (.float f1)), X0, nofun, by decide, by decide, ?_, fun fs hr => ?_⟩
  · rw [e0]
    exact ⟨rfl, N0, rfl⟩
  · refine XS.iloadN X0.here hx rfl (hb hby d10_0) rfl ?_
    refine XS.iloadN X0.here hx rfl (hb hby d10_1) rfl ?_
    refine XS.icmpYes X0.here hx rfl (pc0 := 2) (pc' := 8) rfl (hb hby d10_2) rfl (flt ((by decide : ¬ ((1 : Int32) < (1 : Int32))) : ¬ ((1 : Int32) < (1 : Int32)))).2.1 (by decide) (by decide) ?_
    refine XS.iloadN X0.here hx rfl (hb hby d10_8) rfl ?_
    refine XS.iconst X0.here hx rfl (hb hby d10_9) ?_
    refine XS.icmpNo X0.here hx rfl (hb hby d10_10) rfl (teq ((by decide : (1 : Int32) = (1 : Int32)) : (1 : Int32) = (1 : Int32))).2 ?_
    refine XS.floadN X0.here hx rfl (hb hby d10_13) rfl ?_
    exact retOut X0 hx hret rfl (Or.inr (Or.inr (Or.inr (Or.inl ⟨rfl, rfl, _, rfl⟩)))) (hb hby d10_14) hr
theorem pd_7 : parseMethodDescriptor "(IIFFF)F" = some ⟨[.int, .int, .float, .float, .float], some .float⟩ := by decide +kernel
theorem w_58 {a0 : Array Value} {Z : State} (hw : HW a0 Z) : Jvm.Cond.before (Jvm.Cond.initialized "com/example/senret/senret/TopSentencesLowestAdmittedPinLaw") a0 Z = true := hw _ (List.mem_of_getElem? (i := 58) rfl)
theorem w_59 {a0 : Array Value} {Z : State} (hw : HW a0 Z) : Jvm.Cond.before (Jvm.Cond.code ({ cls := "com/example/senret/senret/TopSentencesLowestAdmittedPinLaw", name := "expected", desc := "(IIFFF)F" } : Jvm.MethodName) method_3_code (5 : Nat) (Option.some Jvm.ClassFile.FieldType.float)) a0 Z = true := hw _ (List.mem_of_getElem? (i := 59) rfl)
theorem w_56 {a0 : Array Value} {Z : State} (hw : HW a0 Z) : Jvm.Cond.before (Jvm.Cond.methodLink "com/example/senret/senret/TopSentencesLowestAdmittedPinLaw" (29 : Nat) ({ cls := "com/example/senret/senret/TopSentencesLowestAdmittedPinLaw", name := "expected", desc := "(IIFFF)F" } : Jvm.MethodName)) a0 Z = true := hw _ (List.mem_of_getElem? (i := 56) rfl)
theorem w_57 {a0 : Array Value} {Z : State} (hw : HW a0 Z) : Jvm.Cond.before (Jvm.Cond.static ({ cls := "com/example/senret/senret/TopSentencesLowestAdmittedPinLaw", name := "expected", desc := "(IIFFF)F" } : Jvm.MethodName)) a0 Z = true := hw _ (List.mem_of_getElem? (i := 57) rfl)
theorem d6_48 : decode prog_25_method_4_code 48 = .ok (.aload_n 0, 1) := by decide +kernel
theorem d6_49 : decode prog_25_method_4_code 49 = .ok (.getfield 19, 3) := by decide +kernel
theorem d6_52 : decode prog_25_method_4_code 52 = .ok (.iconst 0, 1) := by decide +kernel
theorem d6_53 : decode prog_25_method_4_code 53 = .ok (.faload, 1) := by decide +kernel
theorem d6_54 : decode prog_25_method_4_code 54 = .ok (.aload_n 0, 1) := by decide +kernel
theorem d6_55 : decode prog_25_method_4_code 55 = .ok (.getfield 27, 3) := by decide +kernel
theorem d6_58 : decode prog_25_method_4_code 58 = .ok (.iconst 0, 1) := by decide +kernel
theorem d6_59 : decode prog_25_method_4_code 59 = .ok (.iaload, 1) := by decide +kernel
theorem d6_60 : decode prog_25_method_4_code 60 = .ok (.fload 4, 2) := by decide +kernel
theorem d6_62 : decode prog_25_method_4_code 62 = .ok (.iload_n 3, 1) := by decide +kernel
theorem d6_63 : decode prog_25_method_4_code 63 = .ok (.invokestatic 54, 3) := by decide +kernel
theorem d11_0 : decode prog_25_method_6_code 0 = .ok (.fload_n 0, 1) := by decide +kernel
theorem d11_1 : decode prog_25_method_6_code 1 = .ok (.fload_n 2, 1) := by decide +kernel
theorem d11_2 : decode prog_25_method_6_code 2 = .ok (.fcmp .g, 1) := by decide +kernel
theorem d11_3 : decode prog_25_method_6_code 3 = .ok (.ifCond .lt 14, 3) := by decide +kernel
theorem d11_17 : decode prog_25_method_6_code 17 = .ok (.iconst 1, 1) := by decide +kernel
theorem d11_18 : decode prog_25_method_6_code 18 = .ok (.goto 4, 3) := by decide +kernel
theorem d11_22 : decode prog_25_method_6_code 22 = .ok (.ireturn, 1) := by decide +kernel
theorem d11_6 : decode prog_25_method_6_code 6 = .ok (.fload_n 0, 1) := by decide +kernel
theorem d11_7 : decode prog_25_method_6_code 7 = .ok (.fload_n 2, 1) := by decide +kernel
theorem d11_8 : decode prog_25_method_6_code 8 = .ok (.fcmp .l, 1) := by decide +kernel
theorem d11_9 : decode prog_25_method_6_code 9 = .ok (.ifCond .ne 12, 3) := by decide +kernel
theorem d11_12 : decode prog_25_method_6_code 12 = .ok (.iload_n 1, 1) := by decide +kernel
theorem d11_13 : decode prog_25_method_6_code 13 = .ok (.iload_n 3, 1) := by decide +kernel
theorem d11_14 : decode prog_25_method_6_code 14 = .ok (.if_icmp .ge 7, 3) := by decide +kernel
theorem d11_21 : decode prog_25_method_6_code 21 = .ok (.iconst 0, 1) := by decide +kernel
theorem ef_ed43c7 (f1 : UInt32) (p2 : Int32) (f3 : UInt32) (p4 : Int32) (m : MethodId) : entryFrame m #[(.float f1), (.int p2), (.float f3), (.int p4)] 4 = mkF m 0 #[.val (.float f1), .val (.int p2), .val (.float f3), .val (.int p4)] [] := by first | (simp [entryFrame, mkF, argsToLocals, Value.category]; done) | rfl
abbrev y_9 : MethodName := ⟨"com/example/senret/senret/TopSentences", "isWorse", "(FIFI)Z"⟩
-- com/example/senret/senret/TopSentences.isWorse(FIFI)Z
abbrev Rm11 : Room := { frames := 0, cells := 0, slots := 0, locals := 0 }
def Q11 (Z : State) (f1 : UInt32) (p2 : Int32) (f3 : UInt32) (p4 : Int32) (h0 : Heap) (n0 : Nat) (v : Option Value) (h : Heap) (L : List Loc) : Prop := v = some (.int (if (cmpValue (FP.fcmp f1 f3) .g) < (0 : Int32) then (1 : Int32) else (if (cmpValue (FP.fcmp f1 f3) .l) = (0 : Int32) then (if p2 < p4 then (1 : Int32) else (0 : Int32)) else (0 : Int32)))) ∧ Fr n0 L ∧ h = h0
-- ef_ed43c7
theorem rm11_0 (l : Launch) (Z : State) (a0 : Array Value) (hw : HW a0 Z) (ws : List Jvm.Cond) (f1 : UInt32) (p2 : Int32) (f3 : UInt32) (p4 : Int32) (h0 : Heap) (n0 : Nat) (Z0 : n0 ≤ h0.size) (cc1 : (cmpValue (FP.fcmp f1 f3) .g) < (0 : Int32)) :
    OwnMet l Z y_9 prog_25_method_6_code 4 (some .boolean) ws Rm11 #[(.float f1), (.int p2), (.float f3), (.int p4)] h0 (Q11 Z f1 p2 f3 p4 h0 n0) := by
  refine own_body (plainFor_of_name pn_1) (ef_ed43c7 f1 p2 f3 p4) ?_
  intro p e s m below meth c s₁ hx hby hml hown hnm hret hZ X0 e0
  have N0 := Fr.nil n0
  refine ⟨s₁, _, _, _, (some (.int 1)), X0, nofun, by decide, by decide, ?_, fun fs hr => ?_⟩
  · rw [e0]
    unfold Q11
    rw [show (if (cmpValue (FP.fcmp f1 f3) .g) < (0 : Int32) then (1 : Int32) else (if (cmpValue (FP.fcmp f1 f3) .l) = (0 : Int32) then (if p2 < p4 then (1 : Int32) else (0 : Int32)) else (0 : Int32))) = (1 : Int32) from by rw [if_pos cc1]]
    exact ⟨rfl, N0, rfl⟩
  · refine XS.floadN X0.here hx rfl (hb hby d11_0) rfl ?_
    refine XS.floadN X0.here hx rfl (hb hby d11_1) rfl ?_
    refine XS.fcmpS X0.here hx rfl (hb hby d11_2) rfl rfl ?_
    refine XS.ifYes X0.here hx rfl (pc0 := 3) (pc' := 17) rfl (hb hby d11_3) rfl ((if0 _ _).trans (tlt (cc1 : (cmpValue (FP.fcmp f1 f3) .g) < (0 : Int32))).1) (by decide) (by decide) ?_
    refine XS.iconst X0.here hx rfl (hb hby d11_17) ?_
    refine XS.goto X0.here hx rfl (pc0 := 18) (pc' := 22) rfl (hb hby d11_18) (by decide) (by decide) ?_
    exact retN X0 hx (t := .boolean) hret (by simp) (hb hby d11_22) hr
theorem rm11_1 (l : Launch) (Z : State) (a0 : Array Value) (hw : HW a0 Z) (ws : List Jvm.Cond) (f1 : UInt32) (p2 : Int32) (f3 : UInt32) (p4 : Int32) (h0 : Heap) (n0 : Nat) (Z0 : n0 ≤ h0.size) (cc1 : ¬ ((cmpValue (FP.fcmp f1 f3) .g) < (0 : Int32))) (cc2 : (cmpValue (FP.fcmp f1 f3) .l) = (0 : Int32)) (cc3 : p2 < p4) :
    OwnMet l Z y_9 prog_25_method_6_code 4 (some .boolean) ws Rm11 #[(.float f1), (.int p2), (.float f3), (.int p4)] h0 (Q11 Z f1 p2 f3 p4 h0 n0) := by
  refine own_body (plainFor_of_name pn_1) (ef_ed43c7 f1 p2 f3 p4) ?_
  intro p e s m below meth c s₁ hx hby hml hown hnm hret hZ X0 e0
  have N0 := Fr.nil n0
  refine ⟨s₁, _, _, _, (some (.int 1)), X0, nofun, by decide, by decide, ?_, fun fs hr => ?_⟩
  · rw [e0]
    unfold Q11
    rw [show (if (cmpValue (FP.fcmp f1 f3) .g) < (0 : Int32) then (1 : Int32) else (if (cmpValue (FP.fcmp f1 f3) .l) = (0 : Int32) then (if p2 < p4 then (1 : Int32) else (0 : Int32)) else (0 : Int32))) = (1 : Int32) from by rw [if_neg cc1, if_pos cc2, if_pos cc3]]
    exact ⟨rfl, N0, rfl⟩
  · refine XS.floadN X0.here hx rfl (hb hby d11_0) rfl ?_
    refine XS.floadN X0.here hx rfl (hb hby d11_1) rfl ?_
    refine XS.fcmpS X0.here hx rfl (hb hby d11_2) rfl rfl ?_
    refine XS.ifNo X0.here hx rfl (hb hby d11_3) rfl ((if0 _ _).trans (flt (cc1 : ¬ ((cmpValue (FP.fcmp f1 f3) .g) < (0 : Int32)))).1) ?_
    refine XS.floadN X0.here hx rfl (hb hby d11_6) rfl ?_
    refine XS.floadN X0.here hx rfl (hb hby d11_7) rfl ?_
    refine XS.fcmpS X0.here hx rfl (hb hby d11_8) rfl rfl ?_
    refine XS.ifNo X0.here hx rfl (hb hby d11_9) rfl ((if0 _ _).trans (teq (cc2 : (cmpValue (FP.fcmp f1 f3) .l) = (0 : Int32))).2) ?_
    refine XS.iloadN X0.here hx rfl (hb hby d11_12) rfl ?_
    refine XS.iloadN X0.here hx rfl (hb hby d11_13) rfl ?_
    refine XS.icmpNo X0.here hx rfl (hb hby d11_14) rfl (tlt (cc3 : p2 < p4)).2.1 ?_
    refine XS.iconst X0.here hx rfl (hb hby d11_17) ?_
    refine XS.goto X0.here hx rfl (pc0 := 18) (pc' := 22) rfl (hb hby d11_18) (by decide) (by decide) ?_
    exact retN X0 hx (t := .boolean) hret (by simp) (hb hby d11_22) hr
theorem rm11_2 (l : Launch) (Z : State) (a0 : Array Value) (hw : HW a0 Z) (ws : List Jvm.Cond) (f1 : UInt32) (p2 : Int32) (f3 : UInt32) (p4 : Int32) (h0 : Heap) (n0 : Nat) (Z0 : n0 ≤ h0.size) (cc1 : ¬ ((cmpValue (FP.fcmp f1 f3) .g) < (0 : Int32))) (cc2 : (cmpValue (FP.fcmp f1 f3) .l) = (0 : Int32)) (cc3 : ¬ (p2 < p4)) :
    OwnMet l Z y_9 prog_25_method_6_code 4 (some .boolean) ws Rm11 #[(.float f1), (.int p2), (.float f3), (.int p4)] h0 (Q11 Z f1 p2 f3 p4 h0 n0) := by
  refine own_body (plainFor_of_name pn_1) (ef_ed43c7 f1 p2 f3 p4) ?_
  intro p e s m below meth c s₁ hx hby hml hown hnm hret hZ X0 e0
  have N0 := Fr.nil n0
  refine ⟨s₁, _, _, _, (some (.int 0)), X0, nofun, by decide, by decide, ?_, fun fs hr => ?_⟩
  · rw [e0]
    unfold Q11
    rw [show (if (cmpValue (FP.fcmp f1 f3) .g) < (0 : Int32) then (1 : Int32) else (if (cmpValue (FP.fcmp f1 f3) .l) = (0 : Int32) then (if p2 < p4 then (1 : Int32) else (0 : Int32)) else (0 : Int32))) = (0 : Int32) from by rw [if_neg cc1, if_pos cc2, if_neg cc3]]
    exact ⟨rfl, N0, rfl⟩
  · refine XS.floadN X0.here hx rfl (hb hby d11_0) rfl ?_
    refine XS.floadN X0.here hx rfl (hb hby d11_1) rfl ?_
    refine XS.fcmpS X0.here hx rfl (hb hby d11_2) rfl rfl ?_
    refine XS.ifNo X0.here hx rfl (hb hby d11_3) rfl ((if0 _ _).trans (flt (cc1 : ¬ ((cmpValue (FP.fcmp f1 f3) .g) < (0 : Int32)))).1) ?_
    refine XS.floadN X0.here hx rfl (hb hby d11_6) rfl ?_
    refine XS.floadN X0.here hx rfl (hb hby d11_7) rfl ?_
    refine XS.fcmpS X0.here hx rfl (hb hby d11_8) rfl rfl ?_
    refine XS.ifNo X0.here hx rfl (hb hby d11_9) rfl ((if0 _ _).trans (teq (cc2 : (cmpValue (FP.fcmp f1 f3) .l) = (0 : Int32))).2) ?_
    refine XS.iloadN X0.here hx rfl (hb hby d11_12) rfl ?_
    refine XS.iloadN X0.here hx rfl (hb hby d11_13) rfl ?_
    refine XS.icmpYes X0.here hx rfl (pc0 := 14) (pc' := 21) rfl (hb hby d11_14) rfl (flt (cc3 : ¬ (p2 < p4))).2.1 (by decide) (by decide) ?_
    refine XS.iconst X0.here hx rfl (hb hby d11_21) ?_
    exact retN X0 hx (t := .boolean) hret (by simp) (hb hby d11_22) hr
theorem rm11_3 (l : Launch) (Z : State) (a0 : Array Value) (hw : HW a0 Z) (ws : List Jvm.Cond) (f1 : UInt32) (p2 : Int32) (f3 : UInt32) (p4 : Int32) (h0 : Heap) (n0 : Nat) (Z0 : n0 ≤ h0.size) (cc1 : ¬ ((cmpValue (FP.fcmp f1 f3) .g) < (0 : Int32))) (cc2 : ¬ ((cmpValue (FP.fcmp f1 f3) .l) = (0 : Int32))) :
    OwnMet l Z y_9 prog_25_method_6_code 4 (some .boolean) ws Rm11 #[(.float f1), (.int p2), (.float f3), (.int p4)] h0 (Q11 Z f1 p2 f3 p4 h0 n0) := by
  refine own_body (plainFor_of_name pn_1) (ef_ed43c7 f1 p2 f3 p4) ?_
  intro p e s m below meth c s₁ hx hby hml hown hnm hret hZ X0 e0
  have N0 := Fr.nil n0
  refine ⟨s₁, _, _, _, (some (.int 0)), X0, nofun, by decide, by decide, ?_, fun fs hr => ?_⟩
  · rw [e0]
    unfold Q11
    rw [show (if (cmpValue (FP.fcmp f1 f3) .g) < (0 : Int32) then (1 : Int32) else (if (cmpValue (FP.fcmp f1 f3) .l) = (0 : Int32) then (if p2 < p4 then (1 : Int32) else (0 : Int32)) else (0 : Int32))) = (0 : Int32) from by rw [if_neg cc1, if_neg cc2]]
    exact ⟨rfl, N0, rfl⟩
  · refine XS.floadN X0.here hx rfl (hb hby d11_0) rfl ?_
    refine XS.floadN X0.here hx rfl (hb hby d11_1) rfl ?_
    refine XS.fcmpS X0.here hx rfl (hb hby d11_2) rfl rfl ?_
    refine XS.ifNo X0.here hx rfl (hb hby d11_3) rfl ((if0 _ _).trans (flt (cc1 : ¬ ((cmpValue (FP.fcmp f1 f3) .g) < (0 : Int32)))).1) ?_
    refine XS.floadN X0.here hx rfl (hb hby d11_6) rfl ?_
    refine XS.floadN X0.here hx rfl (hb hby d11_7) rfl ?_
    refine XS.fcmpS X0.here hx rfl (hb hby d11_8) rfl rfl ?_
    refine XS.ifYes X0.here hx rfl (pc0 := 9) (pc' := 21) rfl (hb hby d11_9) rfl ((if0 _ _).trans (feq (cc2 : ¬ ((cmpValue (FP.fcmp f1 f3) .l) = (0 : Int32)))).2) (by decide) (by decide) ?_
    refine XS.iconst X0.here hx rfl (hb hby d11_21) ?_
    exact retN X0 hx (t := .boolean) hret (by simp) (hb hby d11_22) hr
theorem rm11 (l : Launch) (Z : State) (a0 : Array Value) (hw : HW a0 Z) (ws : List Jvm.Cond) (f1 : UInt32) (p2 : Int32) (f3 : UInt32) (p4 : Int32) (h0 : Heap) (n0 : Nat) (Z0 : n0 ≤ h0.size) :
    OwnMet l Z y_9 prog_25_method_6_code 4 (some .boolean) ws Rm11 #[(.float f1), (.int p2), (.float f3), (.int p4)] h0 (Q11 Z f1 p2 f3 p4 h0 n0) := by
  by_cases cc1 : (cmpValue (FP.fcmp f1 f3) .g) < (0 : Int32)
  · exact rm11_0 l Z a0 hw ws f1 p2 f3 p4 h0 n0 Z0 cc1
  · by_cases cc2 : (cmpValue (FP.fcmp f1 f3) .l) = (0 : Int32)
    · by_cases cc3 : p2 < p4
      · exact rm11_1 l Z a0 hw ws f1 p2 f3 p4 h0 n0 Z0 cc1 cc2 cc3
      · exact rm11_2 l Z a0 hw ws f1 p2 f3 p4 h0 n0 Z0 cc1 cc2 cc3
    · exact rm11_3 l Z a0 hw ws f1 p2 f3 p4 h0 n0 Z0 cc1 cc2
theorem pd_8 : parseMethodDescriptor "(FIFI)Z" = some ⟨[.float, .int, .float, .int], some .boolean⟩ := by decide +kernel
theorem w_62 {a0 : Array Value} {Z : State} (hw : HW a0 Z) : Jvm.Cond.before (Jvm.Cond.code ({ cls := "com/example/senret/senret/TopSentences", name := "isWorse", desc := "(FIFI)Z" } : Jvm.MethodName) prog_25_method_6_code (4 : Nat) (Option.some Jvm.ClassFile.FieldType.boolean)) a0 Z = true := hw _ (List.mem_of_getElem? (i := 62) rfl)
theorem w_60 {a0 : Array Value} {Z : State} (hw : HW a0 Z) : Jvm.Cond.before (Jvm.Cond.methodLink "com/example/senret/senret/TopSentences" (54 : Nat) ({ cls := "com/example/senret/senret/TopSentences", name := "isWorse", desc := "(FIFI)Z" } : Jvm.MethodName)) a0 Z = true := hw _ (List.mem_of_getElem? (i := 60) rfl)
theorem w_61 {a0 : Array Value} {Z : State} (hw : HW a0 Z) : Jvm.Cond.before (Jvm.Cond.static ({ cls := "com/example/senret/senret/TopSentences", name := "isWorse", desc := "(FIFI)Z" } : Jvm.MethodName)) a0 Z = true := hw _ (List.mem_of_getElem? (i := 61) rfl)
theorem d6_66 : decode prog_25_method_4_code 66 = .ok (.ifCond .eq 11, 3) := by decide +kernel
theorem d6_69 : decode prog_25_method_4_code 69 = .ok (.aload_n 0, 1) := by decide +kernel
theorem d6_70 : decode prog_25_method_4_code 70 = .ok (.fload 4, 2) := by decide +kernel
theorem d6_72 : decode prog_25_method_4_code 72 = .ok (.lload_n 1, 1) := by decide +kernel
theorem d6_73 : decode prog_25_method_4_code 73 = .ok (.iload_n 3, 1) := by decide +kernel
theorem d6_74 : decode prog_25_method_4_code 74 = .ok (.invokevirtual 58, 3) := by decide +kernel
theorem d15_0 : decode prog_25_method_9_code 0 = .ok (.iconst 0, 1) := by decide +kernel
theorem d15_1 : decode prog_25_method_9_code 1 = .ok (.istore 5, 2) := by decide +kernel
theorem d15_3 : decode prog_25_method_9_code 3 = .ok (.iconst 2, 1) := by decide +kernel
theorem d15_4 : decode prog_25_method_9_code 4 = .ok (.iload 5, 2) := by decide +kernel
theorem d15_6 : decode prog_25_method_9_code 6 = .ok (.imul, 1) := by decide +kernel
theorem d15_7 : decode prog_25_method_9_code 7 = .ok (.iconst 1, 1) := by decide +kernel
theorem d15_8 : decode prog_25_method_9_code 8 = .ok (.iadd, 1) := by decide +kernel
theorem d15_9 : decode prog_25_method_9_code 9 = .ok (.aload_n 0, 1) := by decide +kernel
theorem d15_10 : decode prog_25_method_9_code 10 = .ok (.getfield 41, 3) := by decide +kernel
theorem d15_13 : decode prog_25_method_9_code 13 = .ok (.if_icmp .ge 104, 3) := by decide +kernel
theorem d15_117 : decode prog_25_method_9_code 117 = .ok (.aload_n 0, 1) := by decide +kernel
theorem d15_118 : decode prog_25_method_9_code 118 = .ok (.iload 5, 2) := by decide +kernel
theorem d15_120 : decode prog_25_method_9_code 120 = .ok (.fload_n 1, 1) := by decide +kernel
theorem d15_121 : decode prog_25_method_9_code 121 = .ok (.lload_n 2, 1) := by decide +kernel
theorem d15_122 : decode prog_25_method_9_code 122 = .ok (.iload 4, 2) := by decide +kernel
theorem d15_124 : decode prog_25_method_9_code 124 = .ok (.invokevirtual 99, 3) := by decide +kernel
-- com/example/senret/senret/TopSentences.put(IFJI)V
abbrev Rm12 : Room := { frames := 0, cells := 0, slots := 0, locals := 0 }
def Q12 (Z : State) (a1 : Addr) (f2 : UInt32) (q3 : Int64) (p4 : Int32) (a5 : Addr) (f7 : UInt32) (k8 : ClassId) (a12 : Addr) (q15 : Int64) (k16 : ClassId) (a21 : Addr) (p24 : Int32) (k25 : ClassId) (h0 : Heap) (n0 : Nat) (v : Option Value) (h : Heap) (L : List Loc) : Prop := v = none ∧ Fr n0 L ∧ Keep h0 h [a5, a12, a21] ∧ Exa Z h a5 "[F" ∧ Arv Z h a5 k8 .float (1 : Int32) [(.float f2)] (.float 0) ∧ Exa Z h a12 "[J" ∧ Arv Z h a12 k16 .long (1 : Int32) [(.long q3)] (.long 0) ∧ Exa Z h a21 "[I" ∧ Arv Z h a21 k25 .int (1 : Int32) [(.int p4)] (.int 0)
-- ef_bf04c5
theorem rm12 (l : Launch) (Z : State) (a0 : Array Value) (hw : HW a0 Z) (ws : List Jvm.Cond) (a1 : Addr) (f2 : UInt32) (q3 : Int64) (p4 : Int32) (a5 : Addr) (f7 : UInt32) (k8 : ClassId) (a12 : Addr) (q15 : Int64) (k16 : ClassId) (a21 : Addr) (p24 : Int32) (k25 : ClassId) (h0 : Heap) (n0 : Nat) (Z0 : n0 ≤ h0.size) (F_scoresAsRead_a1 : Fld Z h0 a1 kT "scoresAsRead" "[F" (.ref a5)) (V_a5 : Arv Z h0 a5 k8 .float (1 : Int32) [(.float f7)] (.float 0)) (g_a5 : n0 ≤ a5) (F_scores_a1 : Fld Z h0 a1 kT "scores" "[J" (.ref a12)) (ne_a1_a5 : a1 ≠ a5) (V_a12 : Arv Z h0 a12 k16 .long (1 : Int32) [(.long q15)] (.long 0)) (ne_a12_a5 : a12 ≠ a5) (g_a12 : n0 ≤ a12) (F_ordinals_a1 : Fld Z h0 a1 kT "ordinals" "[I" (.ref a21)) (ne_a1_a12 : a1 ≠ a12) (V_a21 : Arv Z h0 a21 k25 .int (1 : Int32) [(.int p24)] (.int 0)) (ne_a21_a5 : a21 ≠ a5) (ne_a21_a12 : a21 ≠ a12) (g_a21 : n0 ≤ a21) (E_a5 : Exa Z h0 a5 "[F") (E_a12 : Exa Z h0 a12 "[J") (E_a21 : Exa Z h0 a21 "[I") :
    OwnMet l Z y_5 prog_25_method_11_code 6 none ws Rm12 #[(.ref a1), (.int 0), (.float f2), (.long q3), (.int p4)] h0 (Q12 Z a1 f2 q3 p4 a5 f7 k8 a12 q15 k16 a21 p24 k25 h0 n0) := by
  refine own_body (plainFor_of_name pn_1) (ef_bf04c5 a1 f2 q3 p4) ?_
  intro p e s m below meth c s₁ hx hby hml hown hnm hret hZ X0 e0
  have N0 := Fr.nil n0
  obtain ⟨T6, X6, e6, st6⟩ := getF X0 hx hZ hown (host := "") (Or.inl (w_21 hw)) Via.refl e0 F_scoresAsRead_a1 (g := (mkF m 1 #[.val (.ref a1), .val (.int 0), .val (.float f2), .val (.long q3), .second, .val (.int p4)] [(.ref a1)])) rfl rfl (hb hby d9_1)
  obtain ⟨cl9, Ar9, q9, S9, M9, Hs9, G9⟩ := id V_a5
  have hin10 : ¬ ((0 : Int32) < 0 ∨ cl9.slots.size ≤ ((0 : Int32)).toNatClampNeg) := inb_of S9 ⟨(by decide : ¬ ((0 : Int32) < (0 : Int32))), (by decide : (0 : Int32) < (1 : Int32))⟩
  obtain ⟨T11, h11, X11, e11, W11, st11⟩ := stF X6 hx hZ e6 Ar9 (j := (0 : Int32)) hin10 (g := (mkF m 6 #[.val (.ref a1), .val (.int 0), .val (.float f2), .val (.long q3), .second, .val (.int p4)] [(.float f2), (.int 0), (.ref a5)])) rfl rfl (hb hby d9_6)
  have s0 := (Keep.of_wr W11).1
  have N11 := Fr.snoc X11 N0 g_a5
  have Vs11 : Arv Z h11 a5 k8 .float (1 : Int32) [(.float f2)] (.float 0) := Arv.set Ar9 q9 S9 M9 Hs9 G9 rfl W11 0 rfl (Nat.le_of_ble_eq_true rfl)
  have Fl13 := (F_scores_a1.other W11 (Or.inl ne_a1_a5))
  obtain ⟨T14, X14, e14, st14⟩ := getF X11 hx hZ hown (host := "") (Or.inl (w_24 hw)) Via.refl e11 Fl13 (g := (mkF m 8 #[.val (.ref a1), .val (.int 0), .val (.float f2), .val (.long q3), .second, .val (.int p4)] [(.ref a1)])) rfl rfl (hb hby d9_8)
  have Va17 := (V_a12.other W11 ne_a12_a5)
  obtain ⟨cl18, Ar18, q18, S18, M18, Hs18, G18⟩ := id Va17
  have hin19 : ¬ ((0 : Int32) < 0 ∨ cl18.slots.size ≤ ((0 : Int32)).toNatClampNeg) := inb_of S18 ⟨(by decide : ¬ ((0 : Int32) < (0 : Int32))), (by decide : (0 : Int32) < (1 : Int32))⟩
  obtain ⟨T20, h20, X20, e20, W20, st20⟩ := stJ X14 hx hZ e14 Ar18 (j := (0 : Int32)) hin19 (g := (mkF m 13 #[.val (.ref a1), .val (.int 0), .val (.float f2), .val (.long q3), .second, .val (.int p4)] [(.long q3), (.int 0), (.ref a12)])) rfl rfl (hb hby d9_13)
  have s1 := (Keep.of_wr W20).1
  have N20 := Fr.snoc X20 N11 g_a12
  have Vs20 : Arv Z h20 a12 k16 .long (1 : Int32) [(.long q3)] (.long 0) := Arv.set Ar18 q18 S18 M18 Hs18 G18 rfl W20 0 rfl (Nat.le_of_ble_eq_true rfl)
  have Fl22 := ((F_ordinals_a1.other W11 (Or.inl ne_a1_a5)).other W20 (Or.inl ne_a1_a12))
  obtain ⟨T23, X23, e23, st23⟩ := getF X20 hx hZ hown (host := "") (Or.inl (w_27 hw)) Via.refl e20 Fl22 (g := (mkF m 15 #[.val (.ref a1), .val (.int 0), .val (.float f2), .val (.long q3), .second, .val (.int p4)] [(.ref a1)])) rfl rfl (hb hby d9_15)
  have Va26 := ((V_a21.other W11 ne_a21_a5).other W20 ne_a21_a12)
  obtain ⟨cl27, Ar27, q27, S27, M27, Hs27, G27⟩ := id Va26
  have hin28 : ¬ ((0 : Int32) < 0 ∨ cl27.slots.size ≤ ((0 : Int32)).toNatClampNeg) := inb_of S27 ⟨(by decide : ¬ ((0 : Int32) < (0 : Int32))), (by decide : (0 : Int32) < (1 : Int32))⟩
  obtain ⟨T29, h29, X29, e29, W29, st29⟩ := stI X23 hx hZ e23 Ar27 (j := (0 : Int32)) hin28 (g := (mkF m 21 #[.val (.ref a1), .val (.int 0), .val (.float f2), .val (.long q3), .second, .val (.int p4)] [(.int p4), (.int 0), (.ref a21)])) rfl rfl (hb hby d9_21)
  have s2 := (Keep.of_wr W29).1
  have N29 := Fr.snoc X29 N20 g_a21
  have Vs29 : Arv Z h29 a21 k25 .int (1 : Int32) [(.int p4)] (.int 0) := Arv.set Ar27 q27 S27 M27 Hs27 G27 rfl W29 0 rfl (Nat.le_of_ble_eq_true rfl)
  have Ex30 := (((E_a5.wr W11).wr W20).wr W29)
  have Va31 := ((Vs11.other W20 (Ne.symm ne_a12_a5)).other W29 (Ne.symm ne_a21_a5))
  have Ex32 := (((E_a12.wr W11).wr W20).wr W29)
  have Va33 := (Vs20.other W29 (Ne.symm ne_a21_a12))
  have Ex34 := (((E_a21.wr W11).wr W20).wr W29)
  have Kp0 : Keep h0 h11 [a5, a12, a21] := (Keep.refl h0 [a5, a12, a21]).wr W11 (Or.inl (List.mem_of_getElem? (i := 0) rfl))
  have Kp1 : Keep h0 h20 [a5, a12, a21] := Kp0.wr W20 (Or.inl (List.mem_of_getElem? (i := 1) rfl))
  have Kp2 : Keep h0 h29 [a5, a12, a21] := Kp1.wr W29 (Or.inl (List.mem_of_getElem? (i := 2) rfl))
  refine ⟨T29, _, _, _, none, X29, (fun _ => rfl), by decide, by decide, ?_, fun fs hr => ?_⟩
  · rw [e29]
    exact ⟨rfl, N29, Kp2, Ex30, Va31, Ex32, Va33, Ex34, Vs29⟩
  · refine XS.aloadN X0.here hx rfl (hb hby d9_0) rfl rfl ?_
    refine st6 _ ?_
    refine XS.iloadN X6.here hx rfl (hb hby d9_4) rfl ?_
    refine XS.floadN X6.here hx rfl (hb hby d9_5) rfl ?_
    refine st11 _ ?_
    refine XS.aloadN X11.here hx rfl (hb hby d9_7) rfl rfl ?_
    refine st14 _ ?_
    refine XS.iloadN X14.here hx rfl (hb hby d9_11) rfl ?_
    refine XS.lloadN X14.here hx rfl (hb hby d9_12) rfl ?_
    refine st20 _ ?_
    refine XS.aloadN X20.here hx rfl (hb hby d9_14) rfl rfl ?_
    refine st23 _ ?_
    refine XS.iloadN X23.here hx rfl (hb hby d9_18) rfl ?_
    refine XS.iload X23.here hx rfl (hb hby d9_19) rfl ?_
    refine st29 _ ?_
    exact X29.returnOut hx hret (hb hby d9_22) hr
theorem d15_127 : decode prog_25_method_9_code 127 = .ok (.return_, 1) := by decide +kernel
theorem ef_a0588b (a1 : Addr) (f2 : UInt32) (q3 : Int64) (p4 : Int32) (m : MethodId) : entryFrame m #[(.ref a1), (.float f2), (.long q3), (.int p4)] 7 = mkF m 0 #[.val (.ref a1), .val (.float f2), .val (.long q3), .second, .val (.int p4), .unset, .unset] [] := by first | (simp [entryFrame, mkF, argsToLocals, Value.category]; done) | rfl
abbrev y_10 : MethodName := ⟨"com/example/senret/senret/TopSentences", "siftDown", "(FJI)V"⟩
-- com/example/senret/senret/TopSentences.siftDown(FJI)V
abbrev Rm13 : Room := { frames := 1, cells := 0, slots := 0, locals := 17 }
def Q13 (Z : State) (a1 : Addr) (f2 : UInt32) (q3 : Int64) (p4 : Int32) (a6 : Addr) (f7 : UInt32) (k8 : ClassId) (a9 : Addr) (q10 : Int64) (k11 : ClassId) (a12 : Addr) (p13 : Int32) (k14 : ClassId) (h0 : Heap) (n0 : Nat) (v : Option Value) (h : Heap) (L : List Loc) : Prop := v = none ∧ Fr n0 L ∧ Keep h0 h [a6, a9, a12] ∧ Exa Z h a6 "[F" ∧ Arv Z h a6 k8 .float (1 : Int32) [(.float f2)] (.float 0) ∧ Exa Z h a9 "[J" ∧ Arv Z h a9 k11 .long (1 : Int32) [(.long q3)] (.long 0) ∧ Exa Z h a12 "[I" ∧ Arv Z h a12 k14 .int (1 : Int32) [(.int p4)] (.int 0)
-- ef_a0588b
theorem rm13 (l : Launch) (Z : State) (a0 : Array Value) (hw : HW a0 Z) (ws : List Jvm.Cond) (a1 : Addr) (f2 : UInt32) (q3 : Int64) (p4 : Int32) (a6 : Addr) (f7 : UInt32) (k8 : ClassId) (a9 : Addr) (q10 : Int64) (k11 : ClassId) (a12 : Addr) (p13 : Int32) (k14 : ClassId) (h0 : Heap) (n0 : Nat) (Z0 : n0 ≤ h0.size) (F_size_a1 : Fld Z h0 a1 kT "size" "I" (.int 1)) (F_scoresAsRead_a1 : Fld Z h0 a1 kT "scoresAsRead" "[F" (.ref a6)) (V_a6 : Arv Z h0 a6 k8 .float (1 : Int32) [(.float f7)] (.float 0)) (g_a6 : n0 ≤ a6) (F_scores_a1 : Fld Z h0 a1 kT "scores" "[J" (.ref a9)) (ne_a1_a6 : a1 ≠ a6) (V_a9 : Arv Z h0 a9 k11 .long (1 : Int32) [(.long q10)] (.long 0)) (ne_a9_a6 : a9 ≠ a6) (g_a9 : n0 ≤ a9) (F_ordinals_a1 : Fld Z h0 a1 kT "ordinals" "[I" (.ref a12)) (ne_a1_a9 : a1 ≠ a9) (V_a12 : Arv Z h0 a12 k14 .int (1 : Int32) [(.int p13)] (.int 0)) (ne_a12_a6 : a12 ≠ a6) (ne_a12_a9 : a12 ≠ a9) (g_a12 : n0 ≤ a12) (E_a6 : Exa Z h0 a6 "[F") (E_a9 : Exa Z h0 a9 "[J") (E_a12 : Exa Z h0 a12 "[I") (E_a1 : Exa Z h0 a1 kT) :
    OwnMet l Z y_10 prog_25_method_9_code 7 none ws Rm13 #[(.ref a1), (.float f2), (.long q3), (.int p4)] h0 (Q13 Z a1 f2 q3 p4 a6 f7 k8 a9 q10 k11 a12 p13 k14 h0 n0) := by
  refine own_body (plainFor_of_name pn_1) (ef_a0588b a1 f2 q3 p4) ?_
  intro p e s m below meth c s₁ hx hby hml hown hnm hret hZ X0 e0
  have N0 := Fr.nil n0
  obtain ⟨T5, X5, e5, st5⟩ := getF X0 hx hZ hown (host := "") (Or.inl (w_34 hw)) Via.refl e0 F_size_a1 (g := (mkF m 10 #[.val (.ref a1), .val (.float f2), .val (.long q3), .second, .val (.int p4), .val (.int 0), .unset] [(.ref a1), (.int 1)])) rfl rfl (hb hby d15_10)
  obtain ⟨_, T15, L15, X15, hQ15, st15⟩ := own_private X5 hx hZ hown (y := y_5) E_a1 (w_52 hw) (w_53 hw) (Jvm.Kit.selects_private (by decide) (mvT hZ (w_6 hw)) (mvP hZ (w_54 hw)) (mvT hZ (w_53 hw))) (w_54 hw) (w_7 hw) (w_55 hw) (rm12 l Z a0 hw [] a1 f2 q3 p4 a6 f7 k8 a9 q10 k11 a12 p13 k14 h0 n0 Z0 F_scoresAsRead_a1 V_a6 g_a6 F_scores_a1 ne_a1_a6 V_a9 ne_a9_a6 g_a9 F_ordinals_a1 ne_a1_a9 V_a12 ne_a12_a6 ne_a12_a9 g_a12 E_a6 E_a9 E_a12) e5 (Ls := #[.val (.ref a1), .val (.float f2), .val (.long q3), .second, .val (.int p4), .val (.int 0), .unset]) (by rw [hml]; rfl) (argsL := [(.int 0), (.float f2), (.long q3), (.int p4)]) (rest := []) (lenOf pd_5 rfl) (hb hby d15_124) (W := 0)
  obtain ⟨rfl, Nq15, K15, o15_0, o15_1, o15_2, o15_3, o15_4, o15_5⟩ := hQ15
  have N15 := Fr.app N0 Nq15
  have s0 := K15.1
  have Kp0 : Keep h0 T15.heap [a6, a9, a12] := (Keep.refl h0 [a6, a9, a12]).trans K15 (allS (Or.inl (List.mem_of_getElem? (i := 0) rfl)) (allS (Or.inl (List.mem_of_getElem? (i := 1) rfl)) (allS (Or.inl (List.mem_of_getElem? (i := 2) rfl)) all0)))
  refine ⟨T15, _, _, _, none, X15, (fun _ => rfl), by decide, by decide, ?_, fun fs hr => ?_⟩
  · exact ⟨rfl, N15, Kp0, o15_0, o15_1, o15_2, o15_3, o15_4, o15_5⟩
  · refine XS.iconst X0.here hx rfl (hb hby d15_0) ?_
    refine XS.istore X0.here hx rfl (hb hby d15_1) rfl (l' := #[.val (.ref a1), .val (.float f2), .val (.long q3), .second, .val (.int p4), .val (.int 0), .unset]) rfl ?_
    refine XS.iconst X0.here hx rfl (hb hby d15_3) ?_
    refine XS.iload X0.here hx rfl (hb hby d15_4) rfl ?_
    refine XS.imul X0.here hx rfl (hb hby d15_6) rfl ?_
    refine XS.iconst X0.here hx rfl (hb hby d15_7) ?_
    refine XS.iadd X0.here hx rfl (hb hby d15_8) rfl ?_
    refine XS.aloadN X0.here hx rfl (hb hby d15_9) rfl rfl ?_
    refine st5 _ ?_
    refine XS.icmpYes X5.here hx rfl (pc0 := 13) (pc' := 117) rfl (hb hby d15_13) rfl (flt ((by decide : ¬ ((1 : Int32) < (1 : Int32))) : ¬ ((1 : Int32) < (1 : Int32)))).2.1 (by decide) (by decide) ?_
    refine XS.aloadN X5.here hx rfl (hb hby d15_117) rfl rfl ?_
    refine XS.iload X5.here hx rfl (hb hby d15_118) rfl ?_
    refine XS.floadN X5.here hx rfl (hb hby d15_120) rfl ?_
    refine XS.lloadN X5.here hx rfl (hb hby d15_121) rfl ?_
    refine XS.iload X5.here hx rfl (hb hby d15_122) rfl ?_
    refine st15 _ ?_
    exact X15.returnOut hx hret (hb hby d15_127) hr
theorem pd_9 : parseMethodDescriptor "(FJI)V" = some ⟨[.float, .long, .int], none⟩ := by decide +kernel
theorem w_76 {a0 : Array Value} {Z : State} (hw : HW a0 Z) : Jvm.Cond.before (Jvm.Cond.code ({ cls := "com/example/senret/senret/TopSentences", name := "siftDown", desc := "(FJI)V" } : Jvm.MethodName) prog_25_method_9_code (7 : Nat) (Option.none : Option Jvm.ClassFile.FieldType)) a0 Z = true := hw _ (List.mem_of_getElem? (i := 76) rfl)
theorem w_73 {a0 : Array Value} {Z : State} (hw : HW a0 Z) : Jvm.Cond.before (Jvm.Cond.methodLink "com/example/senret/senret/TopSentences" (58 : Nat) ({ cls := "com/example/senret/senret/TopSentences", name := "siftDown", desc := "(FJI)V" } : Jvm.MethodName)) a0 Z = true := hw _ (List.mem_of_getElem? (i := 73) rfl)
theorem w_74 {a0 : Array Value} {Z : State} (hw : HW a0 Z) : Jvm.Cond.before (Jvm.Cond.instanceMethod ({ cls := "com/example/senret/senret/TopSentences", name := "siftDown", desc := "(FJI)V" } : Jvm.MethodName)) a0 Z = true := hw _ (List.mem_of_getElem? (i := 74) rfl)
theorem w_75 {a0 : Array Value} {Z : State} (hw : HW a0 Z) : Jvm.Cond.before (Jvm.Cond.privateMethod ({ cls := "com/example/senret/senret/TopSentences", name := "siftDown", desc := "(FJI)V" } : Jvm.MethodName)) a0 Z = true := hw _ (List.mem_of_getElem? (i := 75) rfl)
-- com/example/senret/senret/TopSentences.offer(JI)V
abbrev Rm14 : Room := { frames := 2, cells := 0, slots := 0, locals := 35 }
def Q14 (Z : State) (a1 : Addr) (q2 : Int64) (p3 : Int32) (a7 : Addr) (f9 : UInt32) (k10 : ClassId) (a13 : Addr) (p15 : Int32) (k16 : ClassId) (a43 : Addr) (q44 : Int64) (k45 : ClassId) (h0 : Heap) (n0 : Nat) (v : Option Value) (h : Heap) (L : List Loc) : Prop := v = none ∧ Fr n0 L ∧ Keep h0 h [a7, a43, a13] ∧ Exa Z h a7 "[F" ∧ Arv Z h a7 k10 .float (1 : Int32) [(.float (if (if (cmpValue (FP.fcmp f9 (sC q2)) .g) < (0 : Int32) then (1 : Int32) else (if (cmpValue (FP.fcmp f9 (sC q2)) .l) = (0 : Int32) then (if p15 < p3 then (1 : Int32) else (0 : Int32)) else (0 : Int32))) = (0 : Int32) then f9 else (sC q2)))] (.float 0) ∧ Exa Z h a43 "[J" ∧ Arv Z h a43 k45 .long (1 : Int32) [(.long (if (if (cmpValue (FP.fcmp f9 (sC q2)) .g) < (0 : Int32) then (1 : Int32) else (if (cmpValue (FP.fcmp f9 (sC q2)) .l) = (0 : Int32) then (if p15 < p3 then (1 : Int32) else (0 : Int32)) else (0 : Int32))) = (0 : Int32) then q44 else q2))] (.long 0) ∧ Exa Z h a13 "[I" ∧ Arv Z h a13 k16 .int (1 : Int32) [(.int (if (if (cmpValue (FP.fcmp f9 (sC q2)) .g) < (0 : Int32) then (1 : Int32) else (if (cmpValue (FP.fcmp f9 (sC q2)) .l) = (0 : Int32) then (if p15 < p3 then (1 : Int32) else (0 : Int32)) else (0 : Int32))) = (0 : Int32) then p15 else p3))] (.int 0)
-- ef_8cdad2
theorem rm14_0 (l : Launch) (Z : State) (a0 : Array Value) (hw : HW a0 Z) (ws : List Jvm.Cond) (a1 : Addr) (q2 : Int64) (p3 : Int32) (a7 : Addr) (f9 : UInt32) (k10 : ClassId) (a13 : Addr) (p15 : Int32) (k16 : ClassId) (a43 : Addr) (q44 : Int64) (k45 : ClassId) (h0 : Heap) (n0 : Nat) (Z0 : n0 ≤ h0.size) (F_size_a1 : Fld Z h0 a1 kT "size" "I" (.int 1)) (F_depth_a1 : Fld Z h0 a1 kT "depth" "I" (.int 1)) (F_scoresAsRead_a1 : Fld Z h0 a1 kT "scoresAsRead" "[F" (.ref a7)) (V_a7 : Arv Z h0 a7 k10 .float (1 : Int32) [(.float f9)] (.float 0)) (F_ordinals_a1 : Fld Z h0 a1 kT "ordinals" "[I" (.ref a13)) (V_a13 : Arv Z h0 a13 k16 .int (1 : Int32) [(.int p15)] (.int 0)) (g_a7 : n0 ≤ a7) (F_scores_a1 : Fld Z h0 a1 kT "scores" "[J" (.ref a43)) (ne_a1_a7 : a1 ≠ a7) (V_a43 : Arv Z h0 a43 k45 .long (1 : Int32) [(.long q44)] (.long 0)) (ne_a43_a7 : a43 ≠ a7) (g_a43 : n0 ≤ a43) (ne_a1_a43 : a1 ≠ a43) (ne_a13_a7 : a13 ≠ a7) (ne_a13_a43 : a13 ≠ a43) (g_a13 : n0 ≤ a13) (E_a7 : Exa Z h0 a7 "[F") (E_a43 : Exa Z h0 a43 "[J") (E_a13 : Exa Z h0 a13 "[I") (E_a1 : Exa Z h0 a1 kT) (E_a7 : Exa Z h0 a7 "[F") (E_a43 : Exa Z h0 a43 "[J") (V_a43 : Arv Z h0 a43 k45 .long (1 : Int32) [(.long q44)] (.long 0)) (E_a13 : Exa Z h0 a13 "[I") (cc1 : (if (cmpValue (FP.fcmp f9 (sC q2)) .g) < (0 : Int32) then (1 : Int32) else (if (cmpValue (FP.fcmp f9 (sC q2)) .l) = (0 : Int32) then (if p15 < p3 then (1 : Int32) else (0 : Int32)) else (0 : Int32))) = (0 : Int32)) :
    OwnMet l Z y_7 prog_25_method_4_code 5 none ws Rm14 #[(.ref a1), (.long q2), (.int p3)] h0 (Q14 Z a1 q2 p3 a7 f9 k10 a13 p15 k16 a43 q44 k45 h0 n0) := by
  refine own_body (plainFor_of_name pn_1) (ef_8cdad2 a1 q2 p3) ?_
  intro p e s m below meth c s₁ hx hby hml hown hnm hret hZ X0 e0
  have N0 := Fr.nil n0
  obtain ⟨_, T21, L21, X21, hQ21, st21⟩ := own_callS X0 hx hZ hown (y := y_0) (w_43 hw) (w_1 hw) (w_2 hw) (w_3 hw) (rm1 l Z a0 hw [] q2 h0 n0 Z0) e0 (Ls := #[.val (.ref a1), .val (.long q2), .second, .val (.int p3), .unset]) (by rw [hml]; rfl) (argsL := [(.long q2)]) (rest := []) (lenOf pd_0 rfl) (hb hby d6_1) (W := 0)
  obtain ⟨rfl, Nq21, e21⟩ := hQ21
  have N21 := Fr.app N0 Nq21
  obtain ⟨T22, X22, e22, st22⟩ := getF X21 hx hZ hown (host := "") (Or.inl (w_34 hw)) Via.refl e21 F_size_a1 (g := (mkF m 7 #[.val (.ref a1), .val (.long q2), .second, .val (.int p3), .val (.float (sC q2))] [(.ref a1)])) rfl rfl (hb hby d6_7)
  obtain ⟨T23, X23, e23, st23⟩ := getF X22 hx hZ hown (host := "") (Or.inl (w_14 hw)) Via.refl e22 F_depth_a1 (g := (mkF m 11 #[.val (.ref a1), .val (.long q2), .second, .val (.int p3), .val (.float (sC q2))] [(.ref a1), (.int 1)])) rfl rfl (hb hby d6_11)
  obtain ⟨T24, X24, e24, st24⟩ := getF X23 hx hZ hown (host := "") (Or.inl (w_21 hw)) Via.refl e23 F_scoresAsRead_a1 (g := (mkF m 49 #[.val (.ref a1), .val (.long q2), .second, .val (.int p3), .val (.float (sC q2))] [(.ref a1)])) rfl rfl (hb hby d6_49)
  obtain ⟨cl25, Ar25, q25, S25, M25, Hs25, G25⟩ := id V_a7
  have hin26 : ¬ ((0 : Int32) < 0 ∨ cl25.slots.size ≤ ((0 : Int32)).toNatClampNeg) := inb_of S25 ⟨(by decide : ¬ ((0 : Int32) < (0 : Int32))), (by decide : (0 : Int32) < (1 : Int32))⟩
  obtain ⟨T27, X27, e27, st27⟩ := getF X24 hx hZ hown (host := "") (Or.inl (w_27 hw)) Via.refl e24 F_ordinals_a1 (g := (mkF m 55 #[.val (.ref a1), .val (.long q2), .second, .val (.int p3), .val (.float (sC q2))] [(.ref a1), (.float f9)])) rfl rfl (hb hby d6_55)
  obtain ⟨cl28, Ar28, q28, S28, M28, Hs28, G28⟩ := id V_a13
  have hin29 : ¬ ((0 : Int32) < 0 ∨ cl28.slots.size ≤ ((0 : Int32)).toNatClampNeg) := inb_of S28 ⟨(by decide : ¬ ((0 : Int32) < (0 : Int32))), (by decide : (0 : Int32) < (1 : Int32))⟩
  obtain ⟨_, T30, L30, X30, hQ30, st30⟩ := own_callS X27 hx hZ hown (y := y_9) (w_60 hw) (w_61 hw) (w_7 hw) (w_62 hw) (rm11 l Z a0 hw [] f9 p15 (sC q2) p3 h0 n0 Z0) e27 (Ls := #[.val (.ref a1), .val (.long q2), .second, .val (.int p3), .val (.float (sC q2))]) (by rw [hml]; rfl) (argsL := [(.float f9), (.int p15), (.float (sC q2)), (.int p3)]) (rest := []) (lenOf pd_8 rfl) (hb hby d6_63) (W := 0)
  obtain ⟨rfl, Nq30, e30⟩ := hQ30
  have N30 := Fr.app N21 Nq30
  obtain ⟨x31, ex31⟩ : ∃ z, z = (if (cmpValue (FP.fcmp f9 (sC q2)) .g) < (0 : Int32) then (1 : Int32) else (if (cmpValue (FP.fcmp f9 (sC q2)) .l) = (0 : Int32) then (if p15 < p3 then (1 : Int32) else (0 : Int32)) else (0 : Int32))) := ⟨_, rfl⟩
  refine ⟨T30, _, _, _, none, X30, (fun _ => rfl), by decide, by decide, ?_, fun fs hr => ?_⟩
  · rw [e30]
    subst ex31
    unfold Q14
    rw [show (if (if (cmpValue (FP.fcmp f9 (sC q2)) .g) < (0 : Int32) then (1 : Int32) else (if (cmpValue (FP.fcmp f9 (sC q2)) .l) = (0 : Int32) then (if p15 < p3 then (1 : Int32) else (0 : Int32)) else (0 : Int32))) = (0 : Int32) then f9 else (sC q2)) = f9 from by rw [if_pos cc1]]
    rw [show (if (if (cmpValue (FP.fcmp f9 (sC q2)) .g) < (0 : Int32) then (1 : Int32) else (if (cmpValue (FP.fcmp f9 (sC q2)) .l) = (0 : Int32) then (if p15 < p3 then (1 : Int32) else (0 : Int32)) else (0 : Int32))) = (0 : Int32) then q44 else q2) = q44 from by rw [if_pos cc1]]
    rw [show (if (if (cmpValue (FP.fcmp f9 (sC q2)) .g) < (0 : Int32) then (1 : Int32) else (if (cmpValue (FP.fcmp f9 (sC q2)) .l) = (0 : Int32) then (if p15 < p3 then (1 : Int32) else (0 : Int32)) else (0 : Int32))) = (0 : Int32) then p15 else p3) = p15 from by rw [if_pos cc1]]
    exact ⟨rfl, N30, (Keep.refl h0 [a7, a43, a13]), E_a7, V_a7, E_a43, V_a43, E_a13, V_a13⟩
  · refine XS.lloadN X0.here hx rfl (hb hby d6_0) rfl ?_
    refine st21 _ ?_
    refine XS.fstore X21.here hx rfl (hb hby d6_4) rfl (l' := #[.val (.ref a1), .val (.long q2), .second, .val (.int p3), .val (.float (sC q2))]) rfl ?_
    refine XS.aloadN X21.here hx rfl (hb hby d6_6) rfl rfl ?_
    refine st22 _ ?_
    refine XS.aloadN X22.here hx rfl (hb hby d6_10) rfl rfl ?_
    refine st23 _ ?_
    refine XS.icmpYes X23.here hx rfl (pc0 := 14) (pc' := 48) rfl (hb hby d6_14) rfl (flt ((by decide : ¬ ((1 : Int32) < (1 : Int32))) : ¬ ((1 : Int32) < (1 : Int32)))).2.1 (by decide) (by decide) ?_
    refine XS.aloadN X23.here hx rfl (hb hby d6_48) rfl rfl ?_
    refine st24 _ ?_
    refine XS.iconst X24.here hx rfl (hb hby d6_52) ?_
    refine X24.faload hx (j := (0 : Int32)) (v := (.float f9)) (by rw [e24]; exact Ar25.1) (State.isArrayOf_alike hZ.alike Ar25.2.1) Ar25.2.2 hin26 (Has.at Hs25 hin26 rfl) (g := (mkF m 53 #[.val (.ref a1), .val (.long q2), .second, .val (.int p3), .val (.float (sC q2))] [(.int 0), (.ref a7)])) rfl rfl (hb hby d6_53) _ ?_
    refine XS.aloadN X24.here hx rfl (hb hby d6_54) rfl rfl ?_
    refine st27 _ ?_
    refine XS.iconst X27.here hx rfl (hb hby d6_58) ?_
    refine X27.iaload hx (j := (0 : Int32)) (v := (.int p15)) (by rw [e27]; exact Ar28.1) (State.isArrayOf_alike hZ.alike Ar28.2.1) Ar28.2.2 hin29 (Has.at Hs28 hin29 rfl) (g := (mkF m 59 #[.val (.ref a1), .val (.long q2), .second, .val (.int p3), .val (.float (sC q2))] [(.int 0), (.ref a13), (.float f9)])) rfl rfl (hb hby d6_59) _ ?_
    refine XS.fload X27.here hx rfl (hb hby d6_60) rfl ?_
    refine XS.iloadN X27.here hx rfl (hb hby d6_62) rfl ?_
    refine st30 _ ?_
    show Steps p.tables e below (T30.setTop (mkF m 66 #[.val (.ref a1), .val (.long q2), .second, .val (.int p3), .val (.float (sC q2))] [(.int (if (cmpValue (FP.fcmp f9 (sC q2)) .g) < (0 : Int32) then (1 : Int32) else (if (cmpValue (FP.fcmp f9 (sC q2)) .l) = (0 : Int32) then (if p15 < p3 then (1 : Int32) else (0 : Int32)) else (0 : Int32))))])) _
    rw [← ex31]
    refine XS.ifYes X30.here hx rfl (pc0 := 66) (pc' := 77) rfl (hb hby d6_66) rfl ((if0 _ _).trans (teq ((by rw [ex31]; exact cc1) : x31 = (0 : Int32))).1) (by decide) (by decide) ?_
    exact X30.returnOut hx hret (hb hby d6_77) hr
theorem rm14_1 (l : Launch) (Z : State) (a0 : Array Value) (hw : HW a0 Z) (ws : List Jvm.Cond) (a1 : Addr) (q2 : Int64) (p3 : Int32) (a7 : Addr) (f9 : UInt32) (k10 : ClassId) (a13 : Addr) (p15 : Int32) (k16 : ClassId) (a43 : Addr) (q44 : Int64) (k45 : ClassId) (h0 : Heap) (n0 : Nat) (Z0 : n0 ≤ h0.size) (F_size_a1 : Fld Z h0 a1 kT "size" "I" (.int 1)) (F_depth_a1 : Fld Z h0 a1 kT "depth" "I" (.int 1)) (F_scoresAsRead_a1 : Fld Z h0 a1 kT "scoresAsRead" "[F" (.ref a7)) (V_a7 : Arv Z h0 a7 k10 .float (1 : Int32) [(.float f9)] (.float 0)) (F_ordinals_a1 : Fld Z h0 a1 kT "ordinals" "[I" (.ref a13)) (V_a13 : Arv Z h0 a13 k16 .int (1 : Int32) [(.int p15)] (.int 0)) (g_a7 : n0 ≤ a7) (F_scores_a1 : Fld Z h0 a1 kT "scores" "[J" (.ref a43)) (ne_a1_a7 : a1 ≠ a7) (V_a43 : Arv Z h0 a43 k45 .long (1 : Int32) [(.long q44)] (.long 0)) (ne_a43_a7 : a43 ≠ a7) (g_a43 : n0 ≤ a43) (ne_a1_a43 : a1 ≠ a43) (ne_a13_a7 : a13 ≠ a7) (ne_a13_a43 : a13 ≠ a43) (g_a13 : n0 ≤ a13) (E_a7 : Exa Z h0 a7 "[F") (E_a43 : Exa Z h0 a43 "[J") (E_a13 : Exa Z h0 a13 "[I") (E_a1 : Exa Z h0 a1 kT) (E_a7 : Exa Z h0 a7 "[F") (E_a43 : Exa Z h0 a43 "[J") (V_a43 : Arv Z h0 a43 k45 .long (1 : Int32) [(.long q44)] (.long 0)) (E_a13 : Exa Z h0 a13 "[I") (cc1 : ¬ ((if (cmpValue (FP.fcmp f9 (sC q2)) .g) < (0 : Int32) then (1 : Int32) else (if (cmpValue (FP.fcmp f9 (sC q2)) .l) = (0 : Int32) then (if p15 < p3 then (1 : Int32) else (0 : Int32)) else (0 : Int32))) = (0 : Int32))) :
    OwnMet l Z y_7 prog_25_method_4_code 5 none ws Rm14 #[(.ref a1), (.long q2), (.int p3)] h0 (Q14 Z a1 q2 p3 a7 f9 k10 a13 p15 k16 a43 q44 k45 h0 n0) := by
  refine own_body (plainFor_of_name pn_1) (ef_8cdad2 a1 q2 p3) ?_
  intro p e s m below meth c s₁ hx hby hml hown hnm hret hZ X0 e0
  have N0 := Fr.nil n0
  obtain ⟨_, T32, L32, X32, hQ32, st32⟩ := own_callS X0 hx hZ hown (y := y_0) (w_43 hw) (w_1 hw) (w_2 hw) (w_3 hw) (rm1 l Z a0 hw [] q2 h0 n0 Z0) e0 (Ls := #[.val (.ref a1), .val (.long q2), .second, .val (.int p3), .unset]) (by rw [hml]; rfl) (argsL := [(.long q2)]) (rest := []) (lenOf pd_0 rfl) (hb hby d6_1) (W := 0)
  obtain ⟨rfl, Nq32, e32⟩ := hQ32
  have N32 := Fr.app N0 Nq32
  obtain ⟨T33, X33, e33, st33⟩ := getF X32 hx hZ hown (host := "") (Or.inl (w_34 hw)) Via.refl e32 F_size_a1 (g := (mkF m 7 #[.val (.ref a1), .val (.long q2), .second, .val (.int p3), .val (.float (sC q2))] [(.ref a1)])) rfl rfl (hb hby d6_7)
  obtain ⟨T34, X34, e34, st34⟩ := getF X33 hx hZ hown (host := "") (Or.inl (w_14 hw)) Via.refl e33 F_depth_a1 (g := (mkF m 11 #[.val (.ref a1), .val (.long q2), .second, .val (.int p3), .val (.float (sC q2))] [(.ref a1), (.int 1)])) rfl rfl (hb hby d6_11)
  obtain ⟨T35, X35, e35, st35⟩ := getF X34 hx hZ hown (host := "") (Or.inl (w_21 hw)) Via.refl e34 F_scoresAsRead_a1 (g := (mkF m 49 #[.val (.ref a1), .val (.long q2), .second, .val (.int p3), .val (.float (sC q2))] [(.ref a1)])) rfl rfl (hb hby d6_49)
  obtain ⟨cl36, Ar36, q36, S36, M36, Hs36, G36⟩ := id V_a7
  have hin37 : ¬ ((0 : Int32) < 0 ∨ cl36.slots.size ≤ ((0 : Int32)).toNatClampNeg) := inb_of S36 ⟨(by decide : ¬ ((0 : Int32) < (0 : Int32))), (by decide : (0 : Int32) < (1 : Int32))⟩
  obtain ⟨T38, X38, e38, st38⟩ := getF X35 hx hZ hown (host := "") (Or.inl (w_27 hw)) Via.refl e35 F_ordinals_a1 (g := (mkF m 55 #[.val (.ref a1), .val (.long q2), .second, .val (.int p3), .val (.float (sC q2))] [(.ref a1), (.float f9)])) rfl rfl (hb hby d6_55)
  obtain ⟨cl39, Ar39, q39, S39, M39, Hs39, G39⟩ := id V_a13
  have hin40 : ¬ ((0 : Int32) < 0 ∨ cl39.slots.size ≤ ((0 : Int32)).toNatClampNeg) := inb_of S39 ⟨(by decide : ¬ ((0 : Int32) < (0 : Int32))), (by decide : (0 : Int32) < (1 : Int32))⟩
  obtain ⟨_, T41, L41, X41, hQ41, st41⟩ := own_callS X38 hx hZ hown (y := y_9) (w_60 hw) (w_61 hw) (w_7 hw) (w_62 hw) (rm11 l Z a0 hw [] f9 p15 (sC q2) p3 h0 n0 Z0) e38 (Ls := #[.val (.ref a1), .val (.long q2), .second, .val (.int p3), .val (.float (sC q2))]) (by rw [hml]; rfl) (argsL := [(.float f9), (.int p15), (.float (sC q2)), (.int p3)]) (rest := []) (lenOf pd_8 rfl) (hb hby d6_63) (W := 0)
  obtain ⟨rfl, Nq41, e41⟩ := hQ41
  have N41 := Fr.app N32 Nq41
  obtain ⟨x42, ex42⟩ : ∃ z, z = (if (cmpValue (FP.fcmp f9 (sC q2)) .g) < (0 : Int32) then (1 : Int32) else (if (cmpValue (FP.fcmp f9 (sC q2)) .l) = (0 : Int32) then (if p15 < p3 then (1 : Int32) else (0 : Int32)) else (0 : Int32))) := ⟨_, rfl⟩
  obtain ⟨_, T46, L46, X46, hQ46, st46⟩ := own_private X41 hx hZ hown (y := y_10) E_a1 (w_73 hw) (w_74 hw) (Jvm.Kit.selects_private (by decide) (mvT hZ (w_6 hw)) (mvP hZ (w_75 hw)) (mvT hZ (w_74 hw))) (w_75 hw) (w_7 hw) (w_76 hw) (rm13 l Z a0 hw [] a1 (sC q2) q2 p3 a7 f9 k10 a43 q44 k45 a13 p15 k16 h0 n0 Z0 F_size_a1 F_scoresAsRead_a1 V_a7 g_a7 F_scores_a1 ne_a1_a7 V_a43 ne_a43_a7 g_a43 F_ordinals_a1 ne_a1_a43 V_a13 ne_a13_a7 ne_a13_a43 g_a13 E_a7 E_a43 E_a13 E_a1) e41 (Ls := #[.val (.ref a1), .val (.long q2), .second, .val (.int p3), .val (.float (sC q2))]) (by rw [hml]; rfl) (argsL := [(.float (sC q2)), (.long q2), (.int p3)]) (rest := []) (lenOf pd_9 rfl) (hb hby d6_74) (W := 0)
  obtain ⟨rfl, Nq46, K46, o46_0, o46_1, o46_2, o46_3, o46_4, o46_5⟩ := hQ46
  have N46 := Fr.app N41 Nq46
  have s0 := K46.1
  have Kp0 : Keep h0 T46.heap [a7, a43, a13] := (Keep.refl h0 [a7, a43, a13]).trans K46 (allS (Or.inl (List.mem_of_getElem? (i := 0) rfl)) (allS (Or.inl (List.mem_of_getElem? (i := 1) rfl)) (allS (Or.inl (List.mem_of_getElem? (i := 2) rfl)) all0)))
  refine ⟨T46, _, _, _, none, X46, (fun _ => rfl), by decide, by decide, ?_, fun fs hr => ?_⟩
  · subst ex42
    unfold Q14
    rw [show (if (if (cmpValue (FP.fcmp f9 (sC q2)) .g) < (0 : Int32) then (1 : Int32) else (if (cmpValue (FP.fcmp f9 (sC q2)) .l) = (0 : Int32) then (if p15 < p3 then (1 : Int32) else (0 : Int32)) else (0 : Int32))) = (0 : Int32) then f9 else (sC q2)) = (sC q2) from by rw [if_neg cc1]]
    rw [show (if (if (cmpValue (FP.fcmp f9 (sC q2)) .g) < (0 : Int32) then (1 : Int32) else (if (cmpValue (FP.fcmp f9 (sC q2)) .l) = (0 : Int32) then (if p15 < p3 then (1 : Int32) else (0 : Int32)) else (0 : Int32))) = (0 : Int32) then q44 else q2) = q2 from by rw [if_neg cc1]]
    rw [show (if (if (cmpValue (FP.fcmp f9 (sC q2)) .g) < (0 : Int32) then (1 : Int32) else (if (cmpValue (FP.fcmp f9 (sC q2)) .l) = (0 : Int32) then (if p15 < p3 then (1 : Int32) else (0 : Int32)) else (0 : Int32))) = (0 : Int32) then p15 else p3) = p3 from by rw [if_neg cc1]]
    exact ⟨rfl, N46, Kp0, o46_0, o46_1, o46_2, o46_3, o46_4, o46_5⟩
  · refine XS.lloadN X0.here hx rfl (hb hby d6_0) rfl ?_
    refine st32 _ ?_
    refine XS.fstore X32.here hx rfl (hb hby d6_4) rfl (l' := #[.val (.ref a1), .val (.long q2), .second, .val (.int p3), .val (.float (sC q2))]) rfl ?_
    refine XS.aloadN X32.here hx rfl (hb hby d6_6) rfl rfl ?_
    refine st33 _ ?_
    refine XS.aloadN X33.here hx rfl (hb hby d6_10) rfl rfl ?_
    refine st34 _ ?_
    refine XS.icmpYes X34.here hx rfl (pc0 := 14) (pc' := 48) rfl (hb hby d6_14) rfl (flt ((by decide : ¬ ((1 : Int32) < (1 : Int32))) : ¬ ((1 : Int32) < (1 : Int32)))).2.1 (by decide) (by decide) ?_
    refine XS.aloadN X34.here hx rfl (hb hby d6_48) rfl rfl ?_
    refine st35 _ ?_
    refine XS.iconst X35.here hx rfl (hb hby d6_52) ?_
    refine X35.faload hx (j := (0 : Int32)) (v := (.float f9)) (by rw [e35]; exact Ar36.1) (State.isArrayOf_alike hZ.alike Ar36.2.1) Ar36.2.2 hin37 (Has.at Hs36 hin37 rfl) (g := (mkF m 53 #[.val (.ref a1), .val (.long q2), .second, .val (.int p3), .val (.float (sC q2))] [(.int 0), (.ref a7)])) rfl rfl (hb hby d6_53) _ ?_
    refine XS.aloadN X35.here hx rfl (hb hby d6_54) rfl rfl ?_
    refine st38 _ ?_
    refine XS.iconst X38.here hx rfl (hb hby d6_58) ?_
    refine X38.iaload hx (j := (0 : Int32)) (v := (.int p15)) (by rw [e38]; exact Ar39.1) (State.isArrayOf_alike hZ.alike Ar39.2.1) Ar39.2.2 hin40 (Has.at Hs39 hin40 rfl) (g := (mkF m 59 #[.val (.ref a1), .val (.long q2), .second, .val (.int p3), .val (.float (sC q2))] [(.int 0), (.ref a13), (.float f9)])) rfl rfl (hb hby d6_59) _ ?_
    refine XS.fload X38.here hx rfl (hb hby d6_60) rfl ?_
    refine XS.iloadN X38.here hx rfl (hb hby d6_62) rfl ?_
    refine st41 _ ?_
    show Steps p.tables e below (T41.setTop (mkF m 66 #[.val (.ref a1), .val (.long q2), .second, .val (.int p3), .val (.float (sC q2))] [(.int (if (cmpValue (FP.fcmp f9 (sC q2)) .g) < (0 : Int32) then (1 : Int32) else (if (cmpValue (FP.fcmp f9 (sC q2)) .l) = (0 : Int32) then (if p15 < p3 then (1 : Int32) else (0 : Int32)) else (0 : Int32))))])) _
    rw [← ex42]
    refine XS.ifNo X41.here hx rfl (hb hby d6_66) rfl ((if0 _ _).trans (feq ((by rw [ex42]; exact cc1) : ¬ (x42 = (0 : Int32)))).1) ?_
    refine XS.aloadN X41.here hx rfl (hb hby d6_69) rfl rfl ?_
    refine XS.fload X41.here hx rfl (hb hby d6_70) rfl ?_
    refine XS.lloadN X41.here hx rfl (hb hby d6_72) rfl ?_
    refine XS.iloadN X41.here hx rfl (hb hby d6_73) rfl ?_
    refine st46 _ ?_
    exact X46.returnOut hx hret (hb hby d6_77) hr
theorem rm14 (l : Launch) (Z : State) (a0 : Array Value) (hw : HW a0 Z) (ws : List Jvm.Cond) (a1 : Addr) (q2 : Int64) (p3 : Int32) (a7 : Addr) (f9 : UInt32) (k10 : ClassId) (a13 : Addr) (p15 : Int32) (k16 : ClassId) (a43 : Addr) (q44 : Int64) (k45 : ClassId) (h0 : Heap) (n0 : Nat) (Z0 : n0 ≤ h0.size) (F_size_a1 : Fld Z h0 a1 kT "size" "I" (.int 1)) (F_depth_a1 : Fld Z h0 a1 kT "depth" "I" (.int 1)) (F_scoresAsRead_a1 : Fld Z h0 a1 kT "scoresAsRead" "[F" (.ref a7)) (V_a7 : Arv Z h0 a7 k10 .float (1 : Int32) [(.float f9)] (.float 0)) (F_ordinals_a1 : Fld Z h0 a1 kT "ordinals" "[I" (.ref a13)) (V_a13 : Arv Z h0 a13 k16 .int (1 : Int32) [(.int p15)] (.int 0)) (g_a7 : n0 ≤ a7) (F_scores_a1 : Fld Z h0 a1 kT "scores" "[J" (.ref a43)) (ne_a1_a7 : a1 ≠ a7) (V_a43 : Arv Z h0 a43 k45 .long (1 : Int32) [(.long q44)] (.long 0)) (ne_a43_a7 : a43 ≠ a7) (g_a43 : n0 ≤ a43) (ne_a1_a43 : a1 ≠ a43) (ne_a13_a7 : a13 ≠ a7) (ne_a13_a43 : a13 ≠ a43) (g_a13 : n0 ≤ a13) (E_a7 : Exa Z h0 a7 "[F") (E_a43 : Exa Z h0 a43 "[J") (E_a13 : Exa Z h0 a13 "[I") (E_a1 : Exa Z h0 a1 kT) (E_a7 : Exa Z h0 a7 "[F") (E_a43 : Exa Z h0 a43 "[J") (V_a43 : Arv Z h0 a43 k45 .long (1 : Int32) [(.long q44)] (.long 0)) (E_a13 : Exa Z h0 a13 "[I") :
    OwnMet l Z y_7 prog_25_method_4_code 5 none ws Rm14 #[(.ref a1), (.long q2), (.int p3)] h0 (Q14 Z a1 q2 p3 a7 f9 k10 a13 p15 k16 a43 q44 k45 h0 n0) := by
  by_cases cc1 : (if (cmpValue (FP.fcmp f9 (sC q2)) .g) < (0 : Int32) then (1 : Int32) else (if (cmpValue (FP.fcmp f9 (sC q2)) .l) = (0 : Int32) then (if p15 < p3 then (1 : Int32) else (0 : Int32)) else (0 : Int32))) = (0 : Int32)
  · exact rm14_0 l Z a0 hw ws a1 q2 p3 a7 f9 k10 a13 p15 k16 a43 q44 k45 h0 n0 Z0 F_size_a1 F_depth_a1 F_scoresAsRead_a1 V_a7 F_ordinals_a1 V_a13 g_a7 F_scores_a1 ne_a1_a7 V_a43 ne_a43_a7 g_a43 ne_a1_a43 ne_a13_a7 ne_a13_a43 g_a13 E_a7 E_a43 E_a13 E_a1 E_a7 E_a43 V_a43 E_a13 cc1
  · exact rm14_1 l Z a0 hw ws a1 q2 p3 a7 f9 k10 a13 p15 k16 a43 q44 k45 h0 n0 Z0 F_size_a1 F_depth_a1 F_scoresAsRead_a1 V_a7 F_ordinals_a1 V_a13 g_a7 F_scores_a1 ne_a1_a7 V_a43 ne_a43_a7 g_a43 ne_a1_a43 ne_a13_a7 ne_a13_a43 g_a13 E_a7 E_a43 E_a13 E_a1 E_a7 E_a43 V_a43 E_a13 cc1
theorem d10_15 : decode method_3_code 15 = .ok (.iload_n 1, 1) := by decide +kernel
theorem d10_16 : decode method_3_code 16 = .ok (.iconst 2, 1) := by decide +kernel
theorem d10_17 : decode method_3_code 17 = .ok (.if_icmp .ne 22, 3) := by decide +kernel
theorem d10_20 : decode method_3_code 20 = .ok (.iload_n 0, 1) := by decide +kernel
theorem d10_21 : decode method_3_code 21 = .ok (.iconst 1, 1) := by decide +kernel
theorem d10_22 : decode method_3_code 22 = .ok (.if_icmp .ne 11, 3) := by decide +kernel
theorem d10_25 : decode method_3_code 25 = .ok (.fload_n 2, 1) := by decide +kernel
theorem d10_26 : decode method_3_code 26 = .ok (.fload_n 3, 1) := by decide +kernel
theorem d10_27 : decode method_3_code 27 = .ok (.invokestatic 35, 3) := by decide +kernel
theorem d12_0 : decode method_4_code 0 = .ok (.fload_n 0, 1) := by decide +kernel
theorem d12_1 : decode method_4_code 1 = .ok (.fload_n 1, 1) := by decide +kernel
theorem d12_2 : decode method_4_code 2 = .ok (.fcmp .g, 1) := by decide +kernel
theorem d12_3 : decode method_4_code 3 = .ok (.ifCond .ge 7, 3) := by decide +kernel
theorem d12_6 : decode method_4_code 6 = .ok (.fload_n 1, 1) := by decide +kernel
theorem d12_7 : decode method_4_code 7 = .ok (.goto 4, 3) := by decide +kernel
theorem d12_11 : decode method_4_code 11 = .ok (.freturn, 1) := by decide +kernel
theorem d12_10 : decode method_4_code 10 = .ok (.fload_n 0, 1) := by decide +kernel
theorem ef_85382c (f1 : UInt32) (f2 : UInt32) (m : MethodId) : entryFrame m #[(.float f1), (.float f2)] 2 = mkF m 0 #[.val (.float f1), .val (.float f2)] [] := by first | (simp [entryFrame, mkF, argsToLocals, Value.category]; done) | rfl
abbrev y_11 : MethodName := ⟨"com/example/senret/senret/TopSentencesLowestAdmittedPinLaw", "max2", "(FF)F"⟩
-- com/example/senret/senret/TopSentencesLowestAdmittedPinLaw.max2(FF)F
abbrev Rm15 : Room := { frames := 0, cells := 0, slots := 0, locals := 0 }
def Q15 (Z : State) (f1 : UInt32) (f2 : UInt32) (h0 : Heap) (n0 : Nat) (v : Option Value) (h : Heap) (L : List Loc) : Prop := v = some (.float (if (cmpValue (FP.fcmp f1 f2) .g) < (0 : Int32) then f2 else f1)) ∧ Fr n0 L ∧ h = h0
-- ef_85382c
theorem rm15_0 (l : Launch) (Z : State) (a0 : Array Value) (hw : HW a0 Z) (ws : List Jvm.Cond) (f1 : UInt32) (f2 : UInt32) (h0 : Heap) (n0 : Nat) (Z0 : n0 ≤ h0.size) (cc1 : (cmpValue (FP.fcmp f1 f2) .g) < (0 : Int32)) :
    OwnMet l Z y_11 method_4_code 2 (some .float) ws Rm15 #[(.float f1), (.float f2)] h0 (Q15 Z f1 f2 h0 n0) := by
  refine own_body (plainFor_of_name pn_2) (ef_85382c f1 f2) ?_
  intro p e s m below meth c s₁ hx hby hml hown hnm hret hZ X0 e0
  have N0 := Fr.nil n0
  refine ⟨s₁, _, _, _, (some (.float f2)), X0, nofun, by decide, by decide, ?_, fun fs hr => ?_⟩
  · rw [e0]
    unfold Q15
    rw [show (if (cmpValue (FP.fcmp f1 f2) .g) < (0 : Int32) then f2 else f1) = f2 from by rw [if_pos cc1]]
    exact ⟨rfl, N0, rfl⟩
  · refine XS.floadN X0.here hx rfl (hb hby d12_0) rfl ?_
    refine XS.floadN X0.here hx rfl (hb hby d12_1) rfl ?_
    refine XS.fcmpS X0.here hx rfl (hb hby d12_2) rfl rfl ?_
    refine XS.ifNo X0.here hx rfl (hb hby d12_3) rfl ((if0 _ _).trans (tlt (cc1 : (cmpValue (FP.fcmp f1 f2) .g) < (0 : Int32))).2.1) ?_
    refine XS.floadN X0.here hx rfl (hb hby d12_6) rfl ?_
    refine XS.goto X0.here hx rfl (pc0 := 7) (pc' := 11) rfl (hb hby d12_7) (by decide) (by decide) ?_
    exact retOut X0 hx hret rfl (Or.inr (Or.inr (Or.inr (Or.inl ⟨rfl, rfl, _, rfl⟩)))) (hb hby d12_11) hr
theorem rm15_1 (l : Launch) (Z : State) (a0 : Array Value) (hw : HW a0 Z) (ws : List Jvm.Cond) (f1 : UInt32) (f2 : UInt32) (h0 : Heap) (n0 : Nat) (Z0 : n0 ≤ h0.size) (cc1 : ¬ ((cmpValue (FP.fcmp f1 f2) .g) < (0 : Int32))) :
    OwnMet l Z y_11 method_4_code 2 (some .float) ws Rm15 #[(.float f1), (.float f2)] h0 (Q15 Z f1 f2 h0 n0) := by
  refine own_body (plainFor_of_name pn_2) (ef_85382c f1 f2) ?_
  intro p e s m below meth c s₁ hx hby hml hown hnm hret hZ X0 e0
  have N0 := Fr.nil n0
  refine ⟨s₁, _, _, _, (some (.float f1)), X0, nofun, by decide, by decide, ?_, fun fs hr => ?_⟩
  · rw [e0]
    unfold Q15
    rw [show (if (cmpValue (FP.fcmp f1 f2) .g) < (0 : Int32) then f2 else f1) = f1 from by rw [if_neg cc1]]
    exact ⟨rfl, N0, rfl⟩
  · refine XS.floadN X0.here hx rfl (hb hby d12_0) rfl ?_
    refine XS.floadN X0.here hx rfl (hb hby d12_1) rfl ?_
    refine XS.fcmpS X0.here hx rfl (hb hby d12_2) rfl rfl ?_
    refine XS.ifYes X0.here hx rfl (pc0 := 3) (pc' := 10) rfl (hb hby d12_3) rfl ((if0 _ _).trans (flt (cc1 : ¬ ((cmpValue (FP.fcmp f1 f2) .g) < (0 : Int32)))).2.1) (by decide) (by decide) ?_
    refine XS.floadN X0.here hx rfl (hb hby d12_10) rfl ?_
    exact retOut X0 hx hret rfl (Or.inr (Or.inr (Or.inr (Or.inl ⟨rfl, rfl, _, rfl⟩)))) (hb hby d12_11) hr
theorem rm15 (l : Launch) (Z : State) (a0 : Array Value) (hw : HW a0 Z) (ws : List Jvm.Cond) (f1 : UInt32) (f2 : UInt32) (h0 : Heap) (n0 : Nat) (Z0 : n0 ≤ h0.size) :
    OwnMet l Z y_11 method_4_code 2 (some .float) ws Rm15 #[(.float f1), (.float f2)] h0 (Q15 Z f1 f2 h0 n0) := by
  by_cases cc1 : (cmpValue (FP.fcmp f1 f2) .g) < (0 : Int32)
  · exact rm15_0 l Z a0 hw ws f1 f2 h0 n0 Z0 cc1
  · exact rm15_1 l Z a0 hw ws f1 f2 h0 n0 Z0 cc1
theorem pd_10 : parseMethodDescriptor "(FF)F" = some ⟨[.float, .float], some .float⟩ := by decide +kernel
theorem w_65 {a0 : Array Value} {Z : State} (hw : HW a0 Z) : Jvm.Cond.before (Jvm.Cond.code ({ cls := "com/example/senret/senret/TopSentencesLowestAdmittedPinLaw", name := "max2", desc := "(FF)F" } : Jvm.MethodName) method_4_code (2 : Nat) (Option.some Jvm.ClassFile.FieldType.float)) a0 Z = true := hw _ (List.mem_of_getElem? (i := 65) rfl)
theorem w_63 {a0 : Array Value} {Z : State} (hw : HW a0 Z) : Jvm.Cond.before (Jvm.Cond.methodLink "com/example/senret/senret/TopSentencesLowestAdmittedPinLaw" (35 : Nat) ({ cls := "com/example/senret/senret/TopSentencesLowestAdmittedPinLaw", name := "max2", desc := "(FF)F" } : Jvm.MethodName)) a0 Z = true := hw _ (List.mem_of_getElem? (i := 63) rfl)
theorem w_64 {a0 : Array Value} {Z : State} (hw : HW a0 Z) : Jvm.Cond.before (Jvm.Cond.static ({ cls := "com/example/senret/senret/TopSentencesLowestAdmittedPinLaw", name := "max2", desc := "(FF)F" } : Jvm.MethodName)) a0 Z = true := hw _ (List.mem_of_getElem? (i := 64) rfl)
theorem d10_30 : decode method_3_code 30 = .ok (.goto 8, 3) := by decide +kernel
theorem d10_38 : decode method_3_code 38 = .ok (.freturn, 1) := by decide +kernel
theorem ef_3de4ae (f1 : UInt32) (f2 : UInt32) (f3 : UInt32) (m : MethodId) : entryFrame m #[(.int 1), (.int 2), (.float f1), (.float f2), (.float f3)] 5 = mkF m 0 #[.val (.int 1), .val (.int 2), .val (.float f1), .val (.float f2), .val (.float f3)] [] := by first | (simp [entryFrame, mkF, argsToLocals, Value.category]; done) | rfl
-- com/example/senret/senret/TopSentencesLowestAdmittedPinLaw.expected(IIFFF)F
abbrev Rm16 : Room := { frames := 1, cells := 0, slots := 0, locals := 13 }
def Q16 (Z : State) (f1 : UInt32) (f2 : UInt32) (f3 : UInt32) (h0 : Heap) (n0 : Nat) (v : Option Value) (h : Heap) (L : List Loc) : Prop := v = some (.float (if (cmpValue (FP.fcmp f1 f2) .g) < (0 : Int32) then f2 else f1)) ∧ Fr n0 L ∧ h = h0
-- ef_3de4ae
theorem rm16 (l : Launch) (Z : State) (a0 : Array Value) (hw : HW a0 Z) (ws : List Jvm.Cond) (f1 : UInt32) (f2 : UInt32) (f3 : UInt32) (h0 : Heap) (n0 : Nat) (Z0 : n0 ≤ h0.size) :
    OwnMet l Z y_8 method_3_code 5 (some .float) ws Rm16 #[(.int 1), (.int 2), (.float f1), (.float f2), (.float f3)] h0 (Q16 Z f1 f2 f3 h0 n0) := by
  refine own_body (plainFor_of_name pn_2) (ef_3de4ae f1 f2 f3) ?_
  intro p e s m below meth c s₁ hx hby hml hown hnm hret hZ X0 e0
  have N0 := Fr.nil n0
  obtain ⟨_, T4, L4, X4, hQ4, st4⟩ := own_callS X0 hx hZ hown (y := y_11) (w_63 hw) (w_64 hw) (w_58 hw) (w_65 hw) (rm15 l Z a0 hw [] f1 f2 h0 n0 Z0) e0 (Ls := #[.val (.int 1), .val (.int 2), .val (.float f1), .val (.float f2), .val (.float f3)]) (by rw [hml]; rfl) (argsL := [(.float f1), (.float f2)]) (rest := []) (lenOf pd_10 rfl) (hb hby d10_27) (W := 0)
  obtain ⟨rfl, Nq4, e4⟩ := hQ4
  have N4 := Fr.app N0 Nq4
  obtain ⟨x5, ex5⟩ : ∃ z, z = (if (cmpValue (FP.fcmp f1 f2) .g) < (0 : Int32) then f2 else f1) := ⟨_, rfl⟩
  refine ⟨T4, _, _, _, (some (.float x5)), X4, nofun, by decide, by decide, ?_, fun fs hr => ?_⟩
  · rw [e4]
    subst ex5
    exact ⟨rfl, N4, rfl⟩
  · refine XS.iloadN X0.here hx rfl (hb hby d10_0) rfl ?_
    refine XS.iloadN X0.here hx rfl (hb hby d10_1) rfl ?_
    refine XS.icmpYes X0.here hx rfl (pc0 := 2) (pc' := 8) rfl (hb hby d10_2) rfl (flt ((by decide : ¬ ((2 : Int32) < (1 : Int32))) : ¬ ((2 : Int32) < (1 : Int32)))).2.1 (by decide) (by decide) ?_
    refine XS.iloadN X0.here hx rfl (hb hby d10_8) rfl ?_
    refine XS.iconst X0.here hx rfl (hb hby d10_9) ?_
    refine XS.icmpYes X0.here hx rfl (pc0 := 10) (pc' := 15) rfl (hb hby d10_10) rfl (feq ((by decide : ¬ ((2 : Int32) = (1 : Int32))) : ¬ ((2 : Int32) = (1 : Int32)))).2 (by decide) (by decide) ?_
    refine XS.iloadN X0.here hx rfl (hb hby d10_15) rfl ?_
    refine XS.iconst X0.here hx rfl (hb hby d10_16) ?_
    refine XS.icmpNo X0.here hx rfl (hb hby d10_17) rfl (teq ((by decide : (2 : Int32) = (2 : Int32)) : (2 : Int32) = (2 : Int32))).2 ?_
    refine XS.iloadN X0.here hx rfl (hb hby d10_20) rfl ?_
    refine XS.iconst X0.here hx rfl (hb hby d10_21) ?_
    refine XS.icmpNo X0.here hx rfl (hb hby d10_22) rfl (teq ((by decide : (1 : Int32) = (1 : Int32)) : (1 : Int32) = (1 : Int32))).2 ?_
    refine XS.floadN X0.here hx rfl (hb hby d10_25) rfl ?_
    refine XS.floadN X0.here hx rfl (hb hby d10_26) rfl ?_
    refine st4 _ ?_
    show Steps p.tables e below (T4.setTop (mkF m 30 #[.val (.int 1), .val (.int 2), .val (.float f1), .val (.float f2), .val (.float f3)] [(.float (if (cmpValue (FP.fcmp f1 f2) .g) < (0 : Int32) then f2 else f1))])) _
    rw [← ex5]
    refine XS.goto X4.here hx rfl (pc0 := 30) (pc' := 38) rfl (hb hby d10_30) (by decide) (by decide) ?_
    exact retOut X4 hx hret rfl (Or.inr (Or.inr (Or.inr (Or.inl ⟨rfl, rfl, _, rfl⟩)))) (hb hby d10_38) hr
theorem d10_39 : decode method_3_code 39 = .ok (.iload_n 0, 1) := by decide +kernel
theorem d10_40 : decode method_3_code 40 = .ok (.iconst 1, 1) := by decide +kernel
theorem d10_41 : decode method_3_code 41 = .ok (.if_icmp .ne 14, 3) := by decide +kernel
theorem d10_44 : decode method_3_code 44 = .ok (.fload_n 2, 1) := by decide +kernel
theorem d10_45 : decode method_3_code 45 = .ok (.fload_n 3, 1) := by decide +kernel
theorem d10_46 : decode method_3_code 46 = .ok (.invokestatic 35, 3) := by decide +kernel
theorem d10_49 : decode method_3_code 49 = .ok (.fload 4, 2) := by decide +kernel
theorem d10_51 : decode method_3_code 51 = .ok (.invokestatic 35, 3) := by decide +kernel
theorem d10_54 : decode method_3_code 54 = .ok (.freturn, 1) := by decide +kernel
theorem ef_f36771 (f1 : UInt32) (f2 : UInt32) (f3 : UInt32) (m : MethodId) : entryFrame m #[(.int 1), (.int 3), (.float f1), (.float f2), (.float f3)] 5 = mkF m 0 #[.val (.int 1), .val (.int 3), .val (.float f1), .val (.float f2), .val (.float f3)] [] := by first | (simp [entryFrame, mkF, argsToLocals, Value.category]; done) | rfl
-- com/example/senret/senret/TopSentencesLowestAdmittedPinLaw.expected(IIFFF)F
abbrev Rm17 : Room := { frames := 1, cells := 0, slots := 0, locals := 13 }
def Q17 (Z : State) (f1 : UInt32) (f2 : UInt32) (f3 : UInt32) (h0 : Heap) (n0 : Nat) (v : Option Value) (h : Heap) (L : List Loc) : Prop := v = some (.float (if (cmpValue (FP.fcmp (if (cmpValue (FP.fcmp f1 f2) .g) < (0 : Int32) then f2 else f1) f3) .g) < (0 : Int32) then f3 else (if (cmpValue (FP.fcmp f1 f2) .g) < (0 : Int32) then f2 else f1))) ∧ Fr n0 L ∧ h = h0
-- ef_f36771
theorem rm17 (l : Launch) (Z : State) (a0 : Array Value) (hw : HW a0 Z) (ws : List Jvm.Cond) (f1 : UInt32) (f2 : UInt32) (f3 : UInt32) (h0 : Heap) (n0 : Nat) (Z0 : n0 ≤ h0.size) :
    OwnMet l Z y_8 method_3_code 5 (some .float) ws Rm17 #[(.int 1), (.int 3), (.float f1), (.float f2), (.float f3)] h0 (Q17 Z f1 f2 f3 h0 n0) := by
  refine own_body (plainFor_of_name pn_2) (ef_f36771 f1 f2 f3) ?_
  intro p e s m below meth c s₁ hx hby hml hown hnm hret hZ X0 e0
  have N0 := Fr.nil n0
  obtain ⟨_, T4, L4, X4, hQ4, st4⟩ := own_callS X0 hx hZ hown (y := y_11) (w_63 hw) (w_64 hw) (w_58 hw) (w_65 hw) (rm15 l Z a0 hw [] f1 f2 h0 n0 Z0) e0 (Ls := #[.val (.int 1), .val (.int 3), .val (.float f1), .val (.float f2), .val (.float f3)]) (by rw [hml]; rfl) (argsL := [(.float f1), (.float f2)]) (rest := []) (lenOf pd_10 rfl) (hb hby d10_46) (W := 0)
  obtain ⟨rfl, Nq4, e4⟩ := hQ4
  have N4 := Fr.app N0 Nq4
  obtain ⟨x5, ex5⟩ : ∃ z, z = (if (cmpValue (FP.fcmp f1 f2) .g) < (0 : Int32) then f2 else f1) := ⟨_, rfl⟩
  obtain ⟨_, T6, L6, X6, hQ6, st6⟩ := own_callS X4 hx hZ hown (y := y_11) (w_63 hw) (w_64 hw) (w_58 hw) (w_65 hw) (rm15 l Z a0 hw [] x5 f3 h0 n0 Z0) e4 (Ls := #[.val (.int 1), .val (.int 3), .val (.float f1), .val (.float f2), .val (.float f3)]) (by rw [hml]; rfl) (argsL := [(.float x5), (.float f3)]) (rest := []) (lenOf pd_10 rfl) (hb hby d10_51) (W := 0)
  obtain ⟨rfl, Nq6, e6⟩ := hQ6
  have N6 := Fr.app N4 Nq6
  obtain ⟨x7, ex7⟩ : ∃ z, z = (if (cmpValue (FP.fcmp x5 f3) .g) < (0 : Int32) then f3 else x5) := ⟨_, rfl⟩
  refine ⟨T6, _, _, _, (some (.float x7)), X6, nofun, by decide, by decide, ?_, fun fs hr => ?_⟩
  · rw [e6]
    subst ex7
    subst ex5
    exact ⟨rfl, N6, rfl⟩
  · refine XS.iloadN X0.here hx rfl (hb hby d10_0) rfl ?_
    refine XS.iloadN X0.here hx rfl (hb hby d10_1) rfl ?_
    refine XS.icmpYes X0.here hx rfl (pc0 := 2) (pc' := 8) rfl (hb hby d10_2) rfl (flt ((by decide : ¬ ((3 : Int32) < (1 : Int32))) : ¬ ((3 : Int32) < (1 : Int32)))).2.1 (by decide) (by decide) ?_
    refine XS.iloadN X0.here hx rfl (hb hby d10_8) rfl ?_
    refine XS.iconst X0.here hx rfl (hb hby d10_9) ?_
    refine XS.icmpYes X0.here hx rfl (pc0 := 10) (pc' := 15) rfl (hb hby d10_10) rfl (feq ((by decide : ¬ ((3 : Int32) = (1 : Int32))) : ¬ ((3 : Int32) = (1 : Int32)))).2 (by decide) (by decide) ?_
    refine XS.iloadN X0.here hx rfl (hb hby d10_15) rfl ?_
    refine XS.iconst X0.here hx rfl (hb hby d10_16) ?_
    refine XS.icmpYes X0.here hx rfl (pc0 := 17) (pc' := 39) rfl (hb hby d10_17) rfl (feq ((by decide : ¬ ((3 : Int32) = (2 : Int32))) : ¬ ((3 : Int32) = (2 : Int32)))).2 (by decide) (by decide) ?_
    refine XS.iloadN X0.here hx rfl (hb hby d10_39) rfl ?_
    refine XS.iconst X0.here hx rfl (hb hby d10_40) ?_
    refine XS.icmpNo X0.here hx rfl (hb hby d10_41) rfl (teq ((by decide : (1 : Int32) = (1 : Int32)) : (1 : Int32) = (1 : Int32))).2 ?_
    refine XS.floadN X0.here hx rfl (hb hby d10_44) rfl ?_
    refine XS.floadN X0.here hx rfl (hb hby d10_45) rfl ?_
    refine st4 _ ?_
    show Steps p.tables e below (T4.setTop (mkF m 49 #[.val (.int 1), .val (.int 3), .val (.float f1), .val (.float f2), .val (.float f3)] [(.float (if (cmpValue (FP.fcmp f1 f2) .g) < (0 : Int32) then f2 else f1))])) _
    rw [← ex5]
    refine XS.fload X4.here hx rfl (hb hby d10_49) rfl ?_
    refine st6 _ ?_
    show Steps p.tables e below (T6.setTop (mkF m 54 #[.val (.int 1), .val (.int 3), .val (.float f1), .val (.float f2), .val (.float f3)] [(.float (if (cmpValue (FP.fcmp x5 f3) .g) < (0 : Int32) then f3 else x5))])) _
    rw [← ex7]
    exact retOut X6 hx hret rfl (Or.inr (Or.inr (Or.inr (Or.inl ⟨rfl, rfl, _, rfl⟩)))) (hb hby d10_54) hr
theorem ef0 (p1 : Int32) (p2 : Int64) (p3 : Int64) (p4 : Int64) (p5 : Int32) (p6 : Int32) (m : MethodId) : entryFrame m #[(.int p1), (.long p2), (.long p3), (.long p4), (.int p5), (.int p6)] maxLocals = mkF m 0 #[.val (.int p1), .val (.long p2), .second, .val (.long p3), .second, .val (.long p4), .second, .val (.int p5), .val (.int p6), .unset, .unset, .unset, .unset, .unset, .unset, .unset] [] := by first | (simp [entryFrame, mkF, argsToLocals, Value.category, maxLocals]; done) | rfl
theorem rm0_0 (l : Launch) (Z : State) (a0 : Array Value) (hw : HW a0 Z) (ws : List Jvm.Cond) (p1 : Int32) (p2 : Int64) (p3 : Int64) (p4 : Int64) (p5 : Int32) (p6 : Int32) (h0 : Heap) (n0 : Nat) (Z0 : n0 ≤ h0.size) (Od0 : Old Z n0 h0) (hk : (p1 &&& (3 : Int32)) = (0 : Int32)) :
    OwnMet l Z x code maxLocals ret ws room_1 #[(.int p1), (.long p2), (.long p3), (.long p4), (.int p5), (.int p6)] h0 (Q0 n0) := by
  refine own_body (plainFor_of_name pn_2) (ef0 p1 p2 p3 p4 p5 p6) ?_
  intro p e s m below meth c s₁ hx hby hml hown hnm hret hZ X0 e0
  have N0 := Fr.nil n0
  obtain ⟨_, T1, L1, X1, hQ1, st1⟩ := own_callS X0 hx hZ hown (y := y_0) (w_0 hw) (w_1 hw) (w_2 hw) (w_3 hw) (rm1 l Z a0 hw [] p2 h0 n0 Z0) e0 (Ls := #[.val (.int p1), .val (.long p2), .second, .val (.long p3), .second, .val (.long p4), .second, .val (.int p5), .val (.int p6), .val (.int 1), .val (.int (p1 >>> ((2 : Int32) &&& 31))), .unset, .unset, .unset, .unset, .unset]) (by rw [hml]; rfl) (argsL := [(.long p2)]) (rest := []) (lenOf pd_0 rfl) (hb hby at_13) (W := 0)
  obtain ⟨rfl, Nq1, e1⟩ := hQ1
  have N1 := Fr.app N0 Nq1
  obtain ⟨_, T2, L2, X2, hQ2, st2⟩ := own_callS X1 hx hZ hown (y := y_0) (w_0 hw) (w_1 hw) (w_2 hw) (w_3 hw) (rm1 l Z a0 hw [] p3 h0 n0 Z0) e1 (Ls := #[.val (.int p1), .val (.long p2), .second, .val (.long p3), .second, .val (.long p4), .second, .val (.int p5), .val (.int p6), .val (.int 1), .val (.int (p1 >>> ((2 : Int32) &&& 31))), .val (.float (sC p2)), .unset, .unset, .unset, .unset]) (by rw [hml]; rfl) (argsL := [(.long p3)]) (rest := []) (lenOf pd_0 rfl) (hb hby at_19) (W := 0)
  obtain ⟨rfl, Nq2, e2⟩ := hQ2
  have N2 := Fr.app N1 Nq2
  obtain ⟨_, T3, L3, X3, hQ3, st3⟩ := own_callS X2 hx hZ hown (y := y_0) (w_0 hw) (w_1 hw) (w_2 hw) (w_3 hw) (rm1 l Z a0 hw [] p4 h0 n0 Z0) e2 (Ls := #[.val (.int p1), .val (.long p2), .second, .val (.long p3), .second, .val (.long p4), .second, .val (.int p5), .val (.int p6), .val (.int 1), .val (.int (p1 >>> ((2 : Int32) &&& 31))), .val (.float (sC p2)), .val (.float (sC p3)), .unset, .unset, .unset]) (by rw [hml]; rfl) (argsL := [(.long p4)]) (rest := []) (lenOf pd_0 rfl) (hb hby at_26) (W := 0)
  obtain ⟨rfl, Nq3, e3⟩ := hQ3
  have N3 := Fr.app N2 Nq3
  obtain ⟨T4, h4, X4, e4, E4, A4, D4, -, st4⟩ := newO X3 hx hZ hown (w_5 hw) (w_6 hw) (w_7 hw) e3 (g := (mkF m 31 #[.val (.int p1), .val (.long p2), .second, .val (.long p3), .second, .val (.long p4), .second, .val (.int p5), .val (.int p6), .val (.int 1), .val (.int (p1 >>> ((2 : Int32) &&& 31))), .val (.float (sC p2)), .val (.float (sC p3)), .val (.float (sC p4)), .unset, .unset] [])) rfl (hb hby at_31) (by decide) (by decide)
  obtain ⟨b4, g4⟩ : ∃ z, z = h0.size := ⟨_, rfl⟩
  rw [← g4] at A4 D4 st4
  have s0 := E4.1
  have Fn4_depth : Fld Z h4 b4 kT "depth" "I" (.int 0) := D4 (Or.inr (w_15 hw)) (ty := .int) (by decide)
  have Fn4_scoresAsRead : Fld Z h4 b4 kT "scoresAsRead" "[F" .null := D4 (Or.inl (w_22 hw)) (ty := (.array .float)) (by decide)
  have Fn4_scores : Fld Z h4 b4 kT "scores" "[J" .null := D4 (Or.inl (w_25 hw)) (ty := (.array .long)) (by decide)
  have Fn4_ordinals : Fld Z h4 b4 kT "ordinals" "[I" .null := D4 (Or.inl (w_28 hw)) (ty := (.array .int)) (by decide)
  have Fn4_size : Fld Z h4 b4 kT "size" "I" (.int 0) := D4 (Or.inl (w_35 hw)) (ty := .int) (by decide)
  have g_b4 : n0 ≤ b4 := Nat.le_trans Z0 (Nat.le_of_eq g4.symm)
  have z1 := Nat.le_trans Z0 s0
  obtain ⟨_, T5, L5, X5, hQ5, st5⟩ := own_special X4 hx hZ hown (y := y_2) (a := b4) (w_8 hw) (w_9 hw) (w_7 hw) (w_10 hw) (rm3 l Z a0 hw [] b4 h4 n0 z1 Fn4_depth A4 g_b4 Fn4_scoresAsRead Fn4_scores Fn4_ordinals Fn4_size) e4 (Ls := #[.val (.int p1), .val (.long p2), .second, .val (.long p3), .second, .val (.long p4), .second, .val (.int p5), .val (.int p6), .val (.int 1), .val (.int (p1 >>> ((2 : Int32) &&& 31))), .val (.float (sC p2)), .val (.float (sC p3)), .val (.float (sC p4)), .unset, .unset]) (by rw [hml]; rfl) (argsL := [(.int 1)]) (rest := [(.ref b4)]) (lenOf pd_2 rfl) (hb hby at_37) (W := 1)
  obtain ⟨b5_b13, k5_k13, b5_b9, k5_k9, b5_b5, k5_k5, rfl, Nq5, K5, o5_0, o5_1, o5_2, o5_3, o5_4, o5_5, o5_6, o5_7, o5_8, o5_9, o5_10, o5_11, o5_12, o5_13, o5_14, o5_15, o5_16, o5_17⟩ := hQ5
  have N5 := Fr.app N3 Nq5
  have s1 := K5.1
  have z2 := Nat.le_trans Z0 (Nat.le_trans s0 s1)
  obtain ⟨_, T6, L6, X6, hQ6, st6⟩ := own_virtual X5 hx hZ hown (y := y_3) (z := y_3) o5_0 (w_29 hw) (w_30 hw) (notFace_of_selects (args := #[]) (mvT hZ (w_32 hw))) (w_32 hw) (w_31 hw) (w_7 hw) (w_33 hw) (rm4 l Z a0 hw [] b4 T5.heap n0 z2 o5_5 o5_1) rfl (Ls := #[.val (.int p1), .val (.long p2), .second, .val (.long p3), .second, .val (.long p4), .second, .val (.int p5), .val (.int p6), .val (.int 1), .val (.int (p1 >>> ((2 : Int32) &&& 31))), .val (.float (sC p2)), .val (.float (sC p3)), .val (.float (sC p4)), .val (.ref b4), .unset]) (by rw [hml]; rfl) (argsL := []) (rest := []) (lenOf pd_3 rfl) (hb hby at_44) (W := 0)
  obtain ⟨rfl, Nq6, e6⟩ := hQ6
  have N6 := Fr.app N5 Nq6
  have ne_b4_b5_b5 := Nat.ne_of_lt (Nat.lt_of_lt_of_le Fn4_size.lt o5_12)
  have g_b5_b5 : n0 ≤ b5_b5 := Nat.le_trans z1 o5_12
  have ne_b4_b5_b9 := Nat.ne_of_lt (Nat.lt_of_lt_of_le Fn4_size.lt o5_9)
  have g_b5_b9 : n0 ≤ b5_b9 := Nat.le_trans z1 o5_9
  have ne_b4_b5_b13 := Nat.ne_of_lt (Nat.lt_of_lt_of_le Fn4_size.lt o5_6)
  have g_b5_b13 : n0 ≤ b5_b13 := Nat.le_trans z1 o5_6
  obtain ⟨_, T7, L7, X7, hQ7, st7⟩ := own_virtual X6 hx hZ hown (y := y_7) (z := y_7) o5_0 (w_38 hw) (w_39 hw) (notFace_of_selects (args := #[]) (mvT hZ (w_41 hw))) (w_41 hw) (w_40 hw) (w_7 hw) (w_42 hw) (rm8 l Z a0 hw [] b4 p2 p5 b5_b9 k5_k9 b5_b5 k5_k5 b5_b13 k5_k13 T5.heap n0 z2 o5_5 o5_1 o5_3 o5_11 o5_0 g_b4 o5_4 o5_14 (Ne.symm ne_b4_b5_b5) g_b5_b5 (Ne.symm ne_b4_b5_b9) o5_17 g_b5_b9 o5_2 o5_8 (Ne.symm ne_b4_b5_b13) o5_16 o5_15 g_b5_b13 o5_13 o5_10 o5_7) e6 (Ls := #[.val (.int p1), .val (.long p2), .second, .val (.long p3), .second, .val (.long p4), .second, .val (.int p5), .val (.int p6), .val (.int 1), .val (.int (p1 >>> ((2 : Int32) &&& 31))), .val (.float (sC p2)), .val (.float (sC p3)), .val (.float (sC p4)), .val (.ref b4), .val (.int 1)]) (by rw [hml]; rfl) (argsL := [(.long p2), (.int p5)]) (rest := []) (lenOf pd_6 rfl) (hb hby at_65) (W := 0)
  obtain ⟨rfl, Nq7, K7, o7_0, o7_1, o7_2, o7_3, o7_4, o7_5, o7_6, o7_7, o7_8, o7_9, o7_10, o7_11⟩ := hQ7
  have N7 := Fr.app N6 Nq7
  have s2 := K7.1
  have z3 := Nat.le_trans Z0 (Nat.le_trans (Nat.le_trans s0 s1) s2)
  obtain ⟨_, T8, L8, X8, hQ8, st8⟩ := own_virtual X7 hx hZ hown (y := y_3) (z := y_3) o7_0 (w_29 hw) (w_30 hw) (notFace_of_selects (args := #[]) (mvT hZ (w_32 hw))) (w_32 hw) (w_31 hw) (w_7 hw) (w_33 hw) (rm9 l Z a0 hw [] b4 b5_b5 (sC p2) k5_k5 T7.heap n0 z3 o7_5 o7_1 o7_4 o7_7) rfl (Ls := #[.val (.int p1), .val (.long p2), .second, .val (.long p3), .second, .val (.long p4), .second, .val (.int p5), .val (.int p6), .val (.int 1), .val (.int (p1 >>> ((2 : Int32) &&& 31))), .val (.float (sC p2)), .val (.float (sC p3)), .val (.float (sC p4)), .val (.ref b4), .val (.int 1)]) (by rw [hml]; rfl) (argsL := []) (rest := []) (lenOf pd_3 rfl) (hb hby at_75) (W := 0)
  obtain ⟨rfl, Nq8, e8⟩ := hQ8
  have N8 := Fr.app N7 Nq8
  obtain ⟨_, T9, L9, X9, hQ9, st9⟩ := own_callS X8 hx hZ hown (y := y_8) (w_56 hw) (w_57 hw) (w_58 hw) (w_59 hw) (rm10 l Z a0 hw [] (sC p2) (sC p3) (sC p4) T7.heap n0 z3) e8 (Ls := #[.val (.int p1), .val (.long p2), .second, .val (.long p3), .second, .val (.long p4), .second, .val (.int p5), .val (.int p6), .val (.int 1), .val (.int (p1 >>> ((2 : Int32) &&& 31))), .val (.float (sC p2)), .val (.float (sC p3)), .val (.float (sC p4)), .val (.ref b4), .val (.int 1)]) (by rw [hml]; rfl) (argsL := [(.int 1), (.int 1), (.float (sC p2)), (.float (sC p3)), (.float (sC p4))]) (rest := [(.float (sC p2))]) (lenOf pd_7 rfl) (hb hby at_87) (W := 1)
  obtain ⟨rfl, Nq9, e9⟩ := hQ9
  have N9 := Fr.app N8 Nq9
  obtain ⟨_, T10, L10, X10, hQ10, st10⟩ := own_virtual X9 hx hZ hown (y := y_7) (z := y_7) o7_0 (w_38 hw) (w_39 hw) (notFace_of_selects (args := #[]) (mvT hZ (w_41 hw))) (w_41 hw) (w_40 hw) (w_7 hw) (w_42 hw) (rm14 l Z a0 hw [] b4 p3 p6 b5_b5 (sC p2) k5_k5 b5_b13 p5 k5_k13 b5_b9 p2 k5_k9 T7.heap n0 z3 o7_5 o7_1 o7_4 o7_7 o7_2 o7_11 g_b5_b5 o7_3 ne_b4_b5_b5 o7_9 o5_17 g_b5_b9 ne_b4_b5_b9 o5_16 o5_15 g_b5_b13 o7_6 o7_8 o7_10 o7_0 o7_6 o7_8 o7_9 o7_10) e9 (Ls := #[.val (.int p1), .val (.long p2), .second, .val (.long p3), .second, .val (.long p4), .second, .val (.int p5), .val (.int p6), .val (.int 1), .val (.int (p1 >>> ((2 : Int32) &&& 31))), .val (.float (sC p2)), .val (.float (sC p3)), .val (.float (sC p4)), .val (.ref b4), .val (.int 1)]) (by rw [hml]; rfl) (argsL := [(.long p3), (.int p6)]) (rest := []) (lenOf pd_6 rfl) (hb hby at_106) (W := 0)
  obtain ⟨rfl, Nq10, K10, o10_0, o10_1, o10_2, o10_3, o10_4, o10_5⟩ := hQ10
  have N10 := Fr.app N9 Nq10
  have s3 := K10.1
  obtain ⟨x11, ex11⟩ : ∃ z, z = (if (if (cmpValue (FP.fcmp (sC p2) (sC p3)) .g) < (0 : Int32) then (1 : Int32) else (if (cmpValue (FP.fcmp (sC p2) (sC p3)) .l) = (0 : Int32) then (if p5 < p6 then (1 : Int32) else (0 : Int32)) else (0 : Int32))) = (0 : Int32) then (sC p2) else (sC p3)) := ⟨_, rfl⟩
  have o10_1' : Arv Z T10.heap b5_b5 k5_k5 .float (1 : Int32) [(.float x11)] (.float 0) := by rw [ex11]; exact o10_1
  obtain ⟨x12, ex12⟩ : ∃ z, z = (if (if (cmpValue (FP.fcmp (sC p2) (sC p3)) .g) < (0 : Int32) then (1 : Int32) else (if (cmpValue (FP.fcmp (sC p2) (sC p3)) .l) = (0 : Int32) then (if p5 < p6 then (1 : Int32) else (0 : Int32)) else (0 : Int32))) = (0 : Int32) then p2 else p3) := ⟨_, rfl⟩
  have o10_3' : Arv Z T10.heap b5_b9 k5_k9 .long (1 : Int32) [(.long x12)] (.long 0) := by rw [ex12]; exact o10_3
  obtain ⟨x13, ex13⟩ : ∃ z, z = (if (if (cmpValue (FP.fcmp (sC p2) (sC p3)) .g) < (0 : Int32) then (1 : Int32) else (if (cmpValue (FP.fcmp (sC p2) (sC p3)) .l) = (0 : Int32) then (if p5 < p6 then (1 : Int32) else (0 : Int32)) else (0 : Int32))) = (0 : Int32) then p5 else p6) := ⟨_, rfl⟩
  have o10_5' : Arv Z T10.heap b5_b13 k5_k13 .int (1 : Int32) [(.int x13)] (.int 0) := by rw [ex13]; exact o10_5
  have Ex14 := (o7_0.keep K10)
  have Fl15 := (o7_5.keep K10 (ninS ne_b4_b5_b5 (ninS ne_b4_b5_b9 (ninS ne_b4_b5_b13 nin0))))
  have Fl16 := (o7_1.keep K10 (ninS ne_b4_b5_b5 (ninS ne_b4_b5_b9 (ninS ne_b4_b5_b13 nin0))))
  have Fl17 := (o7_4.keep K10 (ninS ne_b4_b5_b5 (ninS ne_b4_b5_b9 (ninS ne_b4_b5_b13 nin0))))
  have z4 := Nat.le_trans Z0 (Nat.le_trans (Nat.le_trans (Nat.le_trans s0 s1) s2) s3)
  obtain ⟨_, T18, L18, X18, hQ18, st18⟩ := own_virtual X10 hx hZ hown (y := y_3) (z := y_3) Ex14 (w_29 hw) (w_30 hw) (notFace_of_selects (args := #[]) (mvT hZ (w_32 hw))) (w_32 hw) (w_31 hw) (w_7 hw) (w_33 hw) (rm9 l Z a0 hw [] b4 b5_b5 x11 k5_k5 T10.heap n0 z4 Fl15 Fl16 Fl17 o10_1') rfl (Ls := #[.val (.int p1), .val (.long p2), .second, .val (.long p3), .second, .val (.long p4), .second, .val (.int p5), .val (.int p6), .val (.int 1), .val (.int (p1 >>> ((2 : Int32) &&& 31))), .val (.float (sC p2)), .val (.float (sC p3)), .val (.float (sC p4)), .val (.ref b4), .val (.int 1)]) (by rw [hml]; rfl) (argsL := []) (rest := []) (lenOf pd_3 rfl) (hb hby at_116) (W := 0)
  obtain ⟨rfl, Nq18, e18⟩ := hQ18
  have N18 := Fr.app N10 Nq18
  obtain ⟨_, T19, L19, X19, hQ19, st19⟩ := own_callS X18 hx hZ hown (y := y_8) (w_56 hw) (w_57 hw) (w_58 hw) (w_59 hw) (rm16 l Z a0 hw [] (sC p2) (sC p3) (sC p4) T10.heap n0 z4) e18 (Ls := #[.val (.int p1), .val (.long p2), .second, .val (.long p3), .second, .val (.long p4), .second, .val (.int p5), .val (.int p6), .val (.int 1), .val (.int (p1 >>> ((2 : Int32) &&& 31))), .val (.float (sC p2)), .val (.float (sC p3)), .val (.float (sC p4)), .val (.ref b4), .val (.int 1)]) (by rw [hml]; rfl) (argsL := [(.int 1), (.int 2), (.float (sC p2)), (.float (sC p3)), (.float (sC p4))]) (rest := [(.float x11)]) (lenOf pd_7 rfl) (hb hby at_128) (W := 1)
  obtain ⟨rfl, Nq19, e19⟩ := hQ19
  have N19 := Fr.app N18 Nq19
  obtain ⟨x20, ex20⟩ : ∃ z, z = (if (cmpValue (FP.fcmp (sC p2) (sC p3)) .g) < (0 : Int32) then (sC p3) else (sC p2)) := ⟨_, rfl⟩
  have cd21 : (cmpValue (FP.fcmp (if (if (cmpValue (FP.fcmp (sC p2) (sC p3)) .g) < (0 : Int32) then (1 : Int32) else (if (cmpValue (FP.fcmp (sC p2) (sC p3)) .l) = (0 : Int32) then (if p5 < p6 then (1 : Int32) else (0 : Int32)) else (0 : Int32))) = (0 : Int32) then (sC p2) else (sC p3)) (if (cmpValue (FP.fcmp (sC p2) (sC p3)) .g) < (0 : Int32) then (sC p3) else (sC p2))) .l) = (0 : Int32) := (by rw []; exact own_fin_0 (sC p2) (sC p3) (sC p4) p5 p6 (p1 >>> ((2 : Int32) &&& 31)) (own_nn32 p2) (own_nn32 p3) (own_nn32 p4))
  have Fl22 := (o7_2.keep K10 (ninS ne_b4_b5_b5 (ninS ne_b4_b5_b9 (ninS ne_b4_b5_b13 nin0))))
  have Fl23 := (o7_3.keep K10 (ninS ne_b4_b5_b5 (ninS ne_b4_b5_b9 (ninS ne_b4_b5_b13 nin0))))
  obtain ⟨_, T24, L24, X24, hQ24, st24⟩ := own_virtual X19 hx hZ hown (y := y_7) (z := y_7) Ex14 (w_38 hw) (w_39 hw) (notFace_of_selects (args := #[]) (mvT hZ (w_41 hw))) (w_41 hw) (w_40 hw) (w_7 hw) (w_42 hw) (rm14 l Z a0 hw [] b4 p4 (p1 >>> ((2 : Int32) &&& 31)) b5_b5 x11 k5_k5 b5_b13 x13 k5_k13 b5_b9 x12 k5_k9 T10.heap n0 z4 Fl15 Fl16 Fl17 o10_1' Fl22 o10_5' g_b5_b5 Fl23 ne_b4_b5_b5 o10_3' o5_17 g_b5_b9 ne_b4_b5_b9 o5_16 o5_15 g_b5_b13 o10_0 o10_2 o10_4 Ex14 o10_0 o10_2 o10_3' o10_4) e19 (Ls := #[.val (.int p1), .val (.long p2), .second, .val (.long p3), .second, .val (.long p4), .second, .val (.int p5), .val (.int p6), .val (.int 1), .val (.int (p1 >>> ((2 : Int32) &&& 31))), .val (.float (sC p2)), .val (.float (sC p3)), .val (.float (sC p4)), .val (.ref b4), .val (.int 1)]) (by rw [hml]; rfl) (argsL := [(.long p4), (.int (p1 >>> ((2 : Int32) &&& 31)))]) (rest := []) (lenOf pd_6 rfl) (hb hby at_148) (W := 0)
  obtain ⟨rfl, Nq24, K24, o24_0, o24_1, o24_2, o24_3, o24_4, o24_5⟩ := hQ24
  have N24 := Fr.app N19 Nq24
  have s4 := K24.1
  obtain ⟨x25, ex25⟩ : ∃ z, z = (if (if (cmpValue (FP.fcmp x11 (sC p4)) .g) < (0 : Int32) then (1 : Int32) else (if (cmpValue (FP.fcmp x11 (sC p4)) .l) = (0 : Int32) then (if x13 < (p1 >>> ((2 : Int32) &&& 31)) then (1 : Int32) else (0 : Int32)) else (0 : Int32))) = (0 : Int32) then x11 else (sC p4)) := ⟨_, rfl⟩
  have o24_1' : Arv Z T24.heap b5_b5 k5_k5 .float (1 : Int32) [(.float x25)] (.float 0) := by rw [ex25]; exact o24_1
  obtain ⟨x26, ex26⟩ : ∃ z, z = (if (if (cmpValue (FP.fcmp x11 (sC p4)) .g) < (0 : Int32) then (1 : Int32) else (if (cmpValue (FP.fcmp x11 (sC p4)) .l) = (0 : Int32) then (if x13 < (p1 >>> ((2 : Int32) &&& 31)) then (1 : Int32) else (0 : Int32)) else (0 : Int32))) = (0 : Int32) then x12 else p4) := ⟨_, rfl⟩
  have o24_3' : Arv Z T24.heap b5_b9 k5_k9 .long (1 : Int32) [(.long x26)] (.long 0) := by rw [ex26]; exact o24_3
  obtain ⟨x27, ex27⟩ : ∃ z, z = (if (if (cmpValue (FP.fcmp x11 (sC p4)) .g) < (0 : Int32) then (1 : Int32) else (if (cmpValue (FP.fcmp x11 (sC p4)) .l) = (0 : Int32) then (if x13 < (p1 >>> ((2 : Int32) &&& 31)) then (1 : Int32) else (0 : Int32)) else (0 : Int32))) = (0 : Int32) then x13 else (p1 >>> ((2 : Int32) &&& 31))) := ⟨_, rfl⟩
  have o24_5' : Arv Z T24.heap b5_b13 k5_k13 .int (1 : Int32) [(.int x27)] (.int 0) := by rw [ex27]; exact o24_5
  have Ex28 := (Ex14.keep K24)
  have Fl29 := (Fl15.keep K24 (ninS ne_b4_b5_b5 (ninS ne_b4_b5_b9 (ninS ne_b4_b5_b13 nin0))))
  have Fl30 := (Fl16.keep K24 (ninS ne_b4_b5_b5 (ninS ne_b4_b5_b9 (ninS ne_b4_b5_b13 nin0))))
  have Fl31 := (Fl17.keep K24 (ninS ne_b4_b5_b5 (ninS ne_b4_b5_b9 (ninS ne_b4_b5_b13 nin0))))
  have z5 := Nat.le_trans Z0 (Nat.le_trans (Nat.le_trans (Nat.le_trans (Nat.le_trans s0 s1) s2) s3) s4)
  obtain ⟨_, T32, L32, X32, hQ32, st32⟩ := own_virtual X24 hx hZ hown (y := y_3) (z := y_3) Ex28 (w_29 hw) (w_30 hw) (notFace_of_selects (args := #[]) (mvT hZ (w_32 hw))) (w_32 hw) (w_31 hw) (w_7 hw) (w_33 hw) (rm9 l Z a0 hw [] b4 b5_b5 x25 k5_k5 T24.heap n0 z5 Fl29 Fl30 Fl31 o24_1') rfl (Ls := #[.val (.int p1), .val (.long p2), .second, .val (.long p3), .second, .val (.long p4), .second, .val (.int p5), .val (.int p6), .val (.int 1), .val (.int (p1 >>> ((2 : Int32) &&& 31))), .val (.float (sC p2)), .val (.float (sC p3)), .val (.float (sC p4)), .val (.ref b4), .val (.int 1)]) (by rw [hml]; rfl) (argsL := []) (rest := []) (lenOf pd_3 rfl) (hb hby at_158) (W := 0)
  obtain ⟨rfl, Nq32, e32⟩ := hQ32
  have N32 := Fr.app N24 Nq32
  obtain ⟨_, T33, L33, X33, hQ33, st33⟩ := own_callS X32 hx hZ hown (y := y_8) (w_56 hw) (w_57 hw) (w_58 hw) (w_59 hw) (rm17 l Z a0 hw [] (sC p2) (sC p3) (sC p4) T24.heap n0 z5) e32 (Ls := #[.val (.int p1), .val (.long p2), .second, .val (.long p3), .second, .val (.long p4), .second, .val (.int p5), .val (.int p6), .val (.int 1), .val (.int (p1 >>> ((2 : Int32) &&& 31))), .val (.float (sC p2)), .val (.float (sC p3)), .val (.float (sC p4)), .val (.ref b4), .val (.int 1)]) (by rw [hml]; rfl) (argsL := [(.int 1), (.int 3), (.float (sC p2)), (.float (sC p3)), (.float (sC p4))]) (rest := [(.float x25)]) (lenOf pd_7 rfl) (hb hby at_170) (W := 1)
  obtain ⟨rfl, Nq33, e33⟩ := hQ33
  have N33 := Fr.app N32 Nq33
  obtain ⟨x34, ex34⟩ : ∃ z, z = (if (cmpValue (FP.fcmp (if (cmpValue (FP.fcmp (sC p2) (sC p3)) .g) < (0 : Int32) then (sC p3) else (sC p2)) (sC p4)) .g) < (0 : Int32) then (sC p4) else (if (cmpValue (FP.fcmp (sC p2) (sC p3)) .g) < (0 : Int32) then (sC p3) else (sC p2))) := ⟨_, rfl⟩
  have cd35 : (cmpValue (FP.fcmp (if (if (cmpValue (FP.fcmp (if (if (cmpValue (FP.fcmp (sC p2) (sC p3)) .g) < (0 : Int32) then (1 : Int32) else (if (cmpValue (FP.fcmp (sC p2) (sC p3)) .l) = (0 : Int32) then (if p5 < p6 then (1 : Int32) else (0 : Int32)) else (0 : Int32))) = (0 : Int32) then (sC p2) else (sC p3)) (sC p4)) .g) < (0 : Int32) then (1 : Int32) else (if (cmpValue (FP.fcmp (if (if (cmpValue (FP.fcmp (sC p2) (sC p3)) .g) < (0 : Int32) then (1 : Int32) else (if (cmpValue (FP.fcmp (sC p2) (sC p3)) .l) = (0 : Int32) then (if p5 < p6 then (1 : Int32) else (0 : Int32)) else (0 : Int32))) = (0 : Int32) then (sC p2) else (sC p3)) (sC p4)) .l) = (0 : Int32) then (if (if (if (cmpValue (FP.fcmp (sC p2) (sC p3)) .g) < (0 : Int32) then (1 : Int32) else (if (cmpValue (FP.fcmp (sC p2) (sC p3)) .l) = (0 : Int32) then (if p5 < p6 then (1 : Int32) else (0 : Int32)) else (0 : Int32))) = (0 : Int32) then p5 else p6) < (p1 >>> ((2 : Int32) &&& 31)) then (1 : Int32) else (0 : Int32)) else (0 : Int32))) = (0 : Int32) then (if (if (cmpValue (FP.fcmp (sC p2) (sC p3)) .g) < (0 : Int32) then (1 : Int32) else (if (cmpValue (FP.fcmp (sC p2) (sC p3)) .l) = (0 : Int32) then (if p5 < p6 then (1 : Int32) else (0 : Int32)) else (0 : Int32))) = (0 : Int32) then (sC p2) else (sC p3)) else (sC p4)) (if (cmpValue (FP.fcmp (if (cmpValue (FP.fcmp (sC p2) (sC p3)) .g) < (0 : Int32) then (sC p3) else (sC p2)) (sC p4)) .g) < (0 : Int32) then (sC p4) else (if (cmpValue (FP.fcmp (sC p2) (sC p3)) .g) < (0 : Int32) then (sC p3) else (sC p2)))) .l) = (0 : Int32) := (by rw []; exact own_fin_1 (sC p2) (sC p3) (sC p4) p5 p6 (p1 >>> ((2 : Int32) &&& 31)) (own_nn32 p2) (own_nn32 p3) (own_nn32 p4))
  refine ⟨T33, _, _, _, (some (.int 1)), X33, nofun, by decide, by decide, ?_, fun fs hr => ?_⟩
  · show Q0 n0 _ T33.heap _
    rw [e33]
    subst ex34
    subst ex27
    subst ex26
    subst ex25
    subst ex20
    subst ex13
    subst ex12
    subst ex11
    exact ⟨rfl, N33⟩
  · refine XS.iloadN X0.here hx rfl (hb hby at_0) rfl ?_
    refine XS.iconst X0.here hx rfl (hb hby at_1) ?_
    refine XS.iand X0.here hx rfl (hb hby at_2) rfl ?_
    show Steps p.tables e below (s₁.setTop (mkF m 3 #[.val (.int p1), .val (.long p2), .second, .val (.long p3), .second, .val (.long p4), .second, .val (.int p5), .val (.int p6), .unset, .unset, .unset, .unset, .unset, .unset, .unset] [(.int (p1 &&& (3 : Int32)))])) _
    rw [hk]
    refine XS.iconst X0.here hx rfl (hb hby at_3) ?_
    refine XS.iadd X0.here hx rfl (hb hby at_4) rfl ?_
    refine XS.istore X0.here hx rfl (hb hby at_5) rfl (l' := #[.val (.int p1), .val (.long p2), .second, .val (.long p3), .second, .val (.long p4), .second, .val (.int p5), .val (.int p6), .val (.int 1), .unset, .unset, .unset, .unset, .unset, .unset]) rfl ?_
    refine XS.iloadN X0.here hx rfl (hb hby at_7) rfl ?_
    refine XS.iconst X0.here hx rfl (hb hby at_8) ?_
    refine XS.ishr X0.here hx rfl (hb hby at_9) rfl ?_
    refine XS.istore X0.here hx rfl (hb hby at_10) rfl (l' := #[.val (.int p1), .val (.long p2), .second, .val (.long p3), .second, .val (.long p4), .second, .val (.int p5), .val (.int p6), .val (.int 1), .val (.int (p1 >>> ((2 : Int32) &&& 31))), .unset, .unset, .unset, .unset, .unset]) rfl ?_
    refine XS.lloadN X0.here hx rfl (hb hby at_12) rfl ?_
    refine st1 _ ?_
    refine XS.fstore X1.here hx rfl (hb hby at_16) rfl (l' := #[.val (.int p1), .val (.long p2), .second, .val (.long p3), .second, .val (.long p4), .second, .val (.int p5), .val (.int p6), .val (.int 1), .val (.int (p1 >>> ((2 : Int32) &&& 31))), .val (.float (sC p2)), .unset, .unset, .unset, .unset]) rfl ?_
    refine XS.lloadN X1.here hx rfl (hb hby at_18) rfl ?_
    refine st2 _ ?_
    refine XS.fstore X2.here hx rfl (hb hby at_22) rfl (l' := #[.val (.int p1), .val (.long p2), .second, .val (.long p3), .second, .val (.long p4), .second, .val (.int p5), .val (.int p6), .val (.int 1), .val (.int (p1 >>> ((2 : Int32) &&& 31))), .val (.float (sC p2)), .val (.float (sC p3)), .unset, .unset, .unset]) rfl ?_
    refine XS.lload X2.here hx rfl (hb hby at_24) rfl ?_
    refine st3 _ ?_
    refine XS.fstore X3.here hx rfl (hb hby at_29) rfl (l' := #[.val (.int p1), .val (.long p2), .second, .val (.long p3), .second, .val (.long p4), .second, .val (.int p5), .val (.int p6), .val (.int 1), .val (.int (p1 >>> ((2 : Int32) &&& 31))), .val (.float (sC p2)), .val (.float (sC p3)), .val (.float (sC p4)), .unset, .unset]) rfl ?_
    refine st4 _ ?_
    refine XS.dup X4.here hx rfl (hb hby at_34) rfl rfl ?_
    refine XS.iload X4.here hx rfl (hb hby at_35) rfl ?_
    refine st5 _ ?_
    refine XS.astore X5.here hx rfl (hb hby at_40) rfl rfl (l' := #[.val (.int p1), .val (.long p2), .second, .val (.long p3), .second, .val (.long p4), .second, .val (.int p5), .val (.int p6), .val (.int 1), .val (.int (p1 >>> ((2 : Int32) &&& 31))), .val (.float (sC p2)), .val (.float (sC p3)), .val (.float (sC p4)), .val (.ref b4), .unset]) rfl ?_
    refine XS.aload X5.here hx rfl (hb hby at_42) rfl rfl ?_
    refine st6 _ ?_
    refine X6.ldcFloatC hx hown (mvT hZ (w_37 hw)) (g := (mkF m 47 #[.val (.int p1), .val (.long p2), .second, .val (.long p3), .second, .val (.long p4), .second, .val (.int p5), .val (.int p6), .val (.int 1), .val (.int (p1 >>> ((2 : Int32) &&& 31))), .val (.float (sC p2)), .val (.float (sC p3)), .val (.float (sC p4)), .val (.ref b4), .unset] [(.float 4286578688)])) rfl (hb hby at_47) _ ?_
    refine XS.fcmpS X6.here hx rfl (hb hby at_49) rfl (by decide +kernel : (cmpValue (FP.fcmp (4286578688 : UInt32) (4286578688 : UInt32)) .l) = (0 : Int32)) ?_
    refine XS.ifNo X6.here hx rfl (hb hby at_50) rfl ((if0 _ _).trans (teq ((by decide : (0 : Int32) = (0 : Int32)) : (0 : Int32) = (0 : Int32))).2) ?_
    refine XS.iconst X6.here hx rfl (hb hby at_53) ?_
    refine XS.goto X6.here hx rfl (pc0 := 54) (pc' := 58) rfl (hb hby at_54) (by decide) (by decide) ?_
    refine XS.istore X6.here hx rfl (hb hby at_58) rfl (l' := #[.val (.int p1), .val (.long p2), .second, .val (.long p3), .second, .val (.long p4), .second, .val (.int p5), .val (.int p6), .val (.int 1), .val (.int (p1 >>> ((2 : Int32) &&& 31))), .val (.float (sC p2)), .val (.float (sC p3)), .val (.float (sC p4)), .val (.ref b4), .val (.int 1)]) rfl ?_
    refine XS.aload X6.here hx rfl (hb hby at_60) rfl rfl ?_
    refine XS.lloadN X6.here hx rfl (hb hby at_62) rfl ?_
    refine XS.iload X6.here hx rfl (hb hby at_63) rfl ?_
    refine st7 _ ?_
    refine XS.iload X7.here hx rfl (hb hby at_68) rfl ?_
    refine XS.ifNo X7.here hx rfl (hb hby at_70) rfl ((if0 _ _).trans (feq ((by decide : ¬ ((1 : Int32) = (0 : Int32))) : ¬ ((1 : Int32) = (0 : Int32)))).1) ?_
    refine XS.aload X7.here hx rfl (hb hby at_73) rfl rfl ?_
    refine st8 _ ?_
    refine XS.iload X8.here hx rfl (hb hby at_78) rfl ?_
    refine XS.iconst X8.here hx rfl (hb hby at_80) ?_
    refine XS.fload X8.here hx rfl (hb hby at_81) rfl ?_
    refine XS.fload X8.here hx rfl (hb hby at_83) rfl ?_
    refine XS.fload X8.here hx rfl (hb hby at_85) rfl ?_
    refine st9 _ ?_
    refine XS.fcmpS X9.here hx rfl (hb hby at_90) rfl (fcmpV_self (own_nn32 _) .l) ?_
    refine XS.ifNo X9.here hx rfl (hb hby at_91) rfl ((if0 _ _).trans (teq ((by decide : (0 : Int32) = (0 : Int32)) : (0 : Int32) = (0 : Int32))).2) ?_
    refine XS.iconst X9.here hx rfl (hb hby at_94) ?_
    refine XS.goto X9.here hx rfl (pc0 := 95) (pc' := 99) rfl (hb hby at_95) (by decide) (by decide) ?_
    refine XS.istore X9.here hx rfl (hb hby at_99) rfl (l' := #[.val (.int p1), .val (.long p2), .second, .val (.long p3), .second, .val (.long p4), .second, .val (.int p5), .val (.int p6), .val (.int 1), .val (.int (p1 >>> ((2 : Int32) &&& 31))), .val (.float (sC p2)), .val (.float (sC p3)), .val (.float (sC p4)), .val (.ref b4), .val (.int 1)]) rfl ?_
    refine XS.aload X9.here hx rfl (hb hby at_101) rfl rfl ?_
    refine XS.lloadN X9.here hx rfl (hb hby at_103) rfl ?_
    refine XS.iload X9.here hx rfl (hb hby at_104) rfl ?_
    refine st10 _ ?_
    refine XS.iload X10.here hx rfl (hb hby at_109) rfl ?_
    refine XS.ifNo X10.here hx rfl (hb hby at_111) rfl ((if0 _ _).trans (feq ((by decide : ¬ ((1 : Int32) = (0 : Int32))) : ¬ ((1 : Int32) = (0 : Int32)))).1) ?_
    refine XS.aload X10.here hx rfl (hb hby at_114) rfl rfl ?_
    refine st18 _ ?_
    refine XS.iload X18.here hx rfl (hb hby at_119) rfl ?_
    refine XS.iconst X18.here hx rfl (hb hby at_121) ?_
    refine XS.fload X18.here hx rfl (hb hby at_122) rfl ?_
    refine XS.fload X18.here hx rfl (hb hby at_124) rfl ?_
    refine XS.fload X18.here hx rfl (hb hby at_126) rfl ?_
    refine st19 _ ?_
    show Steps p.tables e below (T19.setTop (mkF m 131 #[.val (.int p1), .val (.long p2), .second, .val (.long p3), .second, .val (.long p4), .second, .val (.int p5), .val (.int p6), .val (.int 1), .val (.int (p1 >>> ((2 : Int32) &&& 31))), .val (.float (sC p2)), .val (.float (sC p3)), .val (.float (sC p4)), .val (.ref b4), .val (.int 1)] [(.float (if (cmpValue (FP.fcmp (sC p2) (sC p3)) .g) < (0 : Int32) then (sC p3) else (sC p2))), (.float x11)])) _
    rw [← ex20]
    refine XS.fcmpS X19.here hx rfl (hb hby at_131) rfl rfl ?_
    refine XS.ifNo X19.here hx rfl (hb hby at_132) rfl ((if0 _ _).trans (teq ((by rw [ex20, ex11]; exact cd21) : (cmpValue (FP.fcmp x11 x20) .l) = (0 : Int32))).2) ?_
    refine XS.iconst X19.here hx rfl (hb hby at_135) ?_
    refine XS.goto X19.here hx rfl (pc0 := 136) (pc' := 140) rfl (hb hby at_136) (by decide) (by decide) ?_
    refine XS.istore X19.here hx rfl (hb hby at_140) rfl (l' := #[.val (.int p1), .val (.long p2), .second, .val (.long p3), .second, .val (.long p4), .second, .val (.int p5), .val (.int p6), .val (.int 1), .val (.int (p1 >>> ((2 : Int32) &&& 31))), .val (.float (sC p2)), .val (.float (sC p3)), .val (.float (sC p4)), .val (.ref b4), .val (.int 1)]) rfl ?_
    refine XS.aload X19.here hx rfl (hb hby at_142) rfl rfl ?_
    refine XS.lload X19.here hx rfl (hb hby at_144) rfl ?_
    refine XS.iload X19.here hx rfl (hb hby at_146) rfl ?_
    refine st24 _ ?_
    refine XS.iload X24.here hx rfl (hb hby at_151) rfl ?_
    refine XS.ifNo X24.here hx rfl (hb hby at_153) rfl ((if0 _ _).trans (feq ((by decide : ¬ ((1 : Int32) = (0 : Int32))) : ¬ ((1 : Int32) = (0 : Int32)))).1) ?_
    refine XS.aload X24.here hx rfl (hb hby at_156) rfl rfl ?_
    refine st32 _ ?_
    refine XS.iload X32.here hx rfl (hb hby at_161) rfl ?_
    refine XS.iconst X32.here hx rfl (hb hby at_163) ?_
    refine XS.fload X32.here hx rfl (hb hby at_164) rfl ?_
    refine XS.fload X32.here hx rfl (hb hby at_166) rfl ?_
    refine XS.fload X32.here hx rfl (hb hby at_168) rfl ?_
    refine st33 _ ?_
    show Steps p.tables e below (T33.setTop (mkF m 173 #[.val (.int p1), .val (.long p2), .second, .val (.long p3), .second, .val (.long p4), .second, .val (.int p5), .val (.int p6), .val (.int 1), .val (.int (p1 >>> ((2 : Int32) &&& 31))), .val (.float (sC p2)), .val (.float (sC p3)), .val (.float (sC p4)), .val (.ref b4), .val (.int 1)] [(.float (if (cmpValue (FP.fcmp (if (cmpValue (FP.fcmp (sC p2) (sC p3)) .g) < (0 : Int32) then (sC p3) else (sC p2)) (sC p4)) .g) < (0 : Int32) then (sC p4) else (if (cmpValue (FP.fcmp (sC p2) (sC p3)) .g) < (0 : Int32) then (sC p3) else (sC p2)))), (.float x25)])) _
    rw [← ex34]
    refine XS.fcmpS X33.here hx rfl (hb hby at_173) rfl rfl ?_
    refine XS.ifNo X33.here hx rfl (hb hby at_174) rfl ((if0 _ _).trans (teq ((by rw [ex34, ex25, ex13, ex11]; exact cd35) : (cmpValue (FP.fcmp x25 x34) .l) = (0 : Int32))).2) ?_
    refine XS.iconst X33.here hx rfl (hb hby at_177) ?_
    refine XS.goto X33.here hx rfl (pc0 := 178) (pc' := 182) rfl (hb hby at_178) (by decide) (by decide) ?_
    refine XS.istore X33.here hx rfl (hb hby at_182) rfl (l' := #[.val (.int p1), .val (.long p2), .second, .val (.long p3), .second, .val (.long p4), .second, .val (.int p5), .val (.int p6), .val (.int 1), .val (.int (p1 >>> ((2 : Int32) &&& 31))), .val (.float (sC p2)), .val (.float (sC p3)), .val (.float (sC p4)), .val (.ref b4), .val (.int 1)]) rfl ?_
    refine XS.iload X33.here hx rfl (hb hby at_184) rfl ?_
    exact retN X33 hx (t := .boolean) hret (by simp) (hb hby at_186) hr
theorem ef_3a0e29  (m : MethodId) : entryFrame m #[(.int 2), (.int 1024)] 2 = mkF m 0 #[.val (.int 2), .val (.int 1024)] [] := by first | (simp [entryFrame, mkF, argsToLocals, Value.category]; done) | rfl
-- java/lang/Math.min(II)I
abbrev Rm18 : Room := { frames := 0, cells := 0, slots := 0, locals := 0 }
def Q18 (Z : State)  (h0 : Heap) (n0 : Nat) (v : Option Value) (h : Heap) (L : List Loc) : Prop := v = some (.int 2) ∧ Fr n0 L ∧ h = h0
-- ef_3a0e29
theorem rm18 (l : Launch) (Z : State) (a0 : Array Value) (hw : HW a0 Z) (ws : List Jvm.Cond)  (h0 : Heap) (n0 : Nat) (Z0 : n0 ≤ h0.size) :
    OwnMet l Z y_1 jdk_29_method_69_code 2 (some .int) ws Rm18 #[(.int 2), (.int 1024)] h0 (Q18 Z  h0 n0) := by
  refine own_body (Jvm.Free.JP.mathPlain rfl (by decide +kernel)) (ef_3a0e29) ?_
  intro p e s m below meth c s₁ hx hby hml hown hnm hret hZ X0 e0
  have N0 := Fr.nil n0
  refine ⟨s₁, _, _, _, (some (.int 2)), X0, nofun, by decide, by decide, ?_, fun fs hr => ?_⟩
  · rw [e0]
    exact ⟨rfl, N0, rfl⟩
  · refine XS.iloadN X0.here hx rfl (hb hby d4_0) rfl ?_
    refine XS.iloadN X0.here hx rfl (hb hby d4_1) rfl ?_
    refine XS.icmpNo X0.here hx rfl (hb hby d4_2) rfl (flt ((by decide : ¬ ((1024 : Int32) < (2 : Int32))) : ¬ ((1024 : Int32) < (2 : Int32)))).2.2.1 ?_
    refine XS.iloadN X0.here hx rfl (hb hby d4_5) rfl ?_
    refine XS.goto X0.here hx rfl (pc0 := 6) (pc' := 10) rfl (hb hby d4_6) (by decide) (by decide) ?_
    exact retI X0 hx hret (hb hby d4_10) hr
theorem ef_b11dd1 (a1 : Addr) (m : MethodId) : entryFrame m #[(.ref a1), (.int 2)] 3 = mkF m 0 #[.val (.ref a1), .val (.int 2), .unset] [] := by first | (simp [entryFrame, mkF, argsToLocals, Value.category]; done) | rfl
-- com/example/senret/senret/TopSentences.<init>(I)V
abbrev Rm19 : Room := { frames := 1, cells := 3, slots := 6, locals := 13 }
def Q19 (Z : State) (a1 : Addr) (h0 : Heap) (n0 : Nat) (v : Option Value) (h : Heap) (L : List Loc) : Prop := ∃ b13 : Addr, ∃ k13 : ClassId, ∃ b9 : Addr, ∃ k9 : ClassId, ∃ b5 : Addr, ∃ k5 : ClassId, v = none ∧ Fr n0 L ∧ Keep h0 h [a1] ∧ Exa Z h a1 kT ∧ Fld Z h a1 kT "depth" "I" (.int 2) ∧ Fld Z h a1 kT "ordinals" "[I" (.ref b13) ∧ Fld Z h a1 kT "scores" "[J" (.ref b9) ∧ Fld Z h a1 kT "scoresAsRead" "[F" (.ref b5) ∧ Fld Z h a1 kT "size" "I" (.int 0) ∧ h0.size ≤ b13 ∧ Exa Z h b13 "[I" ∧ Arv Z h b13 k13 .int (2 : Int32) [(.int 0), (.int 0)] (.int 0) ∧ h0.size ≤ b9 ∧ Exa Z h b9 "[J" ∧ Arv Z h b9 k9 .long (2 : Int32) [(.long 0), (.long 0)] (.long 0) ∧ h0.size ≤ b5 ∧ Exa Z h b5 "[F" ∧ Arv Z h b5 k5 .float (2 : Int32) [(.float 0), (.float 0)] (.float 0) ∧ b13 ≠ b9 ∧ b13 ≠ b5 ∧ b9 ≠ b5
-- ef_b11dd1
theorem rm19 (l : Launch) (Z : State) (a0 : Array Value) (hw : HW a0 Z) (ws : List Jvm.Cond) (a1 : Addr) (h0 : Heap) (n0 : Nat) (Z0 : n0 ≤ h0.size) (F_depth_a1 : Fld Z h0 a1 kT "depth" "I" (.int 0)) (E_a1 : Exa Z h0 a1 kT) (g_a1 : n0 ≤ a1) (F_scoresAsRead_a1 : Fld Z h0 a1 kT "scoresAsRead" "[F" .null) (F_scores_a1 : Fld Z h0 a1 kT "scores" "[J" .null) (F_ordinals_a1 : Fld Z h0 a1 kT "ordinals" "[I" .null) (F_size_a1 : Fld Z h0 a1 kT "size" "I" (.int 0)) :
    OwnMet l Z y_2 prog_25_method_1_code 3 none ws Rm19 #[(.ref a1), (.int 2)] h0 (Q19 Z a1 h0 n0) := by
  refine own_body (plainFor_of_name pn_1) (ef_b11dd1 a1) ?_
  intro p e s m below meth c s₁ hx hby hml hown hnm hret hZ X0 e0
  have N0 := Fr.nil n0
  obtain ⟨T2, X2, e2, st2⟩ := initO X0 hx hZ hown (w_11 hw) (w_12 hw) (w_13 hw) e0 (g := (mkF m 1 #[.val (.ref a1), .val (.int 2), .unset] [(.ref a1)])) rfl (by rw [hml]; rfl) rfl (hb hby d2_1) (by decide) (W := 0) (by show 2 * 0 + _ ≤ _; exact Nat.le_of_eq rfl) (by decide)
  obtain ⟨T3, h3, X3, e3, W3, st3⟩ := putF X2 hx hZ hown (host := "") (Or.inl (w_14 hw)) Via.refl e2 F_depth_a1 E_a1 (Or.inr ⟨(w_15 hw), rfl, hnm⟩) (w_6 hw) (ty := .int) (by decide) rfl rfl (g := (mkF m 6 #[.val (.ref a1), .val (.int 2), .unset] [(.int 2), (.ref a1)])) rfl rfl (hb hby d2_6)
  have s0 := (Keep.of_wr W3).1
  have N3 := Fr.snoc X3 N0 g_a1
  have Fw3 : Fld Z h3 a1 kT "depth" "I" (.int 2) := F_depth_a1.same W3
  have z1 := Nat.le_trans Z0 s0
  obtain ⟨_, T4, L4, X4, hQ4, st4⟩ := own_callS X3 hx hZ hown (y := y_1) (w_16 hw) (w_17 hw) (w_18 hw) (w_19 hw) (rm18 l Z a0 hw []  h3 n0 z1) e3 (Ls := #[.val (.ref a1), .val (.int 2), .unset]) (by rw [hml]; rfl) (argsL := [(.int 2), (.int 1024)]) (rest := []) (lenOf pd_1 rfl) (hb hby d2_13) (W := 0)
  obtain ⟨rfl, Nq4, e4⟩ := hQ4
  have N4 := Fr.app N3 Nq4
  obtain ⟨T5, h5, k5, X5, e5, E5, A5, B5, st5⟩ := newPE (aty := .float) X4 hx hZ (w_20 hw) e4 (g := (mkF m 19 #[.val (.ref a1), .val (.int 2), .val (.int 2)] [(.int 2), (.ref a1)])) rfl (hb hby d2_19) rfl (by decide) (cap := 2) (by decide) (by decide) (by decide) (by decide) (ad := "[F") (by decide)
  obtain ⟨b5, g5⟩ : ∃ z, z = h3.size := ⟨_, rfl⟩
  rw [← g5] at A5 B5 st5
  have s1 := E5.1
  have Vn5 : Arv Z h5 b5 k5 .float (2 : Int32) [(.float 0), (.float 0)] (.float 0) := (Arv.new A5 (by decide)).pad (pad_rep [] (.float 0) 2)
  have Ex6 := ((E_a1.wr W3).ext E5)
  have Fl7 := ((F_scoresAsRead_a1.other W3 (Or.inr (slot_ne (Or.inl (w_22 hw)) (Or.inr (w_15 hw)) (by decide) (t := (.array .float)) (t' := .int) (by decide) (by decide)))).ext E5)
  obtain ⟨T8, h8, X8, e8, W8, st8⟩ := putF X5 hx hZ hown (host := "") (Or.inl (w_21 hw)) Via.refl e5 Fl7 Ex6 (Or.inl (w_22 hw)) (w_6 hw) (ty := (.array .float)) (by decide) rfl rfl (g := (mkF m 21 #[.val (.ref a1), .val (.int 2), .val (.int 2)] [(.ref b5), (.ref a1)])) rfl rfl (hb hby d2_21)
  have s2 := (Keep.of_wr W8).1
  have N8 := Fr.snoc X8 N4 g_a1
  have Fw8 : Fld Z h8 a1 kT "scoresAsRead" "[F" (.ref b5) := Fl7.same W8
  obtain ⟨T9, h9, k9, X9, e9, E9, A9, B9, st9⟩ := newPE (aty := .long) X8 hx hZ (w_23 hw) e8 (g := (mkF m 26 #[.val (.ref a1), .val (.int 2), .val (.int 2)] [(.int 2), (.ref a1)])) rfl (hb hby d2_26) rfl (by decide) (cap := 2) (by decide) (by decide) (by decide) (by decide) (ad := "[J") (by decide)
  obtain ⟨b9, g9⟩ : ∃ z, z = h8.size := ⟨_, rfl⟩
  rw [← g9] at A9 B9 st9
  have s3 := E9.1
  have Vn9 : Arv Z h9 b9 k9 .long (2 : Int32) [(.long 0), (.long 0)] (.long 0) := (Arv.new A9 (by decide)).pad (pad_rep [] (.long 0) 2)
  have Ex10 := ((Ex6.wr W8).ext E9)
  have Fl11 := ((((F_scores_a1.other W3 (Or.inr (slot_ne (Or.inl (w_25 hw)) (Or.inr (w_15 hw)) (by decide) (t := (.array .long)) (t' := .int) (by decide) (by decide)))).ext E5).other W8 (Or.inr (slot_ne (Or.inl (w_25 hw)) (Or.inl (w_22 hw)) (by decide) (t := (.array .long)) (t' := (.array .float)) (by decide) (by decide)))).ext E9)
  obtain ⟨T12, h12, X12, e12, W12, st12⟩ := putF X9 hx hZ hown (host := "") (Or.inl (w_24 hw)) Via.refl e9 Fl11 Ex10 (Or.inl (w_25 hw)) (w_6 hw) (ty := (.array .long)) (by decide) rfl rfl (g := (mkF m 28 #[.val (.ref a1), .val (.int 2), .val (.int 2)] [(.ref b9), (.ref a1)])) rfl rfl (hb hby d2_28)
  have s4 := (Keep.of_wr W12).1
  have N12 := Fr.snoc X12 N8 g_a1
  have Fw12 : Fld Z h12 a1 kT "scores" "[J" (.ref b9) := Fl11.same W12
  obtain ⟨T13, h13, k13, X13, e13, E13, A13, B13, st13⟩ := newPE (aty := .int) X12 hx hZ (w_26 hw) e12 (g := (mkF m 33 #[.val (.ref a1), .val (.int 2), .val (.int 2)] [(.int 2), (.ref a1)])) rfl (hb hby d2_33) rfl (by decide) (cap := 2) (by decide) (by decide) (by decide) (by decide) (ad := "[I") (by decide)
  obtain ⟨b13, g13⟩ : ∃ z, z = h12.size := ⟨_, rfl⟩
  rw [← g13] at A13 B13 st13
  have s5 := E13.1
  have Vn13 : Arv Z h13 b13 k13 .int (2 : Int32) [(.int 0), (.int 0)] (.int 0) := (Arv.new A13 (by decide)).pad (pad_rep [] (.int 0) 2)
  have Ex14 := ((Ex10.wr W12).ext E13)
  have Fl15 := ((((((F_ordinals_a1.other W3 (Or.inr (slot_ne (Or.inl (w_28 hw)) (Or.inr (w_15 hw)) (by decide) (t := (.array .int)) (t' := .int) (by decide) (by decide)))).ext E5).other W8 (Or.inr (slot_ne (Or.inl (w_28 hw)) (Or.inl (w_22 hw)) (by decide) (t := (.array .int)) (t' := (.array .float)) (by decide) (by decide)))).ext E9).other W12 (Or.inr (slot_ne (Or.inl (w_28 hw)) (Or.inl (w_25 hw)) (by decide) (t := (.array .int)) (t' := (.array .long)) (by decide) (by decide)))).ext E13)
  obtain ⟨T16, h16, X16, e16, W16, st16⟩ := putF X13 hx hZ hown (host := "") (Or.inl (w_27 hw)) Via.refl e13 Fl15 Ex14 (Or.inl (w_28 hw)) (w_6 hw) (ty := (.array .int)) (by decide) rfl rfl (g := (mkF m 35 #[.val (.ref a1), .val (.int 2), .val (.int 2)] [(.ref b13), (.ref a1)])) rfl rfl (hb hby d2_35)
  have s6 := (Keep.of_wr W16).1
  have N16 := Fr.snoc X16 N12 g_a1
  have Fw16 : Fld Z h16 a1 kT "ordinals" "[I" (.ref b13) := Fl15.same W16
  have Ex17 := (Ex14.wr W16)
  have Fl18 := ((((((Fw3.ext E5).other W8 (Or.inr (slot_ne (Or.inr (w_15 hw)) (Or.inl (w_22 hw)) (by decide) (t := .int) (t' := (.array .float)) (by decide) (by decide)))).ext E9).other W12 (Or.inr (slot_ne (Or.inr (w_15 hw)) (Or.inl (w_25 hw)) (by decide) (t := .int) (t' := (.array .long)) (by decide) (by decide)))).ext E13).other W16 (Or.inr (slot_ne (Or.inr (w_15 hw)) (Or.inl (w_28 hw)) (by decide) (t := .int) (t' := (.array .int)) (by decide) (by decide))))
  have Fl19 := ((Fw12.ext E13).other W16 (Or.inr (slot_ne (Or.inl (w_25 hw)) (Or.inl (w_28 hw)) (by decide) (t := (.array .long)) (t' := (.array .int)) (by decide) (by decide))))
  have Fl20 := ((((Fw8.ext E9).other W12 (Or.inr (slot_ne (Or.inl (w_22 hw)) (Or.inl (w_25 hw)) (by decide) (t := (.array .float)) (t' := (.array .long)) (by decide) (by decide)))).ext E13).other W16 (Or.inr (slot_ne (Or.inl (w_22 hw)) (Or.inl (w_28 hw)) (by decide) (t := (.array .float)) (t' := (.array .int)) (by decide) (by decide))))
  have Fl21 := (((((((F_size_a1.other W3 (Or.inr (slot_ne (Or.inl (w_35 hw)) (Or.inr (w_15 hw)) (by decide) (t := .int) (t' := .int) (by decide) (by decide)))).ext E5).other W8 (Or.inr (slot_ne (Or.inl (w_35 hw)) (Or.inl (w_22 hw)) (by decide) (t := .int) (t' := (.array .float)) (by decide) (by decide)))).ext E9).other W12 (Or.inr (slot_ne (Or.inl (w_35 hw)) (Or.inl (w_25 hw)) (by decide) (t := .int) (t' := (.array .long)) (by decide) (by decide)))).ext E13).other W16 (Or.inr (slot_ne (Or.inl (w_35 hw)) (Or.inl (w_28 hw)) (by decide) (t := .int) (t' := (.array .int)) (by decide) (by decide))))
  have sz_b13 : h0.size ≤ b13 := Nat.le_trans (Nat.le_trans (Nat.le_trans (Nat.le_trans (Nat.le_trans s0 s1) s2) s3) s4) (Nat.le_of_eq g13.symm)
  have Ex22 := (B13.wr W16)
  have ne_a1_b13 := Nat.ne_of_lt (Nat.lt_of_lt_of_le Fw12.lt (Nat.le_of_eq g13.symm))
  have Va23 := (Vn13.other W16 (Ne.symm ne_a1_b13))
  have sz_b9 : h0.size ≤ b9 := Nat.le_trans (Nat.le_trans (Nat.le_trans s0 s1) s2) (Nat.le_of_eq g9.symm)
  have Ex24 := (((B9.wr W12).ext E13).wr W16)
  have ne_a1_b9 := Nat.ne_of_lt (Nat.lt_of_lt_of_le Fw8.lt (Nat.le_of_eq g9.symm))
  have Va25 := (((Vn9.other W12 (Ne.symm ne_a1_b9)).ext E13).other W16 (Ne.symm ne_a1_b9))
  have sz_b5 : h0.size ≤ b5 := Nat.le_trans s0 (Nat.le_of_eq g5.symm)
  have Ex26 := (((((B5.wr W8).ext E9).wr W12).ext E13).wr W16)
  have ne_a1_b5 := Nat.ne_of_lt (Nat.lt_of_lt_of_le Fw3.lt (Nat.le_of_eq g5.symm))
  have Va27 := (((((Vn5.other W8 (Ne.symm ne_a1_b5)).ext E9).other W12 (Ne.symm ne_a1_b5)).ext E13).other W16 (Ne.symm ne_a1_b5))
  have ne_b9_b13 := Nat.ne_of_lt (Nat.lt_of_lt_of_le (Nat.lt_of_lt_of_le Vn9.lt s4) (Nat.le_of_eq g13.symm))
  have ne_b5_b13 := Nat.ne_of_lt (Nat.lt_of_lt_of_le (Nat.lt_of_lt_of_le Vn5.lt (Nat.le_trans (Nat.le_trans s2 s3) s4)) (Nat.le_of_eq g13.symm))
  have ne_b5_b9 := Nat.ne_of_lt (Nat.lt_of_lt_of_le (Nat.lt_of_lt_of_le Vn5.lt s2) (Nat.le_of_eq g9.symm))
  have Kp0 : Keep h0 h3 [a1] := (Keep.refl h0 [a1]).wr W3 (Or.inl (List.mem_of_getElem? (i := 0) rfl))
  have Kp1 : Keep h0 h5 [a1] := Kp0.ext E5
  have Kp2 : Keep h0 h8 [a1] := Kp1.wr W8 (Or.inl (List.mem_of_getElem? (i := 0) rfl))
  have Kp3 : Keep h0 h9 [a1] := Kp2.ext E9
  have Kp4 : Keep h0 h12 [a1] := Kp3.wr W12 (Or.inl (List.mem_of_getElem? (i := 0) rfl))
  have Kp5 : Keep h0 h13 [a1] := Kp4.ext E13
  have Kp6 : Keep h0 h16 [a1] := Kp5.wr W16 (Or.inl (List.mem_of_getElem? (i := 0) rfl))
  refine ⟨T16, _, _, _, none, X16, (fun _ => rfl), by decide, by decide, ?_, fun fs hr => ?_⟩
  · rw [e16]
    exact ⟨b13, k13, b9, k9, b5, k5, rfl, N16, Kp6, Ex17, Fl18, Fw16, Fl19, Fl20, Fl21, sz_b13, Ex22, Va23, sz_b9, Ex24, Va25, sz_b5, Ex26, Va27, (Ne.symm ne_b9_b13), (Ne.symm ne_b5_b13), (Ne.symm ne_b5_b9)⟩
  · refine XS.aloadN X0.here hx rfl (hb hby d2_0) rfl rfl ?_
    refine st2 _ ?_
    refine XS.aloadN X2.here hx rfl (hb hby d2_4) rfl rfl ?_
    refine XS.iloadN X2.here hx rfl (hb hby d2_5) rfl ?_
    refine st3 _ ?_
    refine XS.iloadN X3.here hx rfl (hb hby d2_9) rfl ?_
    refine XS.sipush X3.here hx rfl (hb hby d2_10) ?_
    refine st4 _ ?_
    refine XS.istoreN X4.here hx rfl (hb hby d2_16) rfl (l' := #[.val (.ref a1), .val (.int 2), .val (.int 2)]) rfl ?_
    refine XS.aloadN X4.here hx rfl (hb hby d2_17) rfl rfl ?_
    refine XS.iloadN X4.here hx rfl (hb hby d2_18) rfl ?_
    refine st5 _ ?_
    refine st8 _ ?_
    refine XS.aloadN X8.here hx rfl (hb hby d2_24) rfl rfl ?_
    refine XS.iloadN X8.here hx rfl (hb hby d2_25) rfl ?_
    refine st9 _ ?_
    refine st12 _ ?_
    refine XS.aloadN X12.here hx rfl (hb hby d2_31) rfl rfl ?_
    refine XS.iloadN X12.here hx rfl (hb hby d2_32) rfl ?_
    refine st13 _ ?_
    refine st16 _ ?_
    exact X16.returnOut hx hret (hb hby d2_38) hr
-- com/example/senret/senret/TopSentences.lowestAdmitted()F
abbrev Rm20 : Room := { frames := 0, cells := 0, slots := 0, locals := 0 }
def Q20 (Z : State) (a1 : Addr) (h0 : Heap) (n0 : Nat) (v : Option Value) (h : Heap) (L : List Loc) : Prop := v = some (.float 4286578688) ∧ Fr n0 L ∧ h = h0
-- ef_26f21a
theorem rm20 (l : Launch) (Z : State) (a0 : Array Value) (hw : HW a0 Z) (ws : List Jvm.Cond) (a1 : Addr) (h0 : Heap) (n0 : Nat) (Z0 : n0 ≤ h0.size) (F_size_a1 : Fld Z h0 a1 kT "size" "I" (.int 0)) (F_depth_a1 : Fld Z h0 a1 kT "depth" "I" (.int 2)) :
    OwnMet l Z y_3 prog_25_method_3_code 1 (some .float) ws Rm20 #[(.ref a1)] h0 (Q20 Z a1 h0 n0) := by
  refine own_body (plainFor_of_name pn_1) (ef_26f21a a1) ?_
  intro p e s m below meth c s₁ hx hby hml hown hnm hret hZ X0 e0
  have N0 := Fr.nil n0
  obtain ⟨T2, X2, e2, st2⟩ := getF X0 hx hZ hown (host := "") (Or.inl (w_34 hw)) Via.refl e0 F_size_a1 (g := (mkF m 1 #[.val (.ref a1)] [(.ref a1)])) rfl rfl (hb hby d5_1)
  obtain ⟨T3, X3, e3, st3⟩ := getF X2 hx hZ hown (host := "") (Or.inl (w_14 hw)) Via.refl e2 F_depth_a1 (g := (mkF m 5 #[.val (.ref a1)] [(.ref a1), (.int 0)])) rfl rfl (hb hby d5_5)
  refine ⟨T3, _, _, _, (some (.float 4286578688)), X3, nofun, by decide, by decide, ?_, fun fs hr => ?_⟩
  · rw [e3]
    exact ⟨rfl, N0, rfl⟩
  · refine XS.aloadN X0.here hx rfl (hb hby d5_0) rfl rfl ?_
    refine st2 _ ?_
    refine XS.aloadN X2.here hx rfl (hb hby d5_4) rfl rfl ?_
    refine st3 _ ?_
    refine XS.icmpNo X3.here hx rfl (hb hby d5_8) rfl (tlt ((by decide : (0 : Int32) < (2 : Int32)) : (0 : Int32) < (2 : Int32))).2.1 ?_
    refine X3.ldcFloatC hx hown (mvT hZ (w_36 hw)) (g := (mkF m 11 #[.val (.ref a1)] [])) rfl (hb hby d5_11) _ ?_
    refine XS.goto X3.here hx rfl (pc0 := 13) (pc' := 22) rfl (hb hby d5_13) (by decide) (by decide) ?_
    exact retOut X3 hx hret rfl (Or.inr (Or.inr (Or.inr (Or.inl ⟨rfl, rfl, _, rfl⟩)))) (hb hby d5_22) hr
-- com/example/senret/senret/TopSentences.grow()V
abbrev Rm21 : Room := { frames := 0, cells := 0, slots := 0, locals := 0 }
def Q21 (Z : State) (a1 : Addr) (a3 : Addr) (k5 : ClassId) (h0 : Heap) (n0 : Nat) (v : Option Value) (h : Heap) (L : List Loc) : Prop := v = none ∧ Fr n0 L ∧ h = h0
-- ef_692380
theorem rm21 (l : Launch) (Z : State) (a0 : Array Value) (hw : HW a0 Z) (ws : List Jvm.Cond) (a1 : Addr) (a3 : Addr) (k5 : ClassId) (h0 : Heap) (n0 : Nat) (Z0 : n0 ≤ h0.size) (F_size_a1 : Fld Z h0 a1 kT "size" "I" (.int 0)) (F_scores_a1 : Fld Z h0 a1 kT "scores" "[J" (.ref a3)) (V_a3 : Arv Z h0 a3 k5 .long (2 : Int32) [(.long 0), (.long 0)] (.long 0)) :
    OwnMet l Z y_4 prog_25_method_7_code 2 none ws Rm21 #[(.ref a1)] h0 (Q21 Z a1 a3 k5 h0 n0) := by
  refine own_body (plainFor_of_name pn_1) (ef_692380 a1) ?_
  intro p e s m below meth c s₁ hx hby hml hown hnm hret hZ X0 e0
  have N0 := Fr.nil n0
  obtain ⟨T2, X2, e2, st2⟩ := getF X0 hx hZ hown (host := "") (Or.inl (w_34 hw)) Via.refl e0 F_size_a1 (g := (mkF m 1 #[.val (.ref a1), .unset] [(.ref a1)])) rfl rfl (hb hby d7_1)
  obtain ⟨T4, X4, e4, st4⟩ := getF X2 hx hZ hown (host := "") (Or.inl (w_24 hw)) Via.refl e2 F_scores_a1 (g := (mkF m 5 #[.val (.ref a1), .unset] [(.ref a1), (.int 0)])) rfl rfl (hb hby d7_5)
  obtain ⟨cl6, Ar6, q6, S6, M6, Hs6, G6⟩ := id V_a3
  refine ⟨T4, _, _, _, none, X4, (fun _ => rfl), by decide, by decide, ?_, fun fs hr => ?_⟩
  · rw [e4]
    exact ⟨rfl, N0, rfl⟩
  · refine XS.aloadN X0.here hx rfl (hb hby d7_0) rfl rfl ?_
    refine st2 _ ?_
    refine XS.aloadN X2.here hx rfl (hb hby d7_4) rfl rfl ?_
    refine st4 _ ?_
    refine X4.arraylength hx (by rw [e4]; exact Ar6.1) (State.isArrayOf_alike hZ.alike Ar6.2.1) (g := (mkF m 8 #[.val (.ref a1), .unset] [(.ref a3), (.int 0)])) rfl rfl (hb hby d7_8) _ ?_
    show Steps p.tables e below (T4.setTop (mkF m 9 #[.val (.ref a1), .unset] [(.int cl6.slots.size.toInt32), (.int 0)])) _
    rw [len_of S6 M6]
    refine XS.icmpYes X4.here hx rfl (pc0 := 9) (pc' := 68) rfl (hb hby d7_9) rfl (feq ((by decide : ¬ ((0 : Int32) = (2 : Int32))) : ¬ ((0 : Int32) = (2 : Int32)))).2 (by decide) (by decide) ?_
    exact X4.returnOut hx hret (hb hby d7_68) hr
-- com/example/senret/senret/TopSentences.put(IFJI)V
abbrev Rm22 : Room := { frames := 0, cells := 0, slots := 0, locals := 0 }
def Q22 (Z : State) (a1 : Addr) (f2 : UInt32) (q3 : Int64) (p4 : Int32) (a5 : Addr) (k7 : ClassId) (a11 : Addr) (k14 : ClassId) (a19 : Addr) (k22 : ClassId) (h0 : Heap) (n0 : Nat) (v : Option Value) (h : Heap) (L : List Loc) : Prop := v = none ∧ Fr n0 L ∧ Keep h0 h [a5, a11, a19] ∧ Exa Z h a5 "[F" ∧ Arv Z h a5 k7 .float (2 : Int32) [(.float f2), (.float 0)] (.float 0) ∧ Exa Z h a11 "[J" ∧ Arv Z h a11 k14 .long (2 : Int32) [(.long q3), (.long 0)] (.long 0) ∧ Exa Z h a19 "[I" ∧ Arv Z h a19 k22 .int (2 : Int32) [(.int p4), (.int 0)] (.int 0)
-- ef_bf04c5
theorem rm22 (l : Launch) (Z : State) (a0 : Array Value) (hw : HW a0 Z) (ws : List Jvm.Cond) (a1 : Addr) (f2 : UInt32) (q3 : Int64) (p4 : Int32) (a5 : Addr) (k7 : ClassId) (a11 : Addr) (k14 : ClassId) (a19 : Addr) (k22 : ClassId) (h0 : Heap) (n0 : Nat) (Z0 : n0 ≤ h0.size) (F_scoresAsRead_a1 : Fld Z h0 a1 kT "scoresAsRead" "[F" (.ref a5)) (V_a5 : Arv Z h0 a5 k7 .float (2 : Int32) [(.float 0), (.float 0)] (.float 0)) (g_a5 : n0 ≤ a5) (F_scores_a1 : Fld Z h0 a1 kT "scores" "[J" (.ref a11)) (ne_a1_a5 : a1 ≠ a5) (V_a11 : Arv Z h0 a11 k14 .long (2 : Int32) [(.long 0), (.long 0)] (.long 0)) (ne_a11_a5 : a11 ≠ a5) (g_a11 : n0 ≤ a11) (F_ordinals_a1 : Fld Z h0 a1 kT "ordinals" "[I" (.ref a19)) (ne_a1_a11 : a1 ≠ a11) (V_a19 : Arv Z h0 a19 k22 .int (2 : Int32) [(.int 0), (.int 0)] (.int 0)) (ne_a19_a5 : a19 ≠ a5) (ne_a19_a11 : a19 ≠ a11) (g_a19 : n0 ≤ a19) (E_a5 : Exa Z h0 a5 "[F") (E_a11 : Exa Z h0 a11 "[J") (E_a19 : Exa Z h0 a19 "[I") :
    OwnMet l Z y_5 prog_25_method_11_code 6 none ws Rm22 #[(.ref a1), (.int 0), (.float f2), (.long q3), (.int p4)] h0 (Q22 Z a1 f2 q3 p4 a5 k7 a11 k14 a19 k22 h0 n0) := by
  refine own_body (plainFor_of_name pn_1) (ef_bf04c5 a1 f2 q3 p4) ?_
  intro p e s m below meth c s₁ hx hby hml hown hnm hret hZ X0 e0
  have N0 := Fr.nil n0
  obtain ⟨T6, X6, e6, st6⟩ := getF X0 hx hZ hown (host := "") (Or.inl (w_21 hw)) Via.refl e0 F_scoresAsRead_a1 (g := (mkF m 1 #[.val (.ref a1), .val (.int 0), .val (.float f2), .val (.long q3), .second, .val (.int p4)] [(.ref a1)])) rfl rfl (hb hby d9_1)
  obtain ⟨cl8, Ar8, q8, S8, M8, Hs8, G8⟩ := id V_a5
  have hin9 : ¬ ((0 : Int32) < 0 ∨ cl8.slots.size ≤ ((0 : Int32)).toNatClampNeg) := inb_of S8 ⟨(by decide : ¬ ((0 : Int32) < (0 : Int32))), (by decide : (0 : Int32) < (2 : Int32))⟩
  obtain ⟨T10, h10, X10, e10, W10, st10⟩ := stF X6 hx hZ e6 Ar8 (j := (0 : Int32)) hin9 (g := (mkF m 6 #[.val (.ref a1), .val (.int 0), .val (.float f2), .val (.long q3), .second, .val (.int p4)] [(.float f2), (.int 0), (.ref a5)])) rfl rfl (hb hby d9_6)
  have s0 := (Keep.of_wr W10).1
  have N10 := Fr.snoc X10 N0 g_a5
  have Vs10 : Arv Z h10 a5 k7 .float (2 : Int32) [(.float f2), (.float 0)] (.float 0) := Arv.set Ar8 q8 S8 M8 Hs8 G8 rfl W10 0 rfl (Nat.le_of_ble_eq_true rfl)
  have Fl12 := (F_scores_a1.other W10 (Or.inl ne_a1_a5))
  obtain ⟨T13, X13, e13, st13⟩ := getF X10 hx hZ hown (host := "") (Or.inl (w_24 hw)) Via.refl e10 Fl12 (g := (mkF m 8 #[.val (.ref a1), .val (.int 0), .val (.float f2), .val (.long q3), .second, .val (.int p4)] [(.ref a1)])) rfl rfl (hb hby d9_8)
  have Va15 := (V_a11.other W10 ne_a11_a5)
  obtain ⟨cl16, Ar16, q16, S16, M16, Hs16, G16⟩ := id Va15
  have hin17 : ¬ ((0 : Int32) < 0 ∨ cl16.slots.size ≤ ((0 : Int32)).toNatClampNeg) := inb_of S16 ⟨(by decide : ¬ ((0 : Int32) < (0 : Int32))), (by decide : (0 : Int32) < (2 : Int32))⟩
  obtain ⟨T18, h18, X18, e18, W18, st18⟩ := stJ X13 hx hZ e13 Ar16 (j := (0 : Int32)) hin17 (g := (mkF m 13 #[.val (.ref a1), .val (.int 0), .val (.float f2), .val (.long q3), .second, .val (.int p4)] [(.long q3), (.int 0), (.ref a11)])) rfl rfl (hb hby d9_13)
  have s1 := (Keep.of_wr W18).1
  have N18 := Fr.snoc X18 N10 g_a11
  have Vs18 : Arv Z h18 a11 k14 .long (2 : Int32) [(.long q3), (.long 0)] (.long 0) := Arv.set Ar16 q16 S16 M16 Hs16 G16 rfl W18 0 rfl (Nat.le_of_ble_eq_true rfl)
  have Fl20 := ((F_ordinals_a1.other W10 (Or.inl ne_a1_a5)).other W18 (Or.inl ne_a1_a11))
  obtain ⟨T21, X21, e21, st21⟩ := getF X18 hx hZ hown (host := "") (Or.inl (w_27 hw)) Via.refl e18 Fl20 (g := (mkF m 15 #[.val (.ref a1), .val (.int 0), .val (.float f2), .val (.long q3), .second, .val (.int p4)] [(.ref a1)])) rfl rfl (hb hby d9_15)
  have Va23 := ((V_a19.other W10 ne_a19_a5).other W18 ne_a19_a11)
  obtain ⟨cl24, Ar24, q24, S24, M24, Hs24, G24⟩ := id Va23
  have hin25 : ¬ ((0 : Int32) < 0 ∨ cl24.slots.size ≤ ((0 : Int32)).toNatClampNeg) := inb_of S24 ⟨(by decide : ¬ ((0 : Int32) < (0 : Int32))), (by decide : (0 : Int32) < (2 : Int32))⟩
  obtain ⟨T26, h26, X26, e26, W26, st26⟩ := stI X21 hx hZ e21 Ar24 (j := (0 : Int32)) hin25 (g := (mkF m 21 #[.val (.ref a1), .val (.int 0), .val (.float f2), .val (.long q3), .second, .val (.int p4)] [(.int p4), (.int 0), (.ref a19)])) rfl rfl (hb hby d9_21)
  have s2 := (Keep.of_wr W26).1
  have N26 := Fr.snoc X26 N18 g_a19
  have Vs26 : Arv Z h26 a19 k22 .int (2 : Int32) [(.int p4), (.int 0)] (.int 0) := Arv.set Ar24 q24 S24 M24 Hs24 G24 rfl W26 0 rfl (Nat.le_of_ble_eq_true rfl)
  have Ex27 := (((E_a5.wr W10).wr W18).wr W26)
  have Va28 := ((Vs10.other W18 (Ne.symm ne_a11_a5)).other W26 (Ne.symm ne_a19_a5))
  have Ex29 := (((E_a11.wr W10).wr W18).wr W26)
  have Va30 := (Vs18.other W26 (Ne.symm ne_a19_a11))
  have Ex31 := (((E_a19.wr W10).wr W18).wr W26)
  have Kp0 : Keep h0 h10 [a5, a11, a19] := (Keep.refl h0 [a5, a11, a19]).wr W10 (Or.inl (List.mem_of_getElem? (i := 0) rfl))
  have Kp1 : Keep h0 h18 [a5, a11, a19] := Kp0.wr W18 (Or.inl (List.mem_of_getElem? (i := 1) rfl))
  have Kp2 : Keep h0 h26 [a5, a11, a19] := Kp1.wr W26 (Or.inl (List.mem_of_getElem? (i := 2) rfl))
  refine ⟨T26, _, _, _, none, X26, (fun _ => rfl), by decide, by decide, ?_, fun fs hr => ?_⟩
  · rw [e26]
    exact ⟨rfl, N26, Kp2, Ex27, Va28, Ex29, Va30, Ex31, Vs26⟩
  · refine XS.aloadN X0.here hx rfl (hb hby d9_0) rfl rfl ?_
    refine st6 _ ?_
    refine XS.iloadN X6.here hx rfl (hb hby d9_4) rfl ?_
    refine XS.floadN X6.here hx rfl (hb hby d9_5) rfl ?_
    refine st10 _ ?_
    refine XS.aloadN X10.here hx rfl (hb hby d9_7) rfl rfl ?_
    refine st13 _ ?_
    refine XS.iloadN X13.here hx rfl (hb hby d9_11) rfl ?_
    refine XS.lloadN X13.here hx rfl (hb hby d9_12) rfl ?_
    refine st18 _ ?_
    refine XS.aloadN X18.here hx rfl (hb hby d9_14) rfl rfl ?_
    refine st21 _ ?_
    refine XS.iloadN X21.here hx rfl (hb hby d9_18) rfl ?_
    refine XS.iload X21.here hx rfl (hb hby d9_19) rfl ?_
    refine st26 _ ?_
    exact X26.returnOut hx hret (hb hby d9_22) hr
-- com/example/senret/senret/TopSentences.siftUp(IFJI)V
abbrev Rm23 : Room := { frames := 1, cells := 0, slots := 0, locals := 17 }
def Q23 (Z : State) (a1 : Addr) (f2 : UInt32) (q3 : Int64) (p4 : Int32) (a5 : Addr) (k6 : ClassId) (a7 : Addr) (k8 : ClassId) (a9 : Addr) (k10 : ClassId) (h0 : Heap) (n0 : Nat) (v : Option Value) (h : Heap) (L : List Loc) : Prop := v = none ∧ Fr n0 L ∧ Keep h0 h [a5, a7, a9] ∧ Exa Z h a5 "[F" ∧ Arv Z h a5 k6 .float (2 : Int32) [(.float f2), (.float 0)] (.float 0) ∧ Exa Z h a7 "[J" ∧ Arv Z h a7 k8 .long (2 : Int32) [(.long q3), (.long 0)] (.long 0) ∧ Exa Z h a9 "[I" ∧ Arv Z h a9 k10 .int (2 : Int32) [(.int p4), (.int 0)] (.int 0)
-- ef_b865c2
theorem rm23 (l : Launch) (Z : State) (a0 : Array Value) (hw : HW a0 Z) (ws : List Jvm.Cond) (a1 : Addr) (f2 : UInt32) (q3 : Int64) (p4 : Int32) (a5 : Addr) (k6 : ClassId) (a7 : Addr) (k8 : ClassId) (a9 : Addr) (k10 : ClassId) (h0 : Heap) (n0 : Nat) (Z0 : n0 ≤ h0.size) (F_scoresAsRead_a1 : Fld Z h0 a1 kT "scoresAsRead" "[F" (.ref a5)) (V_a5 : Arv Z h0 a5 k6 .float (2 : Int32) [(.float 0), (.float 0)] (.float 0)) (g_a5 : n0 ≤ a5) (F_scores_a1 : Fld Z h0 a1 kT "scores" "[J" (.ref a7)) (ne_a1_a5 : a1 ≠ a5) (V_a7 : Arv Z h0 a7 k8 .long (2 : Int32) [(.long 0), (.long 0)] (.long 0)) (ne_a7_a5 : a7 ≠ a5) (g_a7 : n0 ≤ a7) (F_ordinals_a1 : Fld Z h0 a1 kT "ordinals" "[I" (.ref a9)) (ne_a1_a7 : a1 ≠ a7) (V_a9 : Arv Z h0 a9 k10 .int (2 : Int32) [(.int 0), (.int 0)] (.int 0)) (ne_a9_a5 : a9 ≠ a5) (ne_a9_a7 : a9 ≠ a7) (g_a9 : n0 ≤ a9) (E_a5 : Exa Z h0 a5 "[F") (E_a7 : Exa Z h0 a7 "[J") (E_a9 : Exa Z h0 a9 "[I") (E_a1 : Exa Z h0 a1 kT) :
    OwnMet l Z y_6 prog_25_method_8_code 8 none ws Rm23 #[(.ref a1), (.int 0), (.float f2), (.long q3), (.int p4)] h0 (Q23 Z a1 f2 q3 p4 a5 k6 a7 k8 a9 k10 h0 n0) := by
  refine own_body (plainFor_of_name pn_1) (ef_b865c2 a1 f2 q3 p4) ?_
  intro p e s m below meth c s₁ hx hby hml hown hnm hret hZ X0 e0
  have N0 := Fr.nil n0
  obtain ⟨_, T11, L11, X11, hQ11, st11⟩ := own_private X0 hx hZ hown (y := y_5) E_a1 (w_52 hw) (w_53 hw) (Jvm.Kit.selects_private (by decide) (mvT hZ (w_6 hw)) (mvP hZ (w_54 hw)) (mvT hZ (w_53 hw))) (w_54 hw) (w_7 hw) (w_55 hw) (rm22 l Z a0 hw [] a1 f2 q3 p4 a5 k6 a7 k8 a9 k10 h0 n0 Z0 F_scoresAsRead_a1 V_a5 g_a5 F_scores_a1 ne_a1_a5 V_a7 ne_a7_a5 g_a7 F_ordinals_a1 ne_a1_a7 V_a9 ne_a9_a5 ne_a9_a7 g_a9 E_a5 E_a7 E_a9) e0 (Ls := #[.val (.ref a1), .val (.int 0), .val (.float f2), .val (.long q3), .second, .val (.int p4), .val (.int 0), .unset]) (by rw [hml]; rfl) (argsL := [(.int 0), (.float f2), (.long q3), (.int p4)]) (rest := []) (lenOf pd_5 rfl) (hb hby d8_64) (W := 0)
  obtain ⟨rfl, Nq11, K11, o11_0, o11_1, o11_2, o11_3, o11_4, o11_5⟩ := hQ11
  have N11 := Fr.app N0 Nq11
  have s0 := K11.1
  have Kp0 : Keep h0 T11.heap [a5, a7, a9] := (Keep.refl h0 [a5, a7, a9]).trans K11 (allS (Or.inl (List.mem_of_getElem? (i := 0) rfl)) (allS (Or.inl (List.mem_of_getElem? (i := 1) rfl)) (allS (Or.inl (List.mem_of_getElem? (i := 2) rfl)) all0)))
  refine ⟨T11, _, _, _, none, X11, (fun _ => rfl), by decide, by decide, ?_, fun fs hr => ?_⟩
  · exact ⟨rfl, N11, Kp0, o11_0, o11_1, o11_2, o11_3, o11_4, o11_5⟩
  · refine XS.iloadN X0.here hx rfl (hb hby d8_0) rfl ?_
    refine XS.istore X0.here hx rfl (hb hby d8_1) rfl (l' := #[.val (.ref a1), .val (.int 0), .val (.float f2), .val (.long q3), .second, .val (.int p4), .val (.int 0), .unset]) rfl ?_
    refine XS.iload X0.here hx rfl (hb hby d8_3) rfl ?_
    refine XS.ifYes X0.here hx rfl (pc0 := 5) (pc' := 57) rfl (hb hby d8_5) rfl ((if0 _ _).trans (flt ((by decide : ¬ ((0 : Int32) < (0 : Int32))) : ¬ ((0 : Int32) < (0 : Int32)))).2.2.2) (by decide) (by decide) ?_
    refine XS.aloadN X0.here hx rfl (hb hby d8_57) rfl rfl ?_
    refine XS.iload X0.here hx rfl (hb hby d8_58) rfl ?_
    refine XS.floadN X0.here hx rfl (hb hby d8_60) rfl ?_
    refine XS.lloadN X0.here hx rfl (hb hby d8_61) rfl ?_
    refine XS.iload X0.here hx rfl (hb hby d8_62) rfl ?_
    refine st11 _ ?_
    exact X11.returnOut hx hret (hb hby d8_67) hr
-- com/example/senret/senret/TopSentences.offer(JI)V
abbrev Rm24 : Room := { frames := 2, cells := 0, slots := 0, locals := 36 }
def Q24 (Z : State) (a1 : Addr) (q2 : Int64) (p3 : Int32) (a7 : Addr) (k8 : ClassId) (a13 : Addr) (k16 : ClassId) (a20 : Addr) (k22 : ClassId) (h0 : Heap) (n0 : Nat) (v : Option Value) (h : Heap) (L : List Loc) : Prop := v = none ∧ Fr n0 L ∧ Keep h0 h [a1, a13, a7, a20] ∧ Exa Z h a1 kT ∧ Fld Z h a1 kT "depth" "I" (.int 2) ∧ Fld Z h a1 kT "ordinals" "[I" (.ref a20) ∧ Fld Z h a1 kT "scores" "[J" (.ref a7) ∧ Fld Z h a1 kT "scoresAsRead" "[F" (.ref a13) ∧ Fld Z h a1 kT "size" "I" (.int 1) ∧ Exa Z h a13 "[F" ∧ Arv Z h a13 k16 .float (2 : Int32) [(.float (sC q2)), (.float 0)] (.float 0) ∧ Exa Z h a7 "[J" ∧ Arv Z h a7 k8 .long (2 : Int32) [(.long q2), (.long 0)] (.long 0) ∧ Exa Z h a20 "[I" ∧ Arv Z h a20 k22 .int (2 : Int32) [(.int p3), (.int 0)] (.int 0)
-- ef_8cdad2
theorem rm24 (l : Launch) (Z : State) (a0 : Array Value) (hw : HW a0 Z) (ws : List Jvm.Cond) (a1 : Addr) (q2 : Int64) (p3 : Int32) (a7 : Addr) (k8 : ClassId) (a13 : Addr) (k16 : ClassId) (a20 : Addr) (k22 : ClassId) (h0 : Heap) (n0 : Nat) (Z0 : n0 ≤ h0.size) (F_size_a1 : Fld Z h0 a1 kT "size" "I" (.int 0)) (F_depth_a1 : Fld Z h0 a1 kT "depth" "I" (.int 2)) (F_scores_a1 : Fld Z h0 a1 kT "scores" "[J" (.ref a7)) (V_a7 : Arv Z h0 a7 k8 .long (2 : Int32) [(.long 0), (.long 0)] (.long 0)) (E_a1 : Exa Z h0 a1 kT) (g_a1 : n0 ≤ a1) (F_scoresAsRead_a1 : Fld Z h0 a1 kT "scoresAsRead" "[F" (.ref a13)) (V_a13 : Arv Z h0 a13 k16 .float (2 : Int32) [(.float 0), (.float 0)] (.float 0)) (ne_a13_a1 : a13 ≠ a1) (g_a13 : n0 ≤ a13) (ne_a7_a1 : a7 ≠ a1) (ne_a7_a13 : a7 ≠ a13) (g_a7 : n0 ≤ a7) (F_ordinals_a1 : Fld Z h0 a1 kT "ordinals" "[I" (.ref a20)) (V_a20 : Arv Z h0 a20 k22 .int (2 : Int32) [(.int 0), (.int 0)] (.int 0)) (ne_a20_a1 : a20 ≠ a1) (ne_a20_a13 : a20 ≠ a13) (ne_a20_a7 : a20 ≠ a7) (g_a20 : n0 ≤ a20) (E_a13 : Exa Z h0 a13 "[F") (E_a7 : Exa Z h0 a7 "[J") (E_a20 : Exa Z h0 a20 "[I") :
    OwnMet l Z y_7 prog_25_method_4_code 5 none ws Rm24 #[(.ref a1), (.long q2), (.int p3)] h0 (Q24 Z a1 q2 p3 a7 k8 a13 k16 a20 k22 h0 n0) := by
  refine own_body (plainFor_of_name pn_1) (ef_8cdad2 a1 q2 p3) ?_
  intro p e s m below meth c s₁ hx hby hml hown hnm hret hZ X0 e0
  have N0 := Fr.nil n0
  obtain ⟨_, T4, L4, X4, hQ4, st4⟩ := own_callS X0 hx hZ hown (y := y_0) (w_43 hw) (w_1 hw) (w_2 hw) (w_3 hw) (rm1 l Z a0 hw [] q2 h0 n0 Z0) e0 (Ls := #[.val (.ref a1), .val (.long q2), .second, .val (.int p3), .unset]) (by rw [hml]; rfl) (argsL := [(.long q2)]) (rest := []) (lenOf pd_0 rfl) (hb hby d6_1) (W := 0)
  obtain ⟨rfl, Nq4, e4⟩ := hQ4
  have N4 := Fr.app N0 Nq4
  obtain ⟨T5, X5, e5, st5⟩ := getF X4 hx hZ hown (host := "") (Or.inl (w_34 hw)) Via.refl e4 F_size_a1 (g := (mkF m 7 #[.val (.ref a1), .val (.long q2), .second, .val (.int p3), .val (.float (sC q2))] [(.ref a1)])) rfl rfl (hb hby d6_7)
  obtain ⟨T6, X6, e6, st6⟩ := getF X5 hx hZ hown (host := "") (Or.inl (w_14 hw)) Via.refl e5 F_depth_a1 (g := (mkF m 11 #[.val (.ref a1), .val (.long q2), .second, .val (.int p3), .val (.float (sC q2))] [(.ref a1), (.int 0)])) rfl rfl (hb hby d6_11)
  obtain ⟨_, T9, L9, X9, hQ9, st9⟩ := own_private X6 hx hZ hown (y := y_4) E_a1 (w_44 hw) (w_45 hw) (Jvm.Kit.selects_private (by decide) (mvT hZ (w_6 hw)) (mvP hZ (w_46 hw)) (mvT hZ (w_45 hw))) (w_46 hw) (w_7 hw) (w_47 hw) (rm21 l Z a0 hw [] a1 a7 k8 h0 n0 Z0 F_size_a1 F_scores_a1 V_a7) e6 (Ls := #[.val (.ref a1), .val (.long q2), .second, .val (.int p3), .val (.float (sC q2))]) (by rw [hml]; rfl) (argsL := []) (rest := []) (lenOf pd_4 rfl) (hb hby d6_18) (W := 0)
  obtain ⟨rfl, Nq9, e9⟩ := hQ9
  have N9 := Fr.app N4 Nq9
  obtain ⟨T10, X10, e10, st10⟩ := getF X9 hx hZ hown (host := "") (Or.inl (w_34 hw)) Via.refl e9 F_size_a1 (g := (mkF m 23 #[.val (.ref a1), .val (.long q2), .second, .val (.int p3), .val (.float (sC q2))] [(.ref a1), (.ref a1)])) rfl rfl (hb hby d6_23)
  obtain ⟨T11, h11, X11, e11, W11, st11⟩ := putF X10 hx hZ hown (host := "") (Or.inl (w_34 hw)) Via.refl e10 F_size_a1 E_a1 (Or.inl (w_35 hw)) (w_6 hw) (ty := .int) (by decide) rfl rfl (g := (mkF m 28 #[.val (.ref a1), .val (.long q2), .second, .val (.int p3), .val (.float (sC q2))] [(.int 1), (.ref a1)])) rfl rfl (hb hby d6_28)
  have s0 := (Keep.of_wr W11).1
  have N11 := Fr.snoc X11 N9 g_a1
  have Fw11 : Fld Z h11 a1 kT "size" "I" (.int 1) := F_size_a1.same W11
  obtain ⟨T12, X12, e12, st12⟩ := getF X11 hx hZ hown (host := "") (Or.inl (w_34 hw)) Via.refl e11 Fw11 (g := (mkF m 33 #[.val (.ref a1), .val (.long q2), .second, .val (.int p3), .val (.float (sC q2))] [(.ref a1), (.ref a1)])) rfl rfl (hb hby d6_33)
  have Ex14 := (E_a1.wr W11)
  have Fl15 := (F_scoresAsRead_a1.other W11 (Or.inr (slot_ne (Or.inl (w_22 hw)) (Or.inl (w_35 hw)) (by decide) (t := (.array .float)) (t' := .int) (by decide) (by decide))))
  have Va17 := (V_a13.other W11 ne_a13_a1)
  have Fl18 := (F_scores_a1.other W11 (Or.inr (slot_ne (Or.inl (w_25 hw)) (Or.inl (w_35 hw)) (by decide) (t := (.array .long)) (t' := .int) (by decide) (by decide))))
  have Va19 := (V_a7.other W11 ne_a7_a1)
  have Fl21 := (F_ordinals_a1.other W11 (Or.inr (slot_ne (Or.inl (w_28 hw)) (Or.inl (w_35 hw)) (by decide) (t := (.array .int)) (t' := .int) (by decide) (by decide))))
  have Va23 := (V_a20.other W11 ne_a20_a1)
  have Ex24 := (E_a13.wr W11)
  have Ex25 := (E_a7.wr W11)
  have Ex26 := (E_a20.wr W11)
  have z1 := Nat.le_trans Z0 s0
  obtain ⟨_, T27, L27, X27, hQ27, st27⟩ := own_private X12 hx hZ hown (y := y_6) Ex14 (w_48 hw) (w_49 hw) (Jvm.Kit.selects_private (by decide) (mvT hZ (w_6 hw)) (mvP hZ (w_50 hw)) (mvT hZ (w_49 hw))) (w_50 hw) (w_7 hw) (w_51 hw) (rm23 l Z a0 hw [] a1 (sC q2) q2 p3 a13 k16 a7 k8 a20 k22 h11 n0 z1 Fl15 Va17 g_a13 Fl18 (Ne.symm ne_a13_a1) Va19 ne_a7_a13 g_a7 Fl21 (Ne.symm ne_a7_a1) Va23 ne_a20_a13 ne_a20_a7 g_a20 Ex24 Ex25 Ex26 Ex14) e12 (Ls := #[.val (.ref a1), .val (.long q2), .second, .val (.int p3), .val (.float (sC q2))]) (by rw [hml]; rfl) (argsL := [(.int 0), (.float (sC q2)), (.long q2), (.int p3)]) (rest := []) (lenOf pd_5 rfl) (hb hby d6_42) (W := 0)
  obtain ⟨rfl, Nq27, K27, o27_0, o27_1, o27_2, o27_3, o27_4, o27_5⟩ := hQ27
  have N27 := Fr.app N11 Nq27
  have s1 := K27.1
  have Ex28 := (Ex14.keep K27)
  have Fl29 := ((F_depth_a1.other W11 (Or.inr (slot_ne (Or.inr (w_15 hw)) (Or.inl (w_35 hw)) (by decide) (t := .int) (t' := .int) (by decide) (by decide)))).keep K27 (ninS (Ne.symm ne_a13_a1) (ninS (Ne.symm ne_a7_a1) (ninS (Ne.symm ne_a20_a1) nin0))))
  have Fl30 := (Fl21.keep K27 (ninS (Ne.symm ne_a13_a1) (ninS (Ne.symm ne_a7_a1) (ninS (Ne.symm ne_a20_a1) nin0))))
  have Fl31 := (Fl18.keep K27 (ninS (Ne.symm ne_a13_a1) (ninS (Ne.symm ne_a7_a1) (ninS (Ne.symm ne_a20_a1) nin0))))
  have Fl32 := (Fl15.keep K27 (ninS (Ne.symm ne_a13_a1) (ninS (Ne.symm ne_a7_a1) (ninS (Ne.symm ne_a20_a1) nin0))))
  have Fl33 := (Fw11.keep K27 (ninS (Ne.symm ne_a13_a1) (ninS (Ne.symm ne_a7_a1) (ninS (Ne.symm ne_a20_a1) nin0))))
  have Kp0 : Keep h0 h11 [a1, a13, a7, a20] := (Keep.refl h0 [a1, a13, a7, a20]).wr W11 (Or.inl (List.mem_of_getElem? (i := 0) rfl))
  have Kp1 : Keep h0 T27.heap [a1, a13, a7, a20] := Kp0.trans K27 (allS (Or.inl (List.mem_of_getElem? (i := 1) rfl)) (allS (Or.inl (List.mem_of_getElem? (i := 2) rfl)) (allS (Or.inl (List.mem_of_getElem? (i := 3) rfl)) all0)))
  refine ⟨T27, _, _, _, none, X27, (fun _ => rfl), by decide, by decide, ?_, fun fs hr => ?_⟩
  · exact ⟨rfl, N27, Kp1, Ex28, Fl29, Fl30, Fl31, Fl32, Fl33, o27_0, o27_1, o27_2, o27_3, o27_4, o27_5⟩
  · refine XS.lloadN X0.here hx rfl (hb hby d6_0) rfl ?_
    refine st4 _ ?_
    refine XS.fstore X4.here hx rfl (hb hby d6_4) rfl (l' := #[.val (.ref a1), .val (.long q2), .second, .val (.int p3), .val (.float (sC q2))]) rfl ?_
    refine XS.aloadN X4.here hx rfl (hb hby d6_6) rfl rfl ?_
    refine st5 _ ?_
    refine XS.aloadN X5.here hx rfl (hb hby d6_10) rfl rfl ?_
    refine st6 _ ?_
    refine XS.icmpNo X6.here hx rfl (hb hby d6_14) rfl (tlt ((by decide : (0 : Int32) < (2 : Int32)) : (0 : Int32) < (2 : Int32))).2.1 ?_
    refine XS.aloadN X6.here hx rfl (hb hby d6_17) rfl rfl ?_
    refine st9 _ ?_
    refine XS.aloadN X9.here hx rfl (hb hby d6_21) rfl rfl ?_
    refine XS.dup X9.here hx rfl (hb hby d6_22) rfl rfl ?_
    refine st10 _ ?_
    refine XS.iconst X10.here hx rfl (hb hby d6_26) ?_
    refine XS.iadd X10.here hx rfl (hb hby d6_27) rfl ?_
    refine st11 _ ?_
    refine XS.aloadN X11.here hx rfl (hb hby d6_31) rfl rfl ?_
    refine XS.aloadN X11.here hx rfl (hb hby d6_32) rfl rfl ?_
    refine st12 _ ?_
    refine XS.iconst X12.here hx rfl (hb hby d6_36) ?_
    refine XS.isub X12.here hx rfl (hb hby d6_37) rfl ?_
    refine XS.fload X12.here hx rfl (hb hby d6_38) rfl ?_
    refine XS.lloadN X12.here hx rfl (hb hby d6_40) rfl ?_
    refine XS.iloadN X12.here hx rfl (hb hby d6_41) rfl ?_
    refine st27 _ ?_
    refine XS.goto X27.here hx rfl (pc0 := 45) (pc' := 77) rfl (hb hby d6_45) (by decide) (by decide) ?_
    exact X27.returnOut hx hret (hb hby d6_77) hr
-- com/example/senret/senret/TopSentences.lowestAdmitted()F
abbrev Rm25 : Room := { frames := 0, cells := 0, slots := 0, locals := 0 }
def Q25 (Z : State) (a1 : Addr) (h0 : Heap) (n0 : Nat) (v : Option Value) (h : Heap) (L : List Loc) : Prop := v = some (.float 4286578688) ∧ Fr n0 L ∧ h = h0
-- ef_26f21a
theorem rm25 (l : Launch) (Z : State) (a0 : Array Value) (hw : HW a0 Z) (ws : List Jvm.Cond) (a1 : Addr) (h0 : Heap) (n0 : Nat) (Z0 : n0 ≤ h0.size) (F_size_a1 : Fld Z h0 a1 kT "size" "I" (.int 1)) (F_depth_a1 : Fld Z h0 a1 kT "depth" "I" (.int 2)) :
    OwnMet l Z y_3 prog_25_method_3_code 1 (some .float) ws Rm25 #[(.ref a1)] h0 (Q25 Z a1 h0 n0) := by
  refine own_body (plainFor_of_name pn_1) (ef_26f21a a1) ?_
  intro p e s m below meth c s₁ hx hby hml hown hnm hret hZ X0 e0
  have N0 := Fr.nil n0
  obtain ⟨T2, X2, e2, st2⟩ := getF X0 hx hZ hown (host := "") (Or.inl (w_34 hw)) Via.refl e0 F_size_a1 (g := (mkF m 1 #[.val (.ref a1)] [(.ref a1)])) rfl rfl (hb hby d5_1)
  obtain ⟨T3, X3, e3, st3⟩ := getF X2 hx hZ hown (host := "") (Or.inl (w_14 hw)) Via.refl e2 F_depth_a1 (g := (mkF m 5 #[.val (.ref a1)] [(.ref a1), (.int 1)])) rfl rfl (hb hby d5_5)
  refine ⟨T3, _, _, _, (some (.float 4286578688)), X3, nofun, by decide, by decide, ?_, fun fs hr => ?_⟩
  · rw [e3]
    exact ⟨rfl, N0, rfl⟩
  · refine XS.aloadN X0.here hx rfl (hb hby d5_0) rfl rfl ?_
    refine st2 _ ?_
    refine XS.aloadN X2.here hx rfl (hb hby d5_4) rfl rfl ?_
    refine st3 _ ?_
    refine XS.icmpNo X3.here hx rfl (hb hby d5_8) rfl (tlt ((by decide : (1 : Int32) < (2 : Int32)) : (1 : Int32) < (2 : Int32))).2.1 ?_
    refine X3.ldcFloatC hx hown (mvT hZ (w_36 hw)) (g := (mkF m 11 #[.val (.ref a1)] [])) rfl (hb hby d5_11) _ ?_
    refine XS.goto X3.here hx rfl (pc0 := 13) (pc' := 22) rfl (hb hby d5_13) (by decide) (by decide) ?_
    exact retOut X3 hx hret rfl (Or.inr (Or.inr (Or.inr (Or.inl ⟨rfl, rfl, _, rfl⟩)))) (hb hby d5_22) hr
theorem d10_5 : decode method_3_code 5 = .ok (.ldc 24, 2) := by decide +kernel
theorem d10_7 : decode method_3_code 7 = .ok (.freturn, 1) := by decide +kernel
theorem ef_3a61a8 (f1 : UInt32) (f2 : UInt32) (f3 : UInt32) (m : MethodId) : entryFrame m #[(.int 2), (.int 1), (.float f1), (.float f2), (.float f3)] 5 = mkF m 0 #[.val (.int 2), .val (.int 1), .val (.float f1), .val (.float f2), .val (.float f3)] [] := by first | (simp [entryFrame, mkF, argsToLocals, Value.category]; done) | rfl
-- com/example/senret/senret/TopSentencesLowestAdmittedPinLaw.expected(IIFFF)F
abbrev Rm26 : Room := { frames := 0, cells := 0, slots := 0, locals := 0 }
def Q26 (Z : State) (f1 : UInt32) (f2 : UInt32) (f3 : UInt32) (h0 : Heap) (n0 : Nat) (v : Option Value) (h : Heap) (L : List Loc) : Prop := v = some (.float 4286578688) ∧ Fr n0 L ∧ h = h0
-- ef_3a61a8
theorem rm26 (l : Launch) (Z : State) (a0 : Array Value) (hw : HW a0 Z) (ws : List Jvm.Cond) (f1 : UInt32) (f2 : UInt32) (f3 : UInt32) (h0 : Heap) (n0 : Nat) (Z0 : n0 ≤ h0.size) :
    OwnMet l Z y_8 method_3_code 5 (some .float) ws Rm26 #[(.int 2), (.int 1), (.float f1), (.float f2), (.float f3)] h0 (Q26 Z f1 f2 f3 h0 n0) := by
  refine own_body (plainFor_of_name pn_2) (ef_3a61a8 f1 f2 f3) ?_
  intro p e s m below meth c s₁ hx hby hml hown hnm hret hZ X0 e0
  have N0 := Fr.nil n0
  refine ⟨s₁, _, _, _, (some (.float 4286578688)), X0, nofun, by decide, by decide, ?_, fun fs hr => ?_⟩
  · rw [e0]
    exact ⟨rfl, N0, rfl⟩
  · refine XS.iloadN X0.here hx rfl (hb hby d10_0) rfl ?_
    refine XS.iloadN X0.here hx rfl (hb hby d10_1) rfl ?_
    refine XS.icmpNo X0.here hx rfl (hb hby d10_2) rfl (tlt ((by decide : (1 : Int32) < (2 : Int32)) : (1 : Int32) < (2 : Int32))).2.1 ?_
    refine X0.ldcFloatC hx hown (mvT hZ (w_37 hw)) (g := (mkF m 5 #[.val (.int 2), .val (.int 1), .val (.float f1), .val (.float f2), .val (.float f3)] [])) rfl (hb hby d10_5) _ ?_
    exact retOut X0 hx hret rfl (Or.inr (Or.inr (Or.inr (Or.inl ⟨rfl, rfl, _, rfl⟩)))) (hb hby d10_7) hr
-- com/example/senret/senret/TopSentences.grow()V
abbrev Rm27 : Room := { frames := 0, cells := 0, slots := 0, locals := 0 }
def Q27 (Z : State) (a1 : Addr) (a3 : Addr) (q5 : Int64) (k6 : ClassId) (h0 : Heap) (n0 : Nat) (v : Option Value) (h : Heap) (L : List Loc) : Prop := v = none ∧ Fr n0 L ∧ h = h0
-- ef_692380
theorem rm27 (l : Launch) (Z : State) (a0 : Array Value) (hw : HW a0 Z) (ws : List Jvm.Cond) (a1 : Addr) (a3 : Addr) (q5 : Int64) (k6 : ClassId) (h0 : Heap) (n0 : Nat) (Z0 : n0 ≤ h0.size) (F_size_a1 : Fld Z h0 a1 kT "size" "I" (.int 1)) (F_scores_a1 : Fld Z h0 a1 kT "scores" "[J" (.ref a3)) (V_a3 : Arv Z h0 a3 k6 .long (2 : Int32) [(.long q5), (.long 0)] (.long 0)) :
    OwnMet l Z y_4 prog_25_method_7_code 2 none ws Rm27 #[(.ref a1)] h0 (Q27 Z a1 a3 q5 k6 h0 n0) := by
  refine own_body (plainFor_of_name pn_1) (ef_692380 a1) ?_
  intro p e s m below meth c s₁ hx hby hml hown hnm hret hZ X0 e0
  have N0 := Fr.nil n0
  obtain ⟨T2, X2, e2, st2⟩ := getF X0 hx hZ hown (host := "") (Or.inl (w_34 hw)) Via.refl e0 F_size_a1 (g := (mkF m 1 #[.val (.ref a1), .unset] [(.ref a1)])) rfl rfl (hb hby d7_1)
  obtain ⟨T4, X4, e4, st4⟩ := getF X2 hx hZ hown (host := "") (Or.inl (w_24 hw)) Via.refl e2 F_scores_a1 (g := (mkF m 5 #[.val (.ref a1), .unset] [(.ref a1), (.int 1)])) rfl rfl (hb hby d7_5)
  obtain ⟨cl7, Ar7, q7, S7, M7, Hs7, G7⟩ := id V_a3
  refine ⟨T4, _, _, _, none, X4, (fun _ => rfl), by decide, by decide, ?_, fun fs hr => ?_⟩
  · rw [e4]
    exact ⟨rfl, N0, rfl⟩
  · refine XS.aloadN X0.here hx rfl (hb hby d7_0) rfl rfl ?_
    refine st2 _ ?_
    refine XS.aloadN X2.here hx rfl (hb hby d7_4) rfl rfl ?_
    refine st4 _ ?_
    refine X4.arraylength hx (by rw [e4]; exact Ar7.1) (State.isArrayOf_alike hZ.alike Ar7.2.1) (g := (mkF m 8 #[.val (.ref a1), .unset] [(.ref a3), (.int 1)])) rfl rfl (hb hby d7_8) _ ?_
    show Steps p.tables e below (T4.setTop (mkF m 9 #[.val (.ref a1), .unset] [(.int cl7.slots.size.toInt32), (.int 1)])) _
    rw [len_of S7 M7]
    refine XS.icmpYes X4.here hx rfl (pc0 := 9) (pc' := 68) rfl (hb hby d7_9) rfl (feq ((by decide : ¬ ((1 : Int32) = (2 : Int32))) : ¬ ((1 : Int32) = (2 : Int32)))).2 (by decide) (by decide) ?_
    exact X4.returnOut hx hret (hb hby d7_68) hr
theorem d8_8 : decode prog_25_method_8_code 8 = .ok (.iload 6, 2) := by decide +kernel
theorem d8_10 : decode prog_25_method_8_code 10 = .ok (.iconst 1, 1) := by decide +kernel
theorem d8_11 : decode prog_25_method_8_code 11 = .ok (.isub, 1) := by decide +kernel
theorem d8_12 : decode prog_25_method_8_code 12 = .ok (.iconst 2, 1) := by decide +kernel
theorem d8_13 : decode prog_25_method_8_code 13 = .ok (.idiv, 1) := by decide +kernel
theorem d8_14 : decode prog_25_method_8_code 14 = .ok (.istore 7, 2) := by decide +kernel
theorem d8_16 : decode prog_25_method_8_code 16 = .ok (.fload_n 2, 1) := by decide +kernel
theorem d8_17 : decode prog_25_method_8_code 17 = .ok (.iload 5, 2) := by decide +kernel
theorem d8_19 : decode prog_25_method_8_code 19 = .ok (.aload_n 0, 1) := by decide +kernel
theorem d8_20 : decode prog_25_method_8_code 20 = .ok (.getfield 19, 3) := by decide +kernel
theorem d8_23 : decode prog_25_method_8_code 23 = .ok (.iload 7, 2) := by decide +kernel
theorem d8_25 : decode prog_25_method_8_code 25 = .ok (.faload, 1) := by decide +kernel
theorem d8_26 : decode prog_25_method_8_code 26 = .ok (.aload_n 0, 1) := by decide +kernel
theorem d8_27 : decode prog_25_method_8_code 27 = .ok (.getfield 27, 3) := by decide +kernel
theorem d8_30 : decode prog_25_method_8_code 30 = .ok (.iload 7, 2) := by decide +kernel
theorem d8_32 : decode prog_25_method_8_code 32 = .ok (.iaload, 1) := by decide +kernel
theorem d8_33 : decode prog_25_method_8_code 33 = .ok (.invokestatic 54, 3) := by decide +kernel
theorem d8_36 : decode prog_25_method_8_code 36 = .ok (.ifCond .ne 6, 3) := by decide +kernel
theorem d8_39 : decode prog_25_method_8_code 39 = .ok (.goto 18, 3) := by decide +kernel
theorem ef_ea78cb (a1 : Addr) (f2 : UInt32) (q3 : Int64) (p4 : Int32) (m : MethodId) : entryFrame m #[(.ref a1), (.int 1), (.float f2), (.long q3), (.int p4)] 6 = mkF m 0 #[.val (.ref a1), .val (.int 1), .val (.float f2), .val (.long q3), .second, .val (.int p4)] [] := by first | (simp [entryFrame, mkF, argsToLocals, Value.category]; done) | rfl
-- com/example/senret/senret/TopSentences.put(IFJI)V
abbrev Rm28 : Room := { frames := 0, cells := 0, slots := 0, locals := 0 }
def Q28 (Z : State) (a1 : Addr) (f2 : UInt32) (q3 : Int64) (p4 : Int32) (a5 : Addr) (f7 : UInt32) (k8 : ClassId) (a12 : Addr) (q15 : Int64) (k16 : ClassId) (a21 : Addr) (p24 : Int32) (k25 : ClassId) (h0 : Heap) (n0 : Nat) (v : Option Value) (h : Heap) (L : List Loc) : Prop := v = none ∧ Fr n0 L ∧ Keep h0 h [a5, a12, a21] ∧ Exa Z h a5 "[F" ∧ Arv Z h a5 k8 .float (2 : Int32) [(.float f7), (.float f2)] (.float 0) ∧ Exa Z h a12 "[J" ∧ Arv Z h a12 k16 .long (2 : Int32) [(.long q15), (.long q3)] (.long 0) ∧ Exa Z h a21 "[I" ∧ Arv Z h a21 k25 .int (2 : Int32) [(.int p24), (.int p4)] (.int 0)
-- ef_ea78cb
theorem rm28 (l : Launch) (Z : State) (a0 : Array Value) (hw : HW a0 Z) (ws : List Jvm.Cond) (a1 : Addr) (f2 : UInt32) (q3 : Int64) (p4 : Int32) (a5 : Addr) (f7 : UInt32) (k8 : ClassId) (a12 : Addr) (q15 : Int64) (k16 : ClassId) (a21 : Addr) (p24 : Int32) (k25 : ClassId) (h0 : Heap) (n0 : Nat) (Z0 : n0 ≤ h0.size) (F_scoresAsRead_a1 : Fld Z h0 a1 kT "scoresAsRead" "[F" (.ref a5)) (V_a5 : Arv Z h0 a5 k8 .float (2 : Int32) [(.float f7), (.float 0)] (.float 0)) (g_a5 : n0 ≤ a5) (F_scores_a1 : Fld Z h0 a1 kT "scores" "[J" (.ref a12)) (ne_a1_a5 : a1 ≠ a5) (V_a12 : Arv Z h0 a12 k16 .long (2 : Int32) [(.long q15), (.long 0)] (.long 0)) (ne_a12_a5 : a12 ≠ a5) (g_a12 : n0 ≤ a12) (F_ordinals_a1 : Fld Z h0 a1 kT "ordinals" "[I" (.ref a21)) (ne_a1_a12 : a1 ≠ a12) (V_a21 : Arv Z h0 a21 k25 .int (2 : Int32) [(.int p24), (.int 0)] (.int 0)) (ne_a21_a5 : a21 ≠ a5) (ne_a21_a12 : a21 ≠ a12) (g_a21 : n0 ≤ a21) (E_a5 : Exa Z h0 a5 "[F") (E_a12 : Exa Z h0 a12 "[J") (E_a21 : Exa Z h0 a21 "[I") :
    OwnMet l Z y_5 prog_25_method_11_code 6 none ws Rm28 #[(.ref a1), (.int 1), (.float f2), (.long q3), (.int p4)] h0 (Q28 Z a1 f2 q3 p4 a5 f7 k8 a12 q15 k16 a21 p24 k25 h0 n0) := by
  refine own_body (plainFor_of_name pn_1) (ef_ea78cb a1 f2 q3 p4) ?_
  intro p e s m below meth c s₁ hx hby hml hown hnm hret hZ X0 e0
  have N0 := Fr.nil n0
  obtain ⟨T6, X6, e6, st6⟩ := getF X0 hx hZ hown (host := "") (Or.inl (w_21 hw)) Via.refl e0 F_scoresAsRead_a1 (g := (mkF m 1 #[.val (.ref a1), .val (.int 1), .val (.float f2), .val (.long q3), .second, .val (.int p4)] [(.ref a1)])) rfl rfl (hb hby d9_1)
  obtain ⟨cl9, Ar9, q9, S9, M9, Hs9, G9⟩ := id V_a5
  have hin10 : ¬ ((1 : Int32) < 0 ∨ cl9.slots.size ≤ ((1 : Int32)).toNatClampNeg) := inb_of S9 ⟨(by decide : ¬ ((1 : Int32) < (0 : Int32))), (by decide : (1 : Int32) < (2 : Int32))⟩
  obtain ⟨T11, h11, X11, e11, W11, st11⟩ := stF X6 hx hZ e6 Ar9 (j := (1 : Int32)) hin10 (g := (mkF m 6 #[.val (.ref a1), .val (.int 1), .val (.float f2), .val (.long q3), .second, .val (.int p4)] [(.float f2), (.int 1), (.ref a5)])) rfl rfl (hb hby d9_6)
  have s0 := (Keep.of_wr W11).1
  have N11 := Fr.snoc X11 N0 g_a5
  have Vs11 : Arv Z h11 a5 k8 .float (2 : Int32) [(.float f7), (.float f2)] (.float 0) := Arv.set Ar9 q9 S9 M9 Hs9 G9 rfl W11 1 rfl (Nat.le_of_ble_eq_true rfl)
  have Fl13 := (F_scores_a1.other W11 (Or.inl ne_a1_a5))
  obtain ⟨T14, X14, e14, st14⟩ := getF X11 hx hZ hown (host := "") (Or.inl (w_24 hw)) Via.refl e11 Fl13 (g := (mkF m 8 #[.val (.ref a1), .val (.int 1), .val (.float f2), .val (.long q3), .second, .val (.int p4)] [(.ref a1)])) rfl rfl (hb hby d9_8)
  have Va17 := (V_a12.other W11 ne_a12_a5)
  obtain ⟨cl18, Ar18, q18, S18, M18, Hs18, G18⟩ := id Va17
  have hin19 : ¬ ((1 : Int32) < 0 ∨ cl18.slots.size ≤ ((1 : Int32)).toNatClampNeg) := inb_of S18 ⟨(by decide : ¬ ((1 : Int32) < (0 : Int32))), (by decide : (1 : Int32) < (2 : Int32))⟩
  obtain ⟨T20, h20, X20, e20, W20, st20⟩ := stJ X14 hx hZ e14 Ar18 (j := (1 : Int32)) hin19 (g := (mkF m 13 #[.val (.ref a1), .val (.int 1), .val (.float f2), .val (.long q3), .second, .val (.int p4)] [(.long q3), (.int 1), (.ref a12)])) rfl rfl (hb hby d9_13)
  have s1 := (Keep.of_wr W20).1
  have N20 := Fr.snoc X20 N11 g_a12
  have Vs20 : Arv Z h20 a12 k16 .long (2 : Int32) [(.long q15), (.long q3)] (.long 0) := Arv.set Ar18 q18 S18 M18 Hs18 G18 rfl W20 1 rfl (Nat.le_of_ble_eq_true rfl)
  have Fl22 := ((F_ordinals_a1.other W11 (Or.inl ne_a1_a5)).other W20 (Or.inl ne_a1_a12))
  obtain ⟨T23, X23, e23, st23⟩ := getF X20 hx hZ hown (host := "") (Or.inl (w_27 hw)) Via.refl e20 Fl22 (g := (mkF m 15 #[.val (.ref a1), .val (.int 1), .val (.float f2), .val (.long q3), .second, .val (.int p4)] [(.ref a1)])) rfl rfl (hb hby d9_15)
  have Va26 := ((V_a21.other W11 ne_a21_a5).other W20 ne_a21_a12)
  obtain ⟨cl27, Ar27, q27, S27, M27, Hs27, G27⟩ := id Va26
  have hin28 : ¬ ((1 : Int32) < 0 ∨ cl27.slots.size ≤ ((1 : Int32)).toNatClampNeg) := inb_of S27 ⟨(by decide : ¬ ((1 : Int32) < (0 : Int32))), (by decide : (1 : Int32) < (2 : Int32))⟩
  obtain ⟨T29, h29, X29, e29, W29, st29⟩ := stI X23 hx hZ e23 Ar27 (j := (1 : Int32)) hin28 (g := (mkF m 21 #[.val (.ref a1), .val (.int 1), .val (.float f2), .val (.long q3), .second, .val (.int p4)] [(.int p4), (.int 1), (.ref a21)])) rfl rfl (hb hby d9_21)
  have s2 := (Keep.of_wr W29).1
  have N29 := Fr.snoc X29 N20 g_a21
  have Vs29 : Arv Z h29 a21 k25 .int (2 : Int32) [(.int p24), (.int p4)] (.int 0) := Arv.set Ar27 q27 S27 M27 Hs27 G27 rfl W29 1 rfl (Nat.le_of_ble_eq_true rfl)
  have Ex30 := (((E_a5.wr W11).wr W20).wr W29)
  have Va31 := ((Vs11.other W20 (Ne.symm ne_a12_a5)).other W29 (Ne.symm ne_a21_a5))
  have Ex32 := (((E_a12.wr W11).wr W20).wr W29)
  have Va33 := (Vs20.other W29 (Ne.symm ne_a21_a12))
  have Ex34 := (((E_a21.wr W11).wr W20).wr W29)
  have Kp0 : Keep h0 h11 [a5, a12, a21] := (Keep.refl h0 [a5, a12, a21]).wr W11 (Or.inl (List.mem_of_getElem? (i := 0) rfl))
  have Kp1 : Keep h0 h20 [a5, a12, a21] := Kp0.wr W20 (Or.inl (List.mem_of_getElem? (i := 1) rfl))
  have Kp2 : Keep h0 h29 [a5, a12, a21] := Kp1.wr W29 (Or.inl (List.mem_of_getElem? (i := 2) rfl))
  refine ⟨T29, _, _, _, none, X29, (fun _ => rfl), by decide, by decide, ?_, fun fs hr => ?_⟩
  · rw [e29]
    exact ⟨rfl, N29, Kp2, Ex30, Va31, Ex32, Va33, Ex34, Vs29⟩
  · refine XS.aloadN X0.here hx rfl (hb hby d9_0) rfl rfl ?_
    refine st6 _ ?_
    refine XS.iloadN X6.here hx rfl (hb hby d9_4) rfl ?_
    refine XS.floadN X6.here hx rfl (hb hby d9_5) rfl ?_
    refine st11 _ ?_
    refine XS.aloadN X11.here hx rfl (hb hby d9_7) rfl rfl ?_
    refine st14 _ ?_
    refine XS.iloadN X14.here hx rfl (hb hby d9_11) rfl ?_
    refine XS.lloadN X14.here hx rfl (hb hby d9_12) rfl ?_
    refine st20 _ ?_
    refine XS.aloadN X20.here hx rfl (hb hby d9_14) rfl rfl ?_
    refine st23 _ ?_
    refine XS.iloadN X23.here hx rfl (hb hby d9_18) rfl ?_
    refine XS.iload X23.here hx rfl (hb hby d9_19) rfl ?_
    refine st29 _ ?_
    exact X29.returnOut hx hret (hb hby d9_22) hr
theorem d8_42 : decode prog_25_method_8_code 42 = .ok (.aload_n 0, 1) := by decide +kernel
theorem d8_43 : decode prog_25_method_8_code 43 = .ok (.iload 7, 2) := by decide +kernel
theorem d8_45 : decode prog_25_method_8_code 45 = .ok (.iload 6, 2) := by decide +kernel
theorem d8_47 : decode prog_25_method_8_code 47 = .ok (.invokevirtual 95, 3) := by decide +kernel
theorem d13_0 : decode prog_25_method_10_code 0 = .ok (.aload_n 0, 1) := by decide +kernel
theorem d13_1 : decode prog_25_method_10_code 1 = .ok (.iload_n 2, 1) := by decide +kernel
theorem d13_2 : decode prog_25_method_10_code 2 = .ok (.aload_n 0, 1) := by decide +kernel
theorem d13_3 : decode prog_25_method_10_code 3 = .ok (.getfield 19, 3) := by decide +kernel
theorem d13_6 : decode prog_25_method_10_code 6 = .ok (.iload_n 1, 1) := by decide +kernel
theorem d13_7 : decode prog_25_method_10_code 7 = .ok (.faload, 1) := by decide +kernel
theorem d13_8 : decode prog_25_method_10_code 8 = .ok (.aload_n 0, 1) := by decide +kernel
theorem d13_9 : decode prog_25_method_10_code 9 = .ok (.getfield 23, 3) := by decide +kernel
theorem d13_12 : decode prog_25_method_10_code 12 = .ok (.iload_n 1, 1) := by decide +kernel
theorem d13_13 : decode prog_25_method_10_code 13 = .ok (.laload, 1) := by decide +kernel
theorem d13_14 : decode prog_25_method_10_code 14 = .ok (.aload_n 0, 1) := by decide +kernel
theorem d13_15 : decode prog_25_method_10_code 15 = .ok (.getfield 27, 3) := by decide +kernel
theorem d13_18 : decode prog_25_method_10_code 18 = .ok (.iload_n 1, 1) := by decide +kernel
theorem d13_19 : decode prog_25_method_10_code 19 = .ok (.iaload, 1) := by decide +kernel
theorem d13_20 : decode prog_25_method_10_code 20 = .ok (.invokevirtual 99, 3) := by decide +kernel
-- com/example/senret/senret/TopSentences.put(IFJI)V
abbrev Rm29 : Room := { frames := 0, cells := 0, slots := 0, locals := 0 }
def Q29 (Z : State) (a1 : Addr) (f2 : UInt32) (q3 : Int64) (p4 : Int32) (a5 : Addr) (k7 : ClassId) (a11 : Addr) (k14 : ClassId) (a19 : Addr) (k22 : ClassId) (h0 : Heap) (n0 : Nat) (v : Option Value) (h : Heap) (L : List Loc) : Prop := v = none ∧ Fr n0 L ∧ Keep h0 h [a5, a11, a19] ∧ Exa Z h a5 "[F" ∧ Arv Z h a5 k7 .float (2 : Int32) [(.float f2), (.float f2)] (.float 0) ∧ Exa Z h a11 "[J" ∧ Arv Z h a11 k14 .long (2 : Int32) [(.long q3), (.long q3)] (.long 0) ∧ Exa Z h a19 "[I" ∧ Arv Z h a19 k22 .int (2 : Int32) [(.int p4), (.int p4)] (.int 0)
-- ef_ea78cb
theorem rm29 (l : Launch) (Z : State) (a0 : Array Value) (hw : HW a0 Z) (ws : List Jvm.Cond) (a1 : Addr) (f2 : UInt32) (q3 : Int64) (p4 : Int32) (a5 : Addr) (k7 : ClassId) (a11 : Addr) (k14 : ClassId) (a19 : Addr) (k22 : ClassId) (h0 : Heap) (n0 : Nat) (Z0 : n0 ≤ h0.size) (F_scoresAsRead_a1 : Fld Z h0 a1 kT "scoresAsRead" "[F" (.ref a5)) (V_a5 : Arv Z h0 a5 k7 .float (2 : Int32) [(.float f2), (.float 0)] (.float 0)) (g_a5 : n0 ≤ a5) (F_scores_a1 : Fld Z h0 a1 kT "scores" "[J" (.ref a11)) (ne_a1_a5 : a1 ≠ a5) (V_a11 : Arv Z h0 a11 k14 .long (2 : Int32) [(.long q3), (.long 0)] (.long 0)) (ne_a11_a5 : a11 ≠ a5) (g_a11 : n0 ≤ a11) (F_ordinals_a1 : Fld Z h0 a1 kT "ordinals" "[I" (.ref a19)) (ne_a1_a11 : a1 ≠ a11) (V_a19 : Arv Z h0 a19 k22 .int (2 : Int32) [(.int p4), (.int 0)] (.int 0)) (ne_a19_a5 : a19 ≠ a5) (ne_a19_a11 : a19 ≠ a11) (g_a19 : n0 ≤ a19) (E_a5 : Exa Z h0 a5 "[F") (E_a11 : Exa Z h0 a11 "[J") (E_a19 : Exa Z h0 a19 "[I") :
    OwnMet l Z y_5 prog_25_method_11_code 6 none ws Rm29 #[(.ref a1), (.int 1), (.float f2), (.long q3), (.int p4)] h0 (Q29 Z a1 f2 q3 p4 a5 k7 a11 k14 a19 k22 h0 n0) := by
  refine own_body (plainFor_of_name pn_1) (ef_ea78cb a1 f2 q3 p4) ?_
  intro p e s m below meth c s₁ hx hby hml hown hnm hret hZ X0 e0
  have N0 := Fr.nil n0
  obtain ⟨T6, X6, e6, st6⟩ := getF X0 hx hZ hown (host := "") (Or.inl (w_21 hw)) Via.refl e0 F_scoresAsRead_a1 (g := (mkF m 1 #[.val (.ref a1), .val (.int 1), .val (.float f2), .val (.long q3), .second, .val (.int p4)] [(.ref a1)])) rfl rfl (hb hby d9_1)
  obtain ⟨cl8, Ar8, q8, S8, M8, Hs8, G8⟩ := id V_a5
  have hin9 : ¬ ((1 : Int32) < 0 ∨ cl8.slots.size ≤ ((1 : Int32)).toNatClampNeg) := inb_of S8 ⟨(by decide : ¬ ((1 : Int32) < (0 : Int32))), (by decide : (1 : Int32) < (2 : Int32))⟩
  obtain ⟨T10, h10, X10, e10, W10, st10⟩ := stF X6 hx hZ e6 Ar8 (j := (1 : Int32)) hin9 (g := (mkF m 6 #[.val (.ref a1), .val (.int 1), .val (.float f2), .val (.long q3), .second, .val (.int p4)] [(.float f2), (.int 1), (.ref a5)])) rfl rfl (hb hby d9_6)
  have s0 := (Keep.of_wr W10).1
  have N10 := Fr.snoc X10 N0 g_a5
  have Vs10 : Arv Z h10 a5 k7 .float (2 : Int32) [(.float f2), (.float f2)] (.float 0) := Arv.set Ar8 q8 S8 M8 Hs8 G8 rfl W10 1 rfl (Nat.le_of_ble_eq_true rfl)
  have Fl12 := (F_scores_a1.other W10 (Or.inl ne_a1_a5))
  obtain ⟨T13, X13, e13, st13⟩ := getF X10 hx hZ hown (host := "") (Or.inl (w_24 hw)) Via.refl e10 Fl12 (g := (mkF m 8 #[.val (.ref a1), .val (.int 1), .val (.float f2), .val (.long q3), .second, .val (.int p4)] [(.ref a1)])) rfl rfl (hb hby d9_8)
  have Va15 := (V_a11.other W10 ne_a11_a5)
  obtain ⟨cl16, Ar16, q16, S16, M16, Hs16, G16⟩ := id Va15
  have hin17 : ¬ ((1 : Int32) < 0 ∨ cl16.slots.size ≤ ((1 : Int32)).toNatClampNeg) := inb_of S16 ⟨(by decide : ¬ ((1 : Int32) < (0 : Int32))), (by decide : (1 : Int32) < (2 : Int32))⟩
  obtain ⟨T18, h18, X18, e18, W18, st18⟩ := stJ X13 hx hZ e13 Ar16 (j := (1 : Int32)) hin17 (g := (mkF m 13 #[.val (.ref a1), .val (.int 1), .val (.float f2), .val (.long q3), .second, .val (.int p4)] [(.long q3), (.int 1), (.ref a11)])) rfl rfl (hb hby d9_13)
  have s1 := (Keep.of_wr W18).1
  have N18 := Fr.snoc X18 N10 g_a11
  have Vs18 : Arv Z h18 a11 k14 .long (2 : Int32) [(.long q3), (.long q3)] (.long 0) := Arv.set Ar16 q16 S16 M16 Hs16 G16 rfl W18 1 rfl (Nat.le_of_ble_eq_true rfl)
  have Fl20 := ((F_ordinals_a1.other W10 (Or.inl ne_a1_a5)).other W18 (Or.inl ne_a1_a11))
  obtain ⟨T21, X21, e21, st21⟩ := getF X18 hx hZ hown (host := "") (Or.inl (w_27 hw)) Via.refl e18 Fl20 (g := (mkF m 15 #[.val (.ref a1), .val (.int 1), .val (.float f2), .val (.long q3), .second, .val (.int p4)] [(.ref a1)])) rfl rfl (hb hby d9_15)
  have Va23 := ((V_a19.other W10 ne_a19_a5).other W18 ne_a19_a11)
  obtain ⟨cl24, Ar24, q24, S24, M24, Hs24, G24⟩ := id Va23
  have hin25 : ¬ ((1 : Int32) < 0 ∨ cl24.slots.size ≤ ((1 : Int32)).toNatClampNeg) := inb_of S24 ⟨(by decide : ¬ ((1 : Int32) < (0 : Int32))), (by decide : (1 : Int32) < (2 : Int32))⟩
  obtain ⟨T26, h26, X26, e26, W26, st26⟩ := stI X21 hx hZ e21 Ar24 (j := (1 : Int32)) hin25 (g := (mkF m 21 #[.val (.ref a1), .val (.int 1), .val (.float f2), .val (.long q3), .second, .val (.int p4)] [(.int p4), (.int 1), (.ref a19)])) rfl rfl (hb hby d9_21)
  have s2 := (Keep.of_wr W26).1
  have N26 := Fr.snoc X26 N18 g_a19
  have Vs26 : Arv Z h26 a19 k22 .int (2 : Int32) [(.int p4), (.int p4)] (.int 0) := Arv.set Ar24 q24 S24 M24 Hs24 G24 rfl W26 1 rfl (Nat.le_of_ble_eq_true rfl)
  have Ex27 := (((E_a5.wr W10).wr W18).wr W26)
  have Va28 := ((Vs10.other W18 (Ne.symm ne_a11_a5)).other W26 (Ne.symm ne_a19_a5))
  have Ex29 := (((E_a11.wr W10).wr W18).wr W26)
  have Va30 := (Vs18.other W26 (Ne.symm ne_a19_a11))
  have Ex31 := (((E_a19.wr W10).wr W18).wr W26)
  have Kp0 : Keep h0 h10 [a5, a11, a19] := (Keep.refl h0 [a5, a11, a19]).wr W10 (Or.inl (List.mem_of_getElem? (i := 0) rfl))
  have Kp1 : Keep h0 h18 [a5, a11, a19] := Kp0.wr W18 (Or.inl (List.mem_of_getElem? (i := 1) rfl))
  have Kp2 : Keep h0 h26 [a5, a11, a19] := Kp1.wr W26 (Or.inl (List.mem_of_getElem? (i := 2) rfl))
  refine ⟨T26, _, _, _, none, X26, (fun _ => rfl), by decide, by decide, ?_, fun fs hr => ?_⟩
  · rw [e26]
    exact ⟨rfl, N26, Kp2, Ex27, Va28, Ex29, Va30, Ex31, Vs26⟩
  · refine XS.aloadN X0.here hx rfl (hb hby d9_0) rfl rfl ?_
    refine st6 _ ?_
    refine XS.iloadN X6.here hx rfl (hb hby d9_4) rfl ?_
    refine XS.floadN X6.here hx rfl (hb hby d9_5) rfl ?_
    refine st10 _ ?_
    refine XS.aloadN X10.here hx rfl (hb hby d9_7) rfl rfl ?_
    refine st13 _ ?_
    refine XS.iloadN X13.here hx rfl (hb hby d9_11) rfl ?_
    refine XS.lloadN X13.here hx rfl (hb hby d9_12) rfl ?_
    refine st18 _ ?_
    refine XS.aloadN X18.here hx rfl (hb hby d9_14) rfl rfl ?_
    refine st21 _ ?_
    refine XS.iloadN X21.here hx rfl (hb hby d9_18) rfl ?_
    refine XS.iload X21.here hx rfl (hb hby d9_19) rfl ?_
    refine st26 _ ?_
    exact X26.returnOut hx hret (hb hby d9_22) hr
theorem d13_23 : decode prog_25_method_10_code 23 = .ok (.return_, 1) := by decide +kernel
theorem ef_c4acf6 (a1 : Addr) (m : MethodId) : entryFrame m #[(.ref a1), (.int 0), (.int 1)] 3 = mkF m 0 #[.val (.ref a1), .val (.int 0), .val (.int 1)] [] := by first | (simp [entryFrame, mkF, argsToLocals, Value.category]; done) | rfl
abbrev y_12 : MethodName := ⟨"com/example/senret/senret/TopSentences", "move", "(II)V"⟩
-- com/example/senret/senret/TopSentences.move(II)V
abbrev Rm30 : Room := { frames := 1, cells := 0, slots := 0, locals := 17 }
def Q30 (Z : State) (a1 : Addr) (a2 : Addr) (f4 : UInt32) (k5 : ClassId) (a8 : Addr) (q10 : Int64) (k11 : ClassId) (a14 : Addr) (p16 : Int32) (k17 : ClassId) (h0 : Heap) (n0 : Nat) (v : Option Value) (h : Heap) (L : List Loc) : Prop := v = none ∧ Fr n0 L ∧ Keep h0 h [a2, a8, a14] ∧ Exa Z h a2 "[F" ∧ Arv Z h a2 k5 .float (2 : Int32) [(.float f4), (.float f4)] (.float 0) ∧ Exa Z h a8 "[J" ∧ Arv Z h a8 k11 .long (2 : Int32) [(.long q10), (.long q10)] (.long 0) ∧ Exa Z h a14 "[I" ∧ Arv Z h a14 k17 .int (2 : Int32) [(.int p16), (.int p16)] (.int 0)
-- ef_c4acf6
theorem rm30 (l : Launch) (Z : State) (a0 : Array Value) (hw : HW a0 Z) (ws : List Jvm.Cond) (a1 : Addr) (a2 : Addr) (f4 : UInt32) (k5 : ClassId) (a8 : Addr) (q10 : Int64) (k11 : ClassId) (a14 : Addr) (p16 : Int32) (k17 : ClassId) (h0 : Heap) (n0 : Nat) (Z0 : n0 ≤ h0.size) (F_scoresAsRead_a1 : Fld Z h0 a1 kT "scoresAsRead" "[F" (.ref a2)) (V_a2 : Arv Z h0 a2 k5 .float (2 : Int32) [(.float f4), (.float 0)] (.float 0)) (F_scores_a1 : Fld Z h0 a1 kT "scores" "[J" (.ref a8)) (V_a8 : Arv Z h0 a8 k11 .long (2 : Int32) [(.long q10), (.long 0)] (.long 0)) (F_ordinals_a1 : Fld Z h0 a1 kT "ordinals" "[I" (.ref a14)) (V_a14 : Arv Z h0 a14 k17 .int (2 : Int32) [(.int p16), (.int 0)] (.int 0)) (g_a2 : n0 ≤ a2) (ne_a1_a2 : a1 ≠ a2) (ne_a8_a2 : a8 ≠ a2) (g_a8 : n0 ≤ a8) (ne_a1_a8 : a1 ≠ a8) (ne_a14_a2 : a14 ≠ a2) (ne_a14_a8 : a14 ≠ a8) (g_a14 : n0 ≤ a14) (E_a2 : Exa Z h0 a2 "[F") (E_a8 : Exa Z h0 a8 "[J") (E_a14 : Exa Z h0 a14 "[I") (E_a1 : Exa Z h0 a1 kT) :
    OwnMet l Z y_12 prog_25_method_10_code 3 none ws Rm30 #[(.ref a1), (.int 0), (.int 1)] h0 (Q30 Z a1 a2 f4 k5 a8 q10 k11 a14 p16 k17 h0 n0) := by
  refine own_body (plainFor_of_name pn_1) (ef_c4acf6 a1) ?_
  intro p e s m below meth c s₁ hx hby hml hown hnm hret hZ X0 e0
  have N0 := Fr.nil n0
  obtain ⟨T3, X3, e3, st3⟩ := getF X0 hx hZ hown (host := "") (Or.inl (w_21 hw)) Via.refl e0 F_scoresAsRead_a1 (g := (mkF m 3 #[.val (.ref a1), .val (.int 0), .val (.int 1)] [(.ref a1), (.int 1), (.ref a1)])) rfl rfl (hb hby d13_3)
  obtain ⟨cl6, Ar6, q6, S6, M6, Hs6, G6⟩ := id V_a2
  have hin7 : ¬ ((0 : Int32) < 0 ∨ cl6.slots.size ≤ ((0 : Int32)).toNatClampNeg) := inb_of S6 ⟨(by decide : ¬ ((0 : Int32) < (0 : Int32))), (by decide : (0 : Int32) < (2 : Int32))⟩
  obtain ⟨T9, X9, e9, st9⟩ := getF X3 hx hZ hown (host := "") (Or.inl (w_24 hw)) Via.refl e3 F_scores_a1 (g := (mkF m 9 #[.val (.ref a1), .val (.int 0), .val (.int 1)] [(.ref a1), (.float f4), (.int 1), (.ref a1)])) rfl rfl (hb hby d13_9)
  obtain ⟨cl12, Ar12, q12, S12, M12, Hs12, G12⟩ := id V_a8
  have hin13 : ¬ ((0 : Int32) < 0 ∨ cl12.slots.size ≤ ((0 : Int32)).toNatClampNeg) := inb_of S12 ⟨(by decide : ¬ ((0 : Int32) < (0 : Int32))), (by decide : (0 : Int32) < (2 : Int32))⟩
  obtain ⟨T15, X15, e15, st15⟩ := getF X9 hx hZ hown (host := "") (Or.inl (w_27 hw)) Via.refl e9 F_ordinals_a1 (g := (mkF m 15 #[.val (.ref a1), .val (.int 0), .val (.int 1)] [(.ref a1), (.long q10), (.float f4), (.int 1), (.ref a1)])) rfl rfl (hb hby d13_15)
  obtain ⟨cl18, Ar18, q18, S18, M18, Hs18, G18⟩ := id V_a14
  have hin19 : ¬ ((0 : Int32) < 0 ∨ cl18.slots.size ≤ ((0 : Int32)).toNatClampNeg) := inb_of S18 ⟨(by decide : ¬ ((0 : Int32) < (0 : Int32))), (by decide : (0 : Int32) < (2 : Int32))⟩
  obtain ⟨_, T20, L20, X20, hQ20, st20⟩ := own_private X15 hx hZ hown (y := y_5) E_a1 (w_52 hw) (w_53 hw) (Jvm.Kit.selects_private (by decide) (mvT hZ (w_6 hw)) (mvP hZ (w_54 hw)) (mvT hZ (w_53 hw))) (w_54 hw) (w_7 hw) (w_55 hw) (rm29 l Z a0 hw [] a1 f4 q10 p16 a2 k5 a8 k11 a14 k17 h0 n0 Z0 F_scoresAsRead_a1 V_a2 g_a2 F_scores_a1 ne_a1_a2 V_a8 ne_a8_a2 g_a8 F_ordinals_a1 ne_a1_a8 V_a14 ne_a14_a2 ne_a14_a8 g_a14 E_a2 E_a8 E_a14) e15 (Ls := #[.val (.ref a1), .val (.int 0), .val (.int 1)]) (by rw [hml]; rfl) (argsL := [(.int 1), (.float f4), (.long q10), (.int p16)]) (rest := []) (lenOf pd_5 rfl) (hb hby d13_20) (W := 0)
  obtain ⟨rfl, Nq20, K20, o20_0, o20_1, o20_2, o20_3, o20_4, o20_5⟩ := hQ20
  have N20 := Fr.app N0 Nq20
  have s0 := K20.1
  have Kp0 : Keep h0 T20.heap [a2, a8, a14] := (Keep.refl h0 [a2, a8, a14]).trans K20 (allS (Or.inl (List.mem_of_getElem? (i := 0) rfl)) (allS (Or.inl (List.mem_of_getElem? (i := 1) rfl)) (allS (Or.inl (List.mem_of_getElem? (i := 2) rfl)) all0)))
  refine ⟨T20, _, _, _, none, X20, (fun _ => rfl), by decide, by decide, ?_, fun fs hr => ?_⟩
  · exact ⟨rfl, N20, Kp0, o20_0, o20_1, o20_2, o20_3, o20_4, o20_5⟩
  · refine XS.aloadN X0.here hx rfl (hb hby d13_0) rfl rfl ?_
    refine XS.iloadN X0.here hx rfl (hb hby d13_1) rfl ?_
    refine XS.aloadN X0.here hx rfl (hb hby d13_2) rfl rfl ?_
    refine st3 _ ?_
    refine XS.iloadN X3.here hx rfl (hb hby d13_6) rfl ?_
    refine X3.faload hx (j := (0 : Int32)) (v := (.float f4)) (by rw [e3]; exact Ar6.1) (State.isArrayOf_alike hZ.alike Ar6.2.1) Ar6.2.2 hin7 (Has.at Hs6 hin7 rfl) (g := (mkF m 7 #[.val (.ref a1), .val (.int 0), .val (.int 1)] [(.int 0), (.ref a2), (.int 1), (.ref a1)])) rfl rfl (hb hby d13_7) _ ?_
    refine XS.aloadN X3.here hx rfl (hb hby d13_8) rfl rfl ?_
    refine st9 _ ?_
    refine XS.iloadN X9.here hx rfl (hb hby d13_12) rfl ?_
    refine X9.laload hx (j := (0 : Int32)) (v := (.long q10)) (by rw [e9]; exact Ar12.1) (State.isArrayOf_alike hZ.alike Ar12.2.1) Ar12.2.2 hin13 (Has.at Hs12 hin13 rfl) (g := (mkF m 13 #[.val (.ref a1), .val (.int 0), .val (.int 1)] [(.int 0), (.ref a8), (.float f4), (.int 1), (.ref a1)])) rfl rfl (hb hby d13_13) _ ?_
    refine XS.aloadN X9.here hx rfl (hb hby d13_14) rfl rfl ?_
    refine st15 _ ?_
    refine XS.iloadN X15.here hx rfl (hb hby d13_18) rfl ?_
    refine X15.iaload hx (j := (0 : Int32)) (v := (.int p16)) (by rw [e15]; exact Ar18.1) (State.isArrayOf_alike hZ.alike Ar18.2.1) Ar18.2.2 hin19 (Has.at Hs18 hin19 rfl) (g := (mkF m 19 #[.val (.ref a1), .val (.int 0), .val (.int 1)] [(.int 0), (.ref a14), (.long q10), (.float f4), (.int 1), (.ref a1)])) rfl rfl (hb hby d13_19) _ ?_
    refine st20 _ ?_
    exact X20.returnOut hx hret (hb hby d13_23) hr
theorem pd_11 : parseMethodDescriptor "(II)V" = some ⟨[.int, .int], none⟩ := by decide +kernel
theorem w_69 {a0 : Array Value} {Z : State} (hw : HW a0 Z) : Jvm.Cond.before (Jvm.Cond.code ({ cls := "com/example/senret/senret/TopSentences", name := "move", desc := "(II)V" } : Jvm.MethodName) prog_25_method_10_code (3 : Nat) (Option.none : Option Jvm.ClassFile.FieldType)) a0 Z = true := hw _ (List.mem_of_getElem? (i := 69) rfl)
theorem w_66 {a0 : Array Value} {Z : State} (hw : HW a0 Z) : Jvm.Cond.before (Jvm.Cond.methodLink "com/example/senret/senret/TopSentences" (95 : Nat) ({ cls := "com/example/senret/senret/TopSentences", name := "move", desc := "(II)V" } : Jvm.MethodName)) a0 Z = true := hw _ (List.mem_of_getElem? (i := 66) rfl)
theorem w_67 {a0 : Array Value} {Z : State} (hw : HW a0 Z) : Jvm.Cond.before (Jvm.Cond.instanceMethod ({ cls := "com/example/senret/senret/TopSentences", name := "move", desc := "(II)V" } : Jvm.MethodName)) a0 Z = true := hw _ (List.mem_of_getElem? (i := 67) rfl)
theorem w_68 {a0 : Array Value} {Z : State} (hw : HW a0 Z) : Jvm.Cond.before (Jvm.Cond.privateMethod ({ cls := "com/example/senret/senret/TopSentences", name := "move", desc := "(II)V" } : Jvm.MethodName)) a0 Z = true := hw _ (List.mem_of_getElem? (i := 68) rfl)
theorem d8_50 : decode prog_25_method_8_code 50 = .ok (.iload 7, 2) := by decide +kernel
theorem d8_52 : decode prog_25_method_8_code 52 = .ok (.istore 6, 2) := by decide +kernel
theorem d8_54 : decode prog_25_method_8_code 54 = .ok (.goto (-51), 3) := by decide +kernel
-- com/example/senret/senret/TopSentences.put(IFJI)V
abbrev Rm31 : Room := { frames := 0, cells := 0, slots := 0, locals := 0 }
def Q31 (Z : State) (a1 : Addr) (f2 : UInt32) (q3 : Int64) (p4 : Int32) (a5 : Addr) (f7 : UInt32) (k8 : ClassId) (a12 : Addr) (q15 : Int64) (k16 : ClassId) (a21 : Addr) (p24 : Int32) (k25 : ClassId) (h0 : Heap) (n0 : Nat) (v : Option Value) (h : Heap) (L : List Loc) : Prop := v = none ∧ Fr n0 L ∧ Keep h0 h [a5, a12, a21] ∧ Exa Z h a5 "[F" ∧ Arv Z h a5 k8 .float (2 : Int32) [(.float f2), (.float f7)] (.float 0) ∧ Exa Z h a12 "[J" ∧ Arv Z h a12 k16 .long (2 : Int32) [(.long q3), (.long q15)] (.long 0) ∧ Exa Z h a21 "[I" ∧ Arv Z h a21 k25 .int (2 : Int32) [(.int p4), (.int p24)] (.int 0)
-- ef_bf04c5
theorem rm31 (l : Launch) (Z : State) (a0 : Array Value) (hw : HW a0 Z) (ws : List Jvm.Cond) (a1 : Addr) (f2 : UInt32) (q3 : Int64) (p4 : Int32) (a5 : Addr) (f7 : UInt32) (k8 : ClassId) (a12 : Addr) (q15 : Int64) (k16 : ClassId) (a21 : Addr) (p24 : Int32) (k25 : ClassId) (h0 : Heap) (n0 : Nat) (Z0 : n0 ≤ h0.size) (F_scoresAsRead_a1 : Fld Z h0 a1 kT "scoresAsRead" "[F" (.ref a5)) (V_a5 : Arv Z h0 a5 k8 .float (2 : Int32) [(.float f7), (.float f7)] (.float 0)) (g_a5 : n0 ≤ a5) (F_scores_a1 : Fld Z h0 a1 kT "scores" "[J" (.ref a12)) (ne_a1_a5 : a1 ≠ a5) (V_a12 : Arv Z h0 a12 k16 .long (2 : Int32) [(.long q15), (.long q15)] (.long 0)) (ne_a12_a5 : a12 ≠ a5) (g_a12 : n0 ≤ a12) (F_ordinals_a1 : Fld Z h0 a1 kT "ordinals" "[I" (.ref a21)) (ne_a1_a12 : a1 ≠ a12) (V_a21 : Arv Z h0 a21 k25 .int (2 : Int32) [(.int p24), (.int p24)] (.int 0)) (ne_a21_a5 : a21 ≠ a5) (ne_a21_a12 : a21 ≠ a12) (g_a21 : n0 ≤ a21) (E_a5 : Exa Z h0 a5 "[F") (E_a12 : Exa Z h0 a12 "[J") (E_a21 : Exa Z h0 a21 "[I") :
    OwnMet l Z y_5 prog_25_method_11_code 6 none ws Rm31 #[(.ref a1), (.int 0), (.float f2), (.long q3), (.int p4)] h0 (Q31 Z a1 f2 q3 p4 a5 f7 k8 a12 q15 k16 a21 p24 k25 h0 n0) := by
  refine own_body (plainFor_of_name pn_1) (ef_bf04c5 a1 f2 q3 p4) ?_
  intro p e s m below meth c s₁ hx hby hml hown hnm hret hZ X0 e0
  have N0 := Fr.nil n0
  obtain ⟨T6, X6, e6, st6⟩ := getF X0 hx hZ hown (host := "") (Or.inl (w_21 hw)) Via.refl e0 F_scoresAsRead_a1 (g := (mkF m 1 #[.val (.ref a1), .val (.int 0), .val (.float f2), .val (.long q3), .second, .val (.int p4)] [(.ref a1)])) rfl rfl (hb hby d9_1)
  obtain ⟨cl9, Ar9, q9, S9, M9, Hs9, G9⟩ := id V_a5
  have hin10 : ¬ ((0 : Int32) < 0 ∨ cl9.slots.size ≤ ((0 : Int32)).toNatClampNeg) := inb_of S9 ⟨(by decide : ¬ ((0 : Int32) < (0 : Int32))), (by decide : (0 : Int32) < (2 : Int32))⟩
  obtain ⟨T11, h11, X11, e11, W11, st11⟩ := stF X6 hx hZ e6 Ar9 (j := (0 : Int32)) hin10 (g := (mkF m 6 #[.val (.ref a1), .val (.int 0), .val (.float f2), .val (.long q3), .second, .val (.int p4)] [(.float f2), (.int 0), (.ref a5)])) rfl rfl (hb hby d9_6)
  have s0 := (Keep.of_wr W11).1
  have N11 := Fr.snoc X11 N0 g_a5
  have Vs11 : Arv Z h11 a5 k8 .float (2 : Int32) [(.float f2), (.float f7)] (.float 0) := Arv.set Ar9 q9 S9 M9 Hs9 G9 rfl W11 0 rfl (Nat.le_of_ble_eq_true rfl)
  have Fl13 := (F_scores_a1.other W11 (Or.inl ne_a1_a5))
  obtain ⟨T14, X14, e14, st14⟩ := getF X11 hx hZ hown (host := "") (Or.inl (w_24 hw)) Via.refl e11 Fl13 (g := (mkF m 8 #[.val (.ref a1), .val (.int 0), .val (.float f2), .val (.long q3), .second, .val (.int p4)] [(.ref a1)])) rfl rfl (hb hby d9_8)
  have Va17 := (V_a12.other W11 ne_a12_a5)
  obtain ⟨cl18, Ar18, q18, S18, M18, Hs18, G18⟩ := id Va17
  have hin19 : ¬ ((0 : Int32) < 0 ∨ cl18.slots.size ≤ ((0 : Int32)).toNatClampNeg) := inb_of S18 ⟨(by decide : ¬ ((0 : Int32) < (0 : Int32))), (by decide : (0 : Int32) < (2 : Int32))⟩
  obtain ⟨T20, h20, X20, e20, W20, st20⟩ := stJ X14 hx hZ e14 Ar18 (j := (0 : Int32)) hin19 (g := (mkF m 13 #[.val (.ref a1), .val (.int 0), .val (.float f2), .val (.long q3), .second, .val (.int p4)] [(.long q3), (.int 0), (.ref a12)])) rfl rfl (hb hby d9_13)
  have s1 := (Keep.of_wr W20).1
  have N20 := Fr.snoc X20 N11 g_a12
  have Vs20 : Arv Z h20 a12 k16 .long (2 : Int32) [(.long q3), (.long q15)] (.long 0) := Arv.set Ar18 q18 S18 M18 Hs18 G18 rfl W20 0 rfl (Nat.le_of_ble_eq_true rfl)
  have Fl22 := ((F_ordinals_a1.other W11 (Or.inl ne_a1_a5)).other W20 (Or.inl ne_a1_a12))
  obtain ⟨T23, X23, e23, st23⟩ := getF X20 hx hZ hown (host := "") (Or.inl (w_27 hw)) Via.refl e20 Fl22 (g := (mkF m 15 #[.val (.ref a1), .val (.int 0), .val (.float f2), .val (.long q3), .second, .val (.int p4)] [(.ref a1)])) rfl rfl (hb hby d9_15)
  have Va26 := ((V_a21.other W11 ne_a21_a5).other W20 ne_a21_a12)
  obtain ⟨cl27, Ar27, q27, S27, M27, Hs27, G27⟩ := id Va26
  have hin28 : ¬ ((0 : Int32) < 0 ∨ cl27.slots.size ≤ ((0 : Int32)).toNatClampNeg) := inb_of S27 ⟨(by decide : ¬ ((0 : Int32) < (0 : Int32))), (by decide : (0 : Int32) < (2 : Int32))⟩
  obtain ⟨T29, h29, X29, e29, W29, st29⟩ := stI X23 hx hZ e23 Ar27 (j := (0 : Int32)) hin28 (g := (mkF m 21 #[.val (.ref a1), .val (.int 0), .val (.float f2), .val (.long q3), .second, .val (.int p4)] [(.int p4), (.int 0), (.ref a21)])) rfl rfl (hb hby d9_21)
  have s2 := (Keep.of_wr W29).1
  have N29 := Fr.snoc X29 N20 g_a21
  have Vs29 : Arv Z h29 a21 k25 .int (2 : Int32) [(.int p4), (.int p24)] (.int 0) := Arv.set Ar27 q27 S27 M27 Hs27 G27 rfl W29 0 rfl (Nat.le_of_ble_eq_true rfl)
  have Ex30 := (((E_a5.wr W11).wr W20).wr W29)
  have Va31 := ((Vs11.other W20 (Ne.symm ne_a12_a5)).other W29 (Ne.symm ne_a21_a5))
  have Ex32 := (((E_a12.wr W11).wr W20).wr W29)
  have Va33 := (Vs20.other W29 (Ne.symm ne_a21_a12))
  have Ex34 := (((E_a21.wr W11).wr W20).wr W29)
  have Kp0 : Keep h0 h11 [a5, a12, a21] := (Keep.refl h0 [a5, a12, a21]).wr W11 (Or.inl (List.mem_of_getElem? (i := 0) rfl))
  have Kp1 : Keep h0 h20 [a5, a12, a21] := Kp0.wr W20 (Or.inl (List.mem_of_getElem? (i := 1) rfl))
  have Kp2 : Keep h0 h29 [a5, a12, a21] := Kp1.wr W29 (Or.inl (List.mem_of_getElem? (i := 2) rfl))
  refine ⟨T29, _, _, _, none, X29, (fun _ => rfl), by decide, by decide, ?_, fun fs hr => ?_⟩
  · rw [e29]
    exact ⟨rfl, N29, Kp2, Ex30, Va31, Ex32, Va33, Ex34, Vs29⟩
  · refine XS.aloadN X0.here hx rfl (hb hby d9_0) rfl rfl ?_
    refine st6 _ ?_
    refine XS.iloadN X6.here hx rfl (hb hby d9_4) rfl ?_
    refine XS.floadN X6.here hx rfl (hb hby d9_5) rfl ?_
    refine st11 _ ?_
    refine XS.aloadN X11.here hx rfl (hb hby d9_7) rfl rfl ?_
    refine st14 _ ?_
    refine XS.iloadN X14.here hx rfl (hb hby d9_11) rfl ?_
    refine XS.lloadN X14.here hx rfl (hb hby d9_12) rfl ?_
    refine st20 _ ?_
    refine XS.aloadN X20.here hx rfl (hb hby d9_14) rfl rfl ?_
    refine st23 _ ?_
    refine XS.iloadN X23.here hx rfl (hb hby d9_18) rfl ?_
    refine XS.iload X23.here hx rfl (hb hby d9_19) rfl ?_
    refine st29 _ ?_
    exact X29.returnOut hx hret (hb hby d9_22) hr
theorem ef_281084 (a1 : Addr) (f2 : UInt32) (q3 : Int64) (p4 : Int32) (m : MethodId) : entryFrame m #[(.ref a1), (.int 1), (.float f2), (.long q3), (.int p4)] 8 = mkF m 0 #[.val (.ref a1), .val (.int 1), .val (.float f2), .val (.long q3), .second, .val (.int p4), .unset, .unset] [] := by first | (simp [entryFrame, mkF, argsToLocals, Value.category]; done) | rfl
-- com/example/senret/senret/TopSentences.siftUp(IFJI)V
abbrev Rm32 : Room := { frames := 2, cells := 0, slots := 0, locals := 31 }
def Q32 (Z : State) (a1 : Addr) (f2 : UInt32) (q3 : Int64) (p4 : Int32) (a5 : Addr) (f7 : UInt32) (k8 : ClassId) (a11 : Addr) (p13 : Int32) (k14 : ClassId) (a27 : Addr) (q28 : Int64) (k29 : ClassId) (h0 : Heap) (n0 : Nat) (v : Option Value) (h : Heap) (L : List Loc) : Prop := v = none ∧ Fr n0 L ∧ Keep h0 h [a5, a27, a11] ∧ Exa Z h a5 "[F" ∧ Arv Z h a5 k8 .float (2 : Int32) [(.float (if (if (cmpValue (FP.fcmp f2 f7) .g) < (0 : Int32) then (1 : Int32) else (if (cmpValue (FP.fcmp f2 f7) .l) = (0 : Int32) then (if p4 < p13 then (1 : Int32) else (0 : Int32)) else (0 : Int32))) = (0 : Int32) then f7 else f2)), (.float (if (if (cmpValue (FP.fcmp f2 f7) .g) < (0 : Int32) then (1 : Int32) else (if (cmpValue (FP.fcmp f2 f7) .l) = (0 : Int32) then (if p4 < p13 then (1 : Int32) else (0 : Int32)) else (0 : Int32))) = (0 : Int32) then f2 else f7))] (.float 0) ∧ Exa Z h a27 "[J" ∧ Arv Z h a27 k29 .long (2 : Int32) [(.long (if (if (cmpValue (FP.fcmp f2 f7) .g) < (0 : Int32) then (1 : Int32) else (if (cmpValue (FP.fcmp f2 f7) .l) = (0 : Int32) then (if p4 < p13 then (1 : Int32) else (0 : Int32)) else (0 : Int32))) = (0 : Int32) then q28 else q3)), (.long (if (if (cmpValue (FP.fcmp f2 f7) .g) < (0 : Int32) then (1 : Int32) else (if (cmpValue (FP.fcmp f2 f7) .l) = (0 : Int32) then (if p4 < p13 then (1 : Int32) else (0 : Int32)) else (0 : Int32))) = (0 : Int32) then q3 else q28))] (.long 0) ∧ Exa Z h a11 "[I" ∧ Arv Z h a11 k14 .int (2 : Int32) [(.int (if (if (cmpValue (FP.fcmp f2 f7) .g) < (0 : Int32) then (1 : Int32) else (if (cmpValue (FP.fcmp f2 f7) .l) = (0 : Int32) then (if p4 < p13 then (1 : Int32) else (0 : Int32)) else (0 : Int32))) = (0 : Int32) then p13 else p4)), (.int (if (if (cmpValue (FP.fcmp f2 f7) .g) < (0 : Int32) then (1 : Int32) else (if (cmpValue (FP.fcmp f2 f7) .l) = (0 : Int32) then (if p4 < p13 then (1 : Int32) else (0 : Int32)) else (0 : Int32))) = (0 : Int32) then p4 else p13))] (.int 0)
-- ef_281084
theorem rm32_0 (l : Launch) (Z : State) (a0 : Array Value) (hw : HW a0 Z) (ws : List Jvm.Cond) (a1 : Addr) (f2 : UInt32) (q3 : Int64) (p4 : Int32) (a5 : Addr) (f7 : UInt32) (k8 : ClassId) (a11 : Addr) (p13 : Int32) (k14 : ClassId) (a27 : Addr) (q28 : Int64) (k29 : ClassId) (h0 : Heap) (n0 : Nat) (Z0 : n0 ≤ h0.size) (F_scoresAsRead_a1 : Fld Z h0 a1 kT "scoresAsRead" "[F" (.ref a5)) (V_a5 : Arv Z h0 a5 k8 .float (2 : Int32) [(.float f7), (.float 0)] (.float 0)) (F_ordinals_a1 : Fld Z h0 a1 kT "ordinals" "[I" (.ref a11)) (V_a11 : Arv Z h0 a11 k14 .int (2 : Int32) [(.int p13), (.int 0)] (.int 0)) (g_a5 : n0 ≤ a5) (F_scores_a1 : Fld Z h0 a1 kT "scores" "[J" (.ref a27)) (ne_a1_a5 : a1 ≠ a5) (V_a27 : Arv Z h0 a27 k29 .long (2 : Int32) [(.long q28), (.long 0)] (.long 0)) (ne_a27_a5 : a27 ≠ a5) (g_a27 : n0 ≤ a27) (ne_a1_a27 : a1 ≠ a27) (ne_a11_a5 : a11 ≠ a5) (ne_a11_a27 : a11 ≠ a27) (g_a11 : n0 ≤ a11) (E_a5 : Exa Z h0 a5 "[F") (E_a27 : Exa Z h0 a27 "[J") (E_a11 : Exa Z h0 a11 "[I") (E_a1 : Exa Z h0 a1 kT) (ne_a1_a11 : a1 ≠ a11) (cc1 : (if (cmpValue (FP.fcmp f2 f7) .g) < (0 : Int32) then (1 : Int32) else (if (cmpValue (FP.fcmp f2 f7) .l) = (0 : Int32) then (if p4 < p13 then (1 : Int32) else (0 : Int32)) else (0 : Int32))) = (0 : Int32)) :
    OwnMet l Z y_6 prog_25_method_8_code 8 none ws Rm32 #[(.ref a1), (.int 1), (.float f2), (.long q3), (.int p4)] h0 (Q32 Z a1 f2 q3 p4 a5 f7 k8 a11 p13 k14 a27 q28 k29 h0 n0) := by
  refine own_body (plainFor_of_name pn_1) (ef_281084 a1 f2 q3 p4) ?_
  intro p e s m below meth c s₁ hx hby hml hown hnm hret hZ X0 e0
  have N0 := Fr.nil n0
  obtain ⟨T19, X19, e19, st19⟩ := getF X0 hx hZ hown (host := "") (Or.inl (w_21 hw)) Via.refl e0 F_scoresAsRead_a1 (g := (mkF m 20 #[.val (.ref a1), .val (.int 1), .val (.float f2), .val (.long q3), .second, .val (.int p4), .val (.int 1), .val (.int 0)] [(.ref a1), (.int p4), (.float f2)])) rfl rfl (hb hby d8_20)
  obtain ⟨cl20, Ar20, q20, S20, M20, Hs20, G20⟩ := id V_a5
  have hin21 : ¬ ((0 : Int32) < 0 ∨ cl20.slots.size ≤ ((0 : Int32)).toNatClampNeg) := inb_of S20 ⟨(by decide : ¬ ((0 : Int32) < (0 : Int32))), (by decide : (0 : Int32) < (2 : Int32))⟩
  obtain ⟨T22, X22, e22, st22⟩ := getF X19 hx hZ hown (host := "") (Or.inl (w_27 hw)) Via.refl e19 F_ordinals_a1 (g := (mkF m 27 #[.val (.ref a1), .val (.int 1), .val (.float f2), .val (.long q3), .second, .val (.int p4), .val (.int 1), .val (.int 0)] [(.ref a1), (.float f7), (.int p4), (.float f2)])) rfl rfl (hb hby d8_27)
  obtain ⟨cl23, Ar23, q23, S23, M23, Hs23, G23⟩ := id V_a11
  have hin24 : ¬ ((0 : Int32) < 0 ∨ cl23.slots.size ≤ ((0 : Int32)).toNatClampNeg) := inb_of S23 ⟨(by decide : ¬ ((0 : Int32) < (0 : Int32))), (by decide : (0 : Int32) < (2 : Int32))⟩
  obtain ⟨_, T25, L25, X25, hQ25, st25⟩ := own_callS X22 hx hZ hown (y := y_9) (w_60 hw) (w_61 hw) (w_7 hw) (w_62 hw) (rm11 l Z a0 hw [] f2 p4 f7 p13 h0 n0 Z0) e22 (Ls := #[.val (.ref a1), .val (.int 1), .val (.float f2), .val (.long q3), .second, .val (.int p4), .val (.int 1), .val (.int 0)]) (by rw [hml]; rfl) (argsL := [(.float f2), (.int p4), (.float f7), (.int p13)]) (rest := []) (lenOf pd_8 rfl) (hb hby d8_33) (W := 0)
  obtain ⟨rfl, Nq25, e25⟩ := hQ25
  have N25 := Fr.app N0 Nq25
  obtain ⟨x26, ex26⟩ : ∃ z, z = (if (cmpValue (FP.fcmp f2 f7) .g) < (0 : Int32) then (1 : Int32) else (if (cmpValue (FP.fcmp f2 f7) .l) = (0 : Int32) then (if p4 < p13 then (1 : Int32) else (0 : Int32)) else (0 : Int32))) := ⟨_, rfl⟩
  obtain ⟨_, T30, L30, X30, hQ30, st30⟩ := own_private X25 hx hZ hown (y := y_5) E_a1 (w_52 hw) (w_53 hw) (Jvm.Kit.selects_private (by decide) (mvT hZ (w_6 hw)) (mvP hZ (w_54 hw)) (mvT hZ (w_53 hw))) (w_54 hw) (w_7 hw) (w_55 hw) (rm28 l Z a0 hw [] a1 f2 q3 p4 a5 f7 k8 a27 q28 k29 a11 p13 k14 h0 n0 Z0 F_scoresAsRead_a1 V_a5 g_a5 F_scores_a1 ne_a1_a5 V_a27 ne_a27_a5 g_a27 F_ordinals_a1 ne_a1_a27 V_a11 ne_a11_a5 ne_a11_a27 g_a11 E_a5 E_a27 E_a11) e25 (Ls := #[.val (.ref a1), .val (.int 1), .val (.float f2), .val (.long q3), .second, .val (.int p4), .val (.int 1), .val (.int 0)]) (by rw [hml]; rfl) (argsL := [(.int 1), (.float f2), (.long q3), (.int p4)]) (rest := []) (lenOf pd_5 rfl) (hb hby d8_64) (W := 0)
  obtain ⟨rfl, Nq30, K30, o30_0, o30_1, o30_2, o30_3, o30_4, o30_5⟩ := hQ30
  have N30 := Fr.app N25 Nq30
  have s0 := K30.1
  have Kp0 : Keep h0 T30.heap [a5, a27, a11] := (Keep.refl h0 [a5, a27, a11]).trans K30 (allS (Or.inl (List.mem_of_getElem? (i := 0) rfl)) (allS (Or.inl (List.mem_of_getElem? (i := 1) rfl)) (allS (Or.inl (List.mem_of_getElem? (i := 2) rfl)) all0)))
  refine ⟨T30, _, _, _, none, X30, (fun _ => rfl), by decide, by decide, ?_, fun fs hr => ?_⟩
  · subst ex26
    unfold Q32
    rw [show (if (if (cmpValue (FP.fcmp f2 f7) .g) < (0 : Int32) then (1 : Int32) else (if (cmpValue (FP.fcmp f2 f7) .l) = (0 : Int32) then (if p4 < p13 then (1 : Int32) else (0 : Int32)) else (0 : Int32))) = (0 : Int32) then f7 else f2) = f7 from by rw [if_pos cc1]]
    rw [show (if (if (cmpValue (FP.fcmp f2 f7) .g) < (0 : Int32) then (1 : Int32) else (if (cmpValue (FP.fcmp f2 f7) .l) = (0 : Int32) then (if p4 < p13 then (1 : Int32) else (0 : Int32)) else (0 : Int32))) = (0 : Int32) then f2 else f7) = f2 from by rw [if_pos cc1]]
    rw [show (if (if (cmpValue (FP.fcmp f2 f7) .g) < (0 : Int32) then (1 : Int32) else (if (cmpValue (FP.fcmp f2 f7) .l) = (0 : Int32) then (if p4 < p13 then (1 : Int32) else (0 : Int32)) else (0 : Int32))) = (0 : Int32) then q28 else q3) = q28 from by rw [if_pos cc1]]
    rw [show (if (if (cmpValue (FP.fcmp f2 f7) .g) < (0 : Int32) then (1 : Int32) else (if (cmpValue (FP.fcmp f2 f7) .l) = (0 : Int32) then (if p4 < p13 then (1 : Int32) else (0 : Int32)) else (0 : Int32))) = (0 : Int32) then q3 else q28) = q3 from by rw [if_pos cc1]]
    rw [show (if (if (cmpValue (FP.fcmp f2 f7) .g) < (0 : Int32) then (1 : Int32) else (if (cmpValue (FP.fcmp f2 f7) .l) = (0 : Int32) then (if p4 < p13 then (1 : Int32) else (0 : Int32)) else (0 : Int32))) = (0 : Int32) then p13 else p4) = p13 from by rw [if_pos cc1]]
    rw [show (if (if (cmpValue (FP.fcmp f2 f7) .g) < (0 : Int32) then (1 : Int32) else (if (cmpValue (FP.fcmp f2 f7) .l) = (0 : Int32) then (if p4 < p13 then (1 : Int32) else (0 : Int32)) else (0 : Int32))) = (0 : Int32) then p4 else p13) = p4 from by rw [if_pos cc1]]
    exact ⟨rfl, N30, Kp0, o30_0, o30_1, o30_2, o30_3, o30_4, o30_5⟩
  · refine XS.iloadN X0.here hx rfl (hb hby d8_0) rfl ?_
    refine XS.istore X0.here hx rfl (hb hby d8_1) rfl (l' := #[.val (.ref a1), .val (.int 1), .val (.float f2), .val (.long q3), .second, .val (.int p4), .val (.int 1), .unset]) rfl ?_
    refine XS.iload X0.here hx rfl (hb hby d8_3) rfl ?_
    refine XS.ifNo X0.here hx rfl (hb hby d8_5) rfl ((if0 _ _).trans (tlt ((by decide : (0 : Int32) < (1 : Int32)) : (0 : Int32) < (1 : Int32))).2.2.2) ?_
    refine XS.iload X0.here hx rfl (hb hby d8_8) rfl ?_
    refine XS.iconst X0.here hx rfl (hb hby d8_10) ?_
    refine XS.isub X0.here hx rfl (hb hby d8_11) rfl ?_
    refine XS.iconst X0.here hx rfl (hb hby d8_12) ?_
    refine XS.idiv X0.here hx rfl (hb hby d8_13) rfl (by decide : ¬ ((2 : Int32) = (0 : Int32))) ?_
    refine XS.istore X0.here hx rfl (hb hby d8_14) rfl (l' := #[.val (.ref a1), .val (.int 1), .val (.float f2), .val (.long q3), .second, .val (.int p4), .val (.int 1), .val (.int 0)]) rfl ?_
    refine XS.floadN X0.here hx rfl (hb hby d8_16) rfl ?_
    refine XS.iload X0.here hx rfl (hb hby d8_17) rfl ?_
    refine XS.aloadN X0.here hx rfl (hb hby d8_19) rfl rfl ?_
    refine st19 _ ?_
    refine XS.iload X19.here hx rfl (hb hby d8_23) rfl ?_
    refine X19.faload hx (j := (0 : Int32)) (v := (.float f7)) (by rw [e19]; exact Ar20.1) (State.isArrayOf_alike hZ.alike Ar20.2.1) Ar20.2.2 hin21 (Has.at Hs20 hin21 rfl) (g := (mkF m 25 #[.val (.ref a1), .val (.int 1), .val (.float f2), .val (.long q3), .second, .val (.int p4), .val (.int 1), .val (.int 0)] [(.int 0), (.ref a5), (.int p4), (.float f2)])) rfl rfl (hb hby d8_25) _ ?_
    refine XS.aloadN X19.here hx rfl (hb hby d8_26) rfl rfl ?_
    refine st22 _ ?_
    refine XS.iload X22.here hx rfl (hb hby d8_30) rfl ?_
    refine X22.iaload hx (j := (0 : Int32)) (v := (.int p13)) (by rw [e22]; exact Ar23.1) (State.isArrayOf_alike hZ.alike Ar23.2.1) Ar23.2.2 hin24 (Has.at Hs23 hin24 rfl) (g := (mkF m 32 #[.val (.ref a1), .val (.int 1), .val (.float f2), .val (.long q3), .second, .val (.int p4), .val (.int 1), .val (.int 0)] [(.int 0), (.ref a11), (.float f7), (.int p4), (.float f2)])) rfl rfl (hb hby d8_32) _ ?_
    refine st25 _ ?_
    show Steps p.tables e below (T25.setTop (mkF m 36 #[.val (.ref a1), .val (.int 1), .val (.float f2), .val (.long q3), .second, .val (.int p4), .val (.int 1), .val (.int 0)] [(.int (if (cmpValue (FP.fcmp f2 f7) .g) < (0 : Int32) then (1 : Int32) else (if (cmpValue (FP.fcmp f2 f7) .l) = (0 : Int32) then (if p4 < p13 then (1 : Int32) else (0 : Int32)) else (0 : Int32))))])) _
    rw [← ex26]
    refine XS.ifNo X25.here hx rfl (hb hby d8_36) rfl ((if0 _ _).trans (teq ((by rw [ex26]; exact cc1) : x26 = (0 : Int32))).2) ?_
    refine XS.goto X25.here hx rfl (pc0 := 39) (pc' := 57) rfl (hb hby d8_39) (by decide) (by decide) ?_
    refine XS.aloadN X25.here hx rfl (hb hby d8_57) rfl rfl ?_
    refine XS.iload X25.here hx rfl (hb hby d8_58) rfl ?_
    refine XS.floadN X25.here hx rfl (hb hby d8_60) rfl ?_
    refine XS.lloadN X25.here hx rfl (hb hby d8_61) rfl ?_
    refine XS.iload X25.here hx rfl (hb hby d8_62) rfl ?_
    refine st30 _ ?_
    exact X30.returnOut hx hret (hb hby d8_67) hr
theorem rm32_1 (l : Launch) (Z : State) (a0 : Array Value) (hw : HW a0 Z) (ws : List Jvm.Cond) (a1 : Addr) (f2 : UInt32) (q3 : Int64) (p4 : Int32) (a5 : Addr) (f7 : UInt32) (k8 : ClassId) (a11 : Addr) (p13 : Int32) (k14 : ClassId) (a27 : Addr) (q28 : Int64) (k29 : ClassId) (h0 : Heap) (n0 : Nat) (Z0 : n0 ≤ h0.size) (F_scoresAsRead_a1 : Fld Z h0 a1 kT "scoresAsRead" "[F" (.ref a5)) (V_a5 : Arv Z h0 a5 k8 .float (2 : Int32) [(.float f7), (.float 0)] (.float 0)) (F_ordinals_a1 : Fld Z h0 a1 kT "ordinals" "[I" (.ref a11)) (V_a11 : Arv Z h0 a11 k14 .int (2 : Int32) [(.int p13), (.int 0)] (.int 0)) (g_a5 : n0 ≤ a5) (F_scores_a1 : Fld Z h0 a1 kT "scores" "[J" (.ref a27)) (ne_a1_a5 : a1 ≠ a5) (V_a27 : Arv Z h0 a27 k29 .long (2 : Int32) [(.long q28), (.long 0)] (.long 0)) (ne_a27_a5 : a27 ≠ a5) (g_a27 : n0 ≤ a27) (ne_a1_a27 : a1 ≠ a27) (ne_a11_a5 : a11 ≠ a5) (ne_a11_a27 : a11 ≠ a27) (g_a11 : n0 ≤ a11) (E_a5 : Exa Z h0 a5 "[F") (E_a27 : Exa Z h0 a27 "[J") (E_a11 : Exa Z h0 a11 "[I") (E_a1 : Exa Z h0 a1 kT) (ne_a1_a11 : a1 ≠ a11) (cc1 : ¬ ((if (cmpValue (FP.fcmp f2 f7) .g) < (0 : Int32) then (1 : Int32) else (if (cmpValue (FP.fcmp f2 f7) .l) = (0 : Int32) then (if p4 < p13 then (1 : Int32) else (0 : Int32)) else (0 : Int32))) = (0 : Int32))) :
    OwnMet l Z y_6 prog_25_method_8_code 8 none ws Rm32 #[(.ref a1), (.int 1), (.float f2), (.long q3), (.int p4)] h0 (Q32 Z a1 f2 q3 p4 a5 f7 k8 a11 p13 k14 a27 q28 k29 h0 n0) := by
  refine own_body (plainFor_of_name pn_1) (ef_281084 a1 f2 q3 p4) ?_
  intro p e s m below meth c s₁ hx hby hml hown hnm hret hZ X0 e0
  have N0 := Fr.nil n0
  obtain ⟨T31, X31, e31, st31⟩ := getF X0 hx hZ hown (host := "") (Or.inl (w_21 hw)) Via.refl e0 F_scoresAsRead_a1 (g := (mkF m 20 #[.val (.ref a1), .val (.int 1), .val (.float f2), .val (.long q3), .second, .val (.int p4), .val (.int 1), .val (.int 0)] [(.ref a1), (.int p4), (.float f2)])) rfl rfl (hb hby d8_20)
  obtain ⟨cl32, Ar32, q32, S32, M32, Hs32, G32⟩ := id V_a5
  have hin33 : ¬ ((0 : Int32) < 0 ∨ cl32.slots.size ≤ ((0 : Int32)).toNatClampNeg) := inb_of S32 ⟨(by decide : ¬ ((0 : Int32) < (0 : Int32))), (by decide : (0 : Int32) < (2 : Int32))⟩
  obtain ⟨T34, X34, e34, st34⟩ := getF X31 hx hZ hown (host := "") (Or.inl (w_27 hw)) Via.refl e31 F_ordinals_a1 (g := (mkF m 27 #[.val (.ref a1), .val (.int 1), .val (.float f2), .val (.long q3), .second, .val (.int p4), .val (.int 1), .val (.int 0)] [(.ref a1), (.float f7), (.int p4), (.float f2)])) rfl rfl (hb hby d8_27)
  obtain ⟨cl35, Ar35, q35, S35, M35, Hs35, G35⟩ := id V_a11
  have hin36 : ¬ ((0 : Int32) < 0 ∨ cl35.slots.size ≤ ((0 : Int32)).toNatClampNeg) := inb_of S35 ⟨(by decide : ¬ ((0 : Int32) < (0 : Int32))), (by decide : (0 : Int32) < (2 : Int32))⟩
  obtain ⟨_, T37, L37, X37, hQ37, st37⟩ := own_callS X34 hx hZ hown (y := y_9) (w_60 hw) (w_61 hw) (w_7 hw) (w_62 hw) (rm11 l Z a0 hw [] f2 p4 f7 p13 h0 n0 Z0) e34 (Ls := #[.val (.ref a1), .val (.int 1), .val (.float f2), .val (.long q3), .second, .val (.int p4), .val (.int 1), .val (.int 0)]) (by rw [hml]; rfl) (argsL := [(.float f2), (.int p4), (.float f7), (.int p13)]) (rest := []) (lenOf pd_8 rfl) (hb hby d8_33) (W := 0)
  obtain ⟨rfl, Nq37, e37⟩ := hQ37
  have N37 := Fr.app N0 Nq37
  obtain ⟨x38, ex38⟩ : ∃ z, z = (if (cmpValue (FP.fcmp f2 f7) .g) < (0 : Int32) then (1 : Int32) else (if (cmpValue (FP.fcmp f2 f7) .l) = (0 : Int32) then (if p4 < p13 then (1 : Int32) else (0 : Int32)) else (0 : Int32))) := ⟨_, rfl⟩
  obtain ⟨_, T39, L39, X39, hQ39, st39⟩ := own_private X37 hx hZ hown (y := y_12) E_a1 (w_66 hw) (w_67 hw) (Jvm.Kit.selects_private (by decide) (mvT hZ (w_6 hw)) (mvP hZ (w_68 hw)) (mvT hZ (w_67 hw))) (w_68 hw) (w_7 hw) (w_69 hw) (rm30 l Z a0 hw [] a1 a5 f7 k8 a27 q28 k29 a11 p13 k14 h0 n0 Z0 F_scoresAsRead_a1 V_a5 F_scores_a1 V_a27 F_ordinals_a1 V_a11 g_a5 ne_a1_a5 ne_a27_a5 g_a27 ne_a1_a27 ne_a11_a5 ne_a11_a27 g_a11 E_a5 E_a27 E_a11 E_a1) e37 (Ls := #[.val (.ref a1), .val (.int 1), .val (.float f2), .val (.long q3), .second, .val (.int p4), .val (.int 1), .val (.int 0)]) (by rw [hml]; rfl) (argsL := [(.int 0), (.int 1)]) (rest := []) (lenOf pd_11 rfl) (hb hby d8_47) (W := 0)
  obtain ⟨rfl, Nq39, K39, o39_0, o39_1, o39_2, o39_3, o39_4, o39_5⟩ := hQ39
  have N39 := Fr.app N37 Nq39
  have s0 := K39.1
  have Fl40 := (F_scoresAsRead_a1.keep K39 (ninS ne_a1_a5 (ninS ne_a1_a27 (ninS ne_a1_a11 nin0))))
  have Fl41 := (F_scores_a1.keep K39 (ninS ne_a1_a5 (ninS ne_a1_a27 (ninS ne_a1_a11 nin0))))
  have Fl42 := (F_ordinals_a1.keep K39 (ninS ne_a1_a5 (ninS ne_a1_a27 (ninS ne_a1_a11 nin0))))
  have z1 := Nat.le_trans Z0 s0
  have Ex44 := (E_a1.keep K39)
  obtain ⟨_, T43, L43, X43, hQ43, st43⟩ := own_private X39 hx hZ hown (y := y_5) Ex44 (w_52 hw) (w_53 hw) (Jvm.Kit.selects_private (by decide) (mvT hZ (w_6 hw)) (mvP hZ (w_54 hw)) (mvT hZ (w_53 hw))) (w_54 hw) (w_7 hw) (w_55 hw) (rm31 l Z a0 hw [] a1 f2 q3 p4 a5 f7 k8 a27 q28 k29 a11 p13 k14 T39.heap n0 z1 Fl40 o39_1 g_a5 Fl41 ne_a1_a5 o39_3 ne_a27_a5 g_a27 Fl42 ne_a1_a27 o39_5 ne_a11_a5 ne_a11_a27 g_a11 o39_0 o39_2 o39_4) rfl (Ls := #[.val (.ref a1), .val (.int 1), .val (.float f2), .val (.long q3), .second, .val (.int p4), .val (.int 0), .val (.int 0)]) (by rw [hml]; rfl) (argsL := [(.int 0), (.float f2), (.long q3), (.int p4)]) (rest := []) (lenOf pd_5 rfl) (hb hby d8_64) (W := 0)
  obtain ⟨rfl, Nq43, K43, o43_0, o43_1, o43_2, o43_3, o43_4, o43_5⟩ := hQ43
  have N43 := Fr.app N39 Nq43
  have s1 := K43.1
  have Kp0 : Keep h0 T39.heap [a5, a27, a11] := (Keep.refl h0 [a5, a27, a11]).trans K39 (allS (Or.inl (List.mem_of_getElem? (i := 0) rfl)) (allS (Or.inl (List.mem_of_getElem? (i := 1) rfl)) (allS (Or.inl (List.mem_of_getElem? (i := 2) rfl)) all0)))
  have Kp1 : Keep h0 T43.heap [a5, a27, a11] := Kp0.trans K43 (allS (Or.inl (List.mem_of_getElem? (i := 0) rfl)) (allS (Or.inl (List.mem_of_getElem? (i := 1) rfl)) (allS (Or.inl (List.mem_of_getElem? (i := 2) rfl)) all0)))
  refine ⟨T43, _, _, _, none, X43, (fun _ => rfl), by decide, by decide, ?_, fun fs hr => ?_⟩
  · subst ex38
    unfold Q32
    rw [show (if (if (cmpValue (FP.fcmp f2 f7) .g) < (0 : Int32) then (1 : Int32) else (if (cmpValue (FP.fcmp f2 f7) .l) = (0 : Int32) then (if p4 < p13 then (1 : Int32) else (0 : Int32)) else (0 : Int32))) = (0 : Int32) then f7 else f2) = f2 from by rw [if_neg cc1]]
    rw [show (if (if (cmpValue (FP.fcmp f2 f7) .g) < (0 : Int32) then (1 : Int32) else (if (cmpValue (FP.fcmp f2 f7) .l) = (0 : Int32) then (if p4 < p13 then (1 : Int32) else (0 : Int32)) else (0 : Int32))) = (0 : Int32) then f2 else f7) = f7 from by rw [if_neg cc1]]
    rw [show (if (if (cmpValue (FP.fcmp f2 f7) .g) < (0 : Int32) then (1 : Int32) else (if (cmpValue (FP.fcmp f2 f7) .l) = (0 : Int32) then (if p4 < p13 then (1 : Int32) else (0 : Int32)) else (0 : Int32))) = (0 : Int32) then q28 else q3) = q3 from by rw [if_neg cc1]]
    rw [show (if (if (cmpValue (FP.fcmp f2 f7) .g) < (0 : Int32) then (1 : Int32) else (if (cmpValue (FP.fcmp f2 f7) .l) = (0 : Int32) then (if p4 < p13 then (1 : Int32) else (0 : Int32)) else (0 : Int32))) = (0 : Int32) then q3 else q28) = q28 from by rw [if_neg cc1]]
    rw [show (if (if (cmpValue (FP.fcmp f2 f7) .g) < (0 : Int32) then (1 : Int32) else (if (cmpValue (FP.fcmp f2 f7) .l) = (0 : Int32) then (if p4 < p13 then (1 : Int32) else (0 : Int32)) else (0 : Int32))) = (0 : Int32) then p13 else p4) = p4 from by rw [if_neg cc1]]
    rw [show (if (if (cmpValue (FP.fcmp f2 f7) .g) < (0 : Int32) then (1 : Int32) else (if (cmpValue (FP.fcmp f2 f7) .l) = (0 : Int32) then (if p4 < p13 then (1 : Int32) else (0 : Int32)) else (0 : Int32))) = (0 : Int32) then p4 else p13) = p13 from by rw [if_neg cc1]]
    exact ⟨rfl, N43, Kp1, o43_0, o43_1, o43_2, o43_3, o43_4, o43_5⟩
  · refine XS.iloadN X0.here hx rfl (hb hby d8_0) rfl ?_
    refine XS.istore X0.here hx rfl (hb hby d8_1) rfl (l' := #[.val (.ref a1), .val (.int 1), .val (.float f2), .val (.long q3), .second, .val (.int p4), .val (.int 1), .unset]) rfl ?_
    refine XS.iload X0.here hx rfl (hb hby d8_3) rfl ?_
    refine XS.ifNo X0.here hx rfl (hb hby d8_5) rfl ((if0 _ _).trans (tlt ((by decide : (0 : Int32) < (1 : Int32)) : (0 : Int32) < (1 : Int32))).2.2.2) ?_
    refine XS.iload X0.here hx rfl (hb hby d8_8) rfl ?_
    refine XS.iconst X0.here hx rfl (hb hby d8_10) ?_
    refine XS.isub X0.here hx rfl (hb hby d8_11) rfl ?_
    refine XS.iconst X0.here hx rfl (hb hby d8_12) ?_
    refine XS.idiv X0.here hx rfl (hb hby d8_13) rfl (by decide : ¬ ((2 : Int32) = (0 : Int32))) ?_
    refine XS.istore X0.here hx rfl (hb hby d8_14) rfl (l' := #[.val (.ref a1), .val (.int 1), .val (.float f2), .val (.long q3), .second, .val (.int p4), .val (.int 1), .val (.int 0)]) rfl ?_
    refine XS.floadN X0.here hx rfl (hb hby d8_16) rfl ?_
    refine XS.iload X0.here hx rfl (hb hby d8_17) rfl ?_
    refine XS.aloadN X0.here hx rfl (hb hby d8_19) rfl rfl ?_
    refine st31 _ ?_
    refine XS.iload X31.here hx rfl (hb hby d8_23) rfl ?_
    refine X31.faload hx (j := (0 : Int32)) (v := (.float f7)) (by rw [e31]; exact Ar32.1) (State.isArrayOf_alike hZ.alike Ar32.2.1) Ar32.2.2 hin33 (Has.at Hs32 hin33 rfl) (g := (mkF m 25 #[.val (.ref a1), .val (.int 1), .val (.float f2), .val (.long q3), .second, .val (.int p4), .val (.int 1), .val (.int 0)] [(.int 0), (.ref a5), (.int p4), (.float f2)])) rfl rfl (hb hby d8_25) _ ?_
    refine XS.aloadN X31.here hx rfl (hb hby d8_26) rfl rfl ?_
    refine st34 _ ?_
    refine XS.iload X34.here hx rfl (hb hby d8_30) rfl ?_
    refine X34.iaload hx (j := (0 : Int32)) (v := (.int p13)) (by rw [e34]; exact Ar35.1) (State.isArrayOf_alike hZ.alike Ar35.2.1) Ar35.2.2 hin36 (Has.at Hs35 hin36 rfl) (g := (mkF m 32 #[.val (.ref a1), .val (.int 1), .val (.float f2), .val (.long q3), .second, .val (.int p4), .val (.int 1), .val (.int 0)] [(.int 0), (.ref a11), (.float f7), (.int p4), (.float f2)])) rfl rfl (hb hby d8_32) _ ?_
    refine st37 _ ?_
    show Steps p.tables e below (T37.setTop (mkF m 36 #[.val (.ref a1), .val (.int 1), .val (.float f2), .val (.long q3), .second, .val (.int p4), .val (.int 1), .val (.int 0)] [(.int (if (cmpValue (FP.fcmp f2 f7) .g) < (0 : Int32) then (1 : Int32) else (if (cmpValue (FP.fcmp f2 f7) .l) = (0 : Int32) then (if p4 < p13 then (1 : Int32) else (0 : Int32)) else (0 : Int32))))])) _
    rw [← ex38]
    refine XS.ifYes X37.here hx rfl (pc0 := 36) (pc' := 42) rfl (hb hby d8_36) rfl ((if0 _ _).trans (feq ((by rw [ex38]; exact cc1) : ¬ (x38 = (0 : Int32)))).2) (by decide) (by decide) ?_
    refine XS.aloadN X37.here hx rfl (hb hby d8_42) rfl rfl ?_
    refine XS.iload X37.here hx rfl (hb hby d8_43) rfl ?_
    refine XS.iload X37.here hx rfl (hb hby d8_45) rfl ?_
    refine st39 _ ?_
    refine XS.iload X39.here hx rfl (hb hby d8_50) rfl ?_
    refine XS.istore X39.here hx rfl (hb hby d8_52) rfl (l' := #[.val (.ref a1), .val (.int 1), .val (.float f2), .val (.long q3), .second, .val (.int p4), .val (.int 0), .val (.int 0)]) rfl ?_
    refine XS.goto X39.here hx rfl (pc0 := 54) (pc' := 3) rfl (hb hby d8_54) (by decide) (by decide) ?_
    refine XS.iload X39.here hx rfl (hb hby d8_3) rfl ?_
    refine XS.ifYes X39.here hx rfl (pc0 := 5) (pc' := 57) rfl (hb hby d8_5) rfl ((if0 _ _).trans (flt ((by decide : ¬ ((0 : Int32) < (0 : Int32))) : ¬ ((0 : Int32) < (0 : Int32)))).2.2.2) (by decide) (by decide) ?_
    refine XS.aloadN X39.here hx rfl (hb hby d8_57) rfl rfl ?_
    refine XS.iload X39.here hx rfl (hb hby d8_58) rfl ?_
    refine XS.floadN X39.here hx rfl (hb hby d8_60) rfl ?_
    refine XS.lloadN X39.here hx rfl (hb hby d8_61) rfl ?_
    refine XS.iload X39.here hx rfl (hb hby d8_62) rfl ?_
    refine st43 _ ?_
    exact X43.returnOut hx hret (hb hby d8_67) hr
theorem rm32 (l : Launch) (Z : State) (a0 : Array Value) (hw : HW a0 Z) (ws : List Jvm.Cond) (a1 : Addr) (f2 : UInt32) (q3 : Int64) (p4 : Int32) (a5 : Addr) (f7 : UInt32) (k8 : ClassId) (a11 : Addr) (p13 : Int32) (k14 : ClassId) (a27 : Addr) (q28 : Int64) (k29 : ClassId) (h0 : Heap) (n0 : Nat) (Z0 : n0 ≤ h0.size) (F_scoresAsRead_a1 : Fld Z h0 a1 kT "scoresAsRead" "[F" (.ref a5)) (V_a5 : Arv Z h0 a5 k8 .float (2 : Int32) [(.float f7), (.float 0)] (.float 0)) (F_ordinals_a1 : Fld Z h0 a1 kT "ordinals" "[I" (.ref a11)) (V_a11 : Arv Z h0 a11 k14 .int (2 : Int32) [(.int p13), (.int 0)] (.int 0)) (g_a5 : n0 ≤ a5) (F_scores_a1 : Fld Z h0 a1 kT "scores" "[J" (.ref a27)) (ne_a1_a5 : a1 ≠ a5) (V_a27 : Arv Z h0 a27 k29 .long (2 : Int32) [(.long q28), (.long 0)] (.long 0)) (ne_a27_a5 : a27 ≠ a5) (g_a27 : n0 ≤ a27) (ne_a1_a27 : a1 ≠ a27) (ne_a11_a5 : a11 ≠ a5) (ne_a11_a27 : a11 ≠ a27) (g_a11 : n0 ≤ a11) (E_a5 : Exa Z h0 a5 "[F") (E_a27 : Exa Z h0 a27 "[J") (E_a11 : Exa Z h0 a11 "[I") (E_a1 : Exa Z h0 a1 kT) (ne_a1_a11 : a1 ≠ a11) :
    OwnMet l Z y_6 prog_25_method_8_code 8 none ws Rm32 #[(.ref a1), (.int 1), (.float f2), (.long q3), (.int p4)] h0 (Q32 Z a1 f2 q3 p4 a5 f7 k8 a11 p13 k14 a27 q28 k29 h0 n0) := by
  by_cases cc1 : (if (cmpValue (FP.fcmp f2 f7) .g) < (0 : Int32) then (1 : Int32) else (if (cmpValue (FP.fcmp f2 f7) .l) = (0 : Int32) then (if p4 < p13 then (1 : Int32) else (0 : Int32)) else (0 : Int32))) = (0 : Int32)
  · exact rm32_0 l Z a0 hw ws a1 f2 q3 p4 a5 f7 k8 a11 p13 k14 a27 q28 k29 h0 n0 Z0 F_scoresAsRead_a1 V_a5 F_ordinals_a1 V_a11 g_a5 F_scores_a1 ne_a1_a5 V_a27 ne_a27_a5 g_a27 ne_a1_a27 ne_a11_a5 ne_a11_a27 g_a11 E_a5 E_a27 E_a11 E_a1 ne_a1_a11 cc1
  · exact rm32_1 l Z a0 hw ws a1 f2 q3 p4 a5 f7 k8 a11 p13 k14 a27 q28 k29 h0 n0 Z0 F_scoresAsRead_a1 V_a5 F_ordinals_a1 V_a11 g_a5 F_scores_a1 ne_a1_a5 V_a27 ne_a27_a5 g_a27 ne_a1_a27 ne_a11_a5 ne_a11_a27 g_a11 E_a5 E_a27 E_a11 E_a1 ne_a1_a11 cc1
-- com/example/senret/senret/TopSentences.offer(JI)V
abbrev Rm33 : Room := { frames := 3, cells := 0, slots := 0, locals := 50 }
def Q33 (Z : State) (a1 : Addr) (q2 : Int64) (p3 : Int32) (a7 : Addr) (q8 : Int64) (k9 : ClassId) (a14 : Addr) (f17 : UInt32) (k18 : ClassId) (a20 : Addr) (p22 : Int32) (k23 : ClassId) (h0 : Heap) (n0 : Nat) (v : Option Value) (h : Heap) (L : List Loc) : Prop := v = none ∧ Fr n0 L ∧ Keep h0 h [a1, a14, a7, a20] ∧ Exa Z h a1 kT ∧ Fld Z h a1 kT "depth" "I" (.int 2) ∧ Fld Z h a1 kT "ordinals" "[I" (.ref a20) ∧ Fld Z h a1 kT "scores" "[J" (.ref a7) ∧ Fld Z h a1 kT "scoresAsRead" "[F" (.ref a14) ∧ Fld Z h a1 kT "size" "I" (.int 2) ∧ Exa Z h a14 "[F" ∧ Arv Z h a14 k18 .float (2 : Int32) [(.float (if (if (cmpValue (FP.fcmp (sC q2) f17) .g) < (0 : Int32) then (1 : Int32) else (if (cmpValue (FP.fcmp (sC q2) f17) .l) = (0 : Int32) then (if p3 < p22 then (1 : Int32) else (0 : Int32)) else (0 : Int32))) = (0 : Int32) then f17 else (sC q2))), (.float (if (if (cmpValue (FP.fcmp (sC q2) f17) .g) < (0 : Int32) then (1 : Int32) else (if (cmpValue (FP.fcmp (sC q2) f17) .l) = (0 : Int32) then (if p3 < p22 then (1 : Int32) else (0 : Int32)) else (0 : Int32))) = (0 : Int32) then (sC q2) else f17))] (.float 0) ∧ Exa Z h a7 "[J" ∧ Arv Z h a7 k9 .long (2 : Int32) [(.long (if (if (cmpValue (FP.fcmp (sC q2) f17) .g) < (0 : Int32) then (1 : Int32) else (if (cmpValue (FP.fcmp (sC q2) f17) .l) = (0 : Int32) then (if p3 < p22 then (1 : Int32) else (0 : Int32)) else (0 : Int32))) = (0 : Int32) then q8 else q2)), (.long (if (if (cmpValue (FP.fcmp (sC q2) f17) .g) < (0 : Int32) then (1 : Int32) else (if (cmpValue (FP.fcmp (sC q2) f17) .l) = (0 : Int32) then (if p3 < p22 then (1 : Int32) else (0 : Int32)) else (0 : Int32))) = (0 : Int32) then q2 else q8))] (.long 0) ∧ Exa Z h a20 "[I" ∧ Arv Z h a20 k23 .int (2 : Int32) [(.int (if (if (cmpValue (FP.fcmp (sC q2) f17) .g) < (0 : Int32) then (1 : Int32) else (if (cmpValue (FP.fcmp (sC q2) f17) .l) = (0 : Int32) then (if p3 < p22 then (1 : Int32) else (0 : Int32)) else (0 : Int32))) = (0 : Int32) then p22 else p3)), (.int (if (if (cmpValue (FP.fcmp (sC q2) f17) .g) < (0 : Int32) then (1 : Int32) else (if (cmpValue (FP.fcmp (sC q2) f17) .l) = (0 : Int32) then (if p3 < p22 then (1 : Int32) else (0 : Int32)) else (0 : Int32))) = (0 : Int32) then p3 else p22))] (.int 0)
-- ef_8cdad2
theorem rm33 (l : Launch) (Z : State) (a0 : Array Value) (hw : HW a0 Z) (ws : List Jvm.Cond) (a1 : Addr) (q2 : Int64) (p3 : Int32) (a7 : Addr) (q8 : Int64) (k9 : ClassId) (a14 : Addr) (f17 : UInt32) (k18 : ClassId) (a20 : Addr) (p22 : Int32) (k23 : ClassId) (h0 : Heap) (n0 : Nat) (Z0 : n0 ≤ h0.size) (F_size_a1 : Fld Z h0 a1 kT "size" "I" (.int 1)) (F_depth_a1 : Fld Z h0 a1 kT "depth" "I" (.int 2)) (F_scores_a1 : Fld Z h0 a1 kT "scores" "[J" (.ref a7)) (V_a7 : Arv Z h0 a7 k9 .long (2 : Int32) [(.long q8), (.long 0)] (.long 0)) (E_a1 : Exa Z h0 a1 kT) (g_a1 : n0 ≤ a1) (F_scoresAsRead_a1 : Fld Z h0 a1 kT "scoresAsRead" "[F" (.ref a14)) (V_a14 : Arv Z h0 a14 k18 .float (2 : Int32) [(.float f17), (.float 0)] (.float 0)) (ne_a14_a1 : a14 ≠ a1) (F_ordinals_a1 : Fld Z h0 a1 kT "ordinals" "[I" (.ref a20)) (V_a20 : Arv Z h0 a20 k23 .int (2 : Int32) [(.int p22), (.int 0)] (.int 0)) (ne_a20_a1 : a20 ≠ a1) (g_a14 : n0 ≤ a14) (ne_a7_a1 : a7 ≠ a1) (ne_a7_a14 : a7 ≠ a14) (g_a7 : n0 ≤ a7) (ne_a20_a14 : a20 ≠ a14) (ne_a20_a7 : a20 ≠ a7) (g_a20 : n0 ≤ a20) (E_a14 : Exa Z h0 a14 "[F") (E_a7 : Exa Z h0 a7 "[J") (E_a20 : Exa Z h0 a20 "[I") :
    OwnMet l Z y_7 prog_25_method_4_code 5 none ws Rm33 #[(.ref a1), (.long q2), (.int p3)] h0 (Q33 Z a1 q2 p3 a7 q8 k9 a14 f17 k18 a20 p22 k23 h0 n0) := by
  refine own_body (plainFor_of_name pn_1) (ef_8cdad2 a1 q2 p3) ?_
  intro p e s m below meth c s₁ hx hby hml hown hnm hret hZ X0 e0
  have N0 := Fr.nil n0
  obtain ⟨_, T4, L4, X4, hQ4, st4⟩ := own_callS X0 hx hZ hown (y := y_0) (w_43 hw) (w_1 hw) (w_2 hw) (w_3 hw) (rm1 l Z a0 hw [] q2 h0 n0 Z0) e0 (Ls := #[.val (.ref a1), .val (.long q2), .second, .val (.int p3), .unset]) (by rw [hml]; rfl) (argsL := [(.long q2)]) (rest := []) (lenOf pd_0 rfl) (hb hby d6_1) (W := 0)
  obtain ⟨rfl, Nq4, e4⟩ := hQ4
  have N4 := Fr.app N0 Nq4
  obtain ⟨T5, X5, e5, st5⟩ := getF X4 hx hZ hown (host := "") (Or.inl (w_34 hw)) Via.refl e4 F_size_a1 (g := (mkF m 7 #[.val (.ref a1), .val (.long q2), .second, .val (.int p3), .val (.float (sC q2))] [(.ref a1)])) rfl rfl (hb hby d6_7)
  obtain ⟨T6, X6, e6, st6⟩ := getF X5 hx hZ hown (host := "") (Or.inl (w_14 hw)) Via.refl e5 F_depth_a1 (g := (mkF m 11 #[.val (.ref a1), .val (.long q2), .second, .val (.int p3), .val (.float (sC q2))] [(.ref a1), (.int 1)])) rfl rfl (hb hby d6_11)
  obtain ⟨_, T10, L10, X10, hQ10, st10⟩ := own_private X6 hx hZ hown (y := y_4) E_a1 (w_44 hw) (w_45 hw) (Jvm.Kit.selects_private (by decide) (mvT hZ (w_6 hw)) (mvP hZ (w_46 hw)) (mvT hZ (w_45 hw))) (w_46 hw) (w_7 hw) (w_47 hw) (rm27 l Z a0 hw [] a1 a7 q8 k9 h0 n0 Z0 F_size_a1 F_scores_a1 V_a7) e6 (Ls := #[.val (.ref a1), .val (.long q2), .second, .val (.int p3), .val (.float (sC q2))]) (by rw [hml]; rfl) (argsL := []) (rest := []) (lenOf pd_4 rfl) (hb hby d6_18) (W := 0)
  obtain ⟨rfl, Nq10, e10⟩ := hQ10
  have N10 := Fr.app N4 Nq10
  obtain ⟨T11, X11, e11, st11⟩ := getF X10 hx hZ hown (host := "") (Or.inl (w_34 hw)) Via.refl e10 F_size_a1 (g := (mkF m 23 #[.val (.ref a1), .val (.long q2), .second, .val (.int p3), .val (.float (sC q2))] [(.ref a1), (.ref a1)])) rfl rfl (hb hby d6_23)
  obtain ⟨T12, h12, X12, e12, W12, st12⟩ := putF X11 hx hZ hown (host := "") (Or.inl (w_34 hw)) Via.refl e11 F_size_a1 E_a1 (Or.inl (w_35 hw)) (w_6 hw) (ty := .int) (by decide) rfl rfl (g := (mkF m 28 #[.val (.ref a1), .val (.long q2), .second, .val (.int p3), .val (.float (sC q2))] [(.int 2), (.ref a1)])) rfl rfl (hb hby d6_28)
  have s0 := (Keep.of_wr W12).1
  have N12 := Fr.snoc X12 N10 g_a1
  have Fw12 : Fld Z h12 a1 kT "size" "I" (.int 2) := F_size_a1.same W12
  obtain ⟨T13, X13, e13, st13⟩ := getF X12 hx hZ hown (host := "") (Or.inl (w_34 hw)) Via.refl e12 Fw12 (g := (mkF m 33 #[.val (.ref a1), .val (.long q2), .second, .val (.int p3), .val (.float (sC q2))] [(.ref a1), (.ref a1)])) rfl rfl (hb hby d6_33)
  have Ex15 := (E_a1.wr W12)
  have Fl16 := (F_scoresAsRead_a1.other W12 (Or.inr (slot_ne (Or.inl (w_22 hw)) (Or.inl (w_35 hw)) (by decide) (t := (.array .float)) (t' := .int) (by decide) (by decide))))
  have Va19 := (V_a14.other W12 ne_a14_a1)
  have Fl21 := (F_ordinals_a1.other W12 (Or.inr (slot_ne (Or.inl (w_28 hw)) (Or.inl (w_35 hw)) (by decide) (t := (.array .int)) (t' := .int) (by decide) (by decide))))
  have Va24 := (V_a20.other W12 ne_a20_a1)
  have Fl25 := (F_scores_a1.other W12 (Or.inr (slot_ne (Or.inl (w_25 hw)) (Or.inl (w_35 hw)) (by decide) (t := (.array .long)) (t' := .int) (by decide) (by decide))))
  have Va26 := (V_a7.other W12 ne_a7_a1)
  have Ex27 := (E_a14.wr W12)
  have Ex28 := (E_a7.wr W12)
  have Ex29 := (E_a20.wr W12)
  have z1 := Nat.le_trans Z0 s0
  obtain ⟨_, T30, L30, X30, hQ30, st30⟩ := own_private X13 hx hZ hown (y := y_6) Ex15 (w_48 hw) (w_49 hw) (Jvm.Kit.selects_private (by decide) (mvT hZ (w_6 hw)) (mvP hZ (w_50 hw)) (mvT hZ (w_49 hw))) (w_50 hw) (w_7 hw) (w_51 hw) (rm32 l Z a0 hw [] a1 (sC q2) q2 p3 a14 f17 k18 a20 p22 k23 a7 q8 k9 h12 n0 z1 Fl16 Va19 Fl21 Va24 g_a14 Fl25 (Ne.symm ne_a14_a1) Va26 ne_a7_a14 g_a7 (Ne.symm ne_a7_a1) ne_a20_a14 ne_a20_a7 g_a20 Ex27 Ex28 Ex29 Ex15 (Ne.symm ne_a20_a1)) e13 (Ls := #[.val (.ref a1), .val (.long q2), .second, .val (.int p3), .val (.float (sC q2))]) (by rw [hml]; rfl) (argsL := [(.int 1), (.float (sC q2)), (.long q2), (.int p3)]) (rest := []) (lenOf pd_5 rfl) (hb hby d6_42) (W := 0)
  obtain ⟨rfl, Nq30, K30, o30_0, o30_1, o30_2, o30_3, o30_4, o30_5⟩ := hQ30
  have N30 := Fr.app N12 Nq30
  have s1 := K30.1
  obtain ⟨x31, ex31⟩ : ∃ z, z = (if (if (cmpValue (FP.fcmp (sC q2) f17) .g) < (0 : Int32) then (1 : Int32) else (if (cmpValue (FP.fcmp (sC q2) f17) .l) = (0 : Int32) then (if p3 < p22 then (1 : Int32) else (0 : Int32)) else (0 : Int32))) = (0 : Int32) then f17 else (sC q2)) := ⟨_, rfl⟩
  obtain ⟨x32, ex32⟩ : ∃ z, z = (if (if (cmpValue (FP.fcmp (sC q2) f17) .g) < (0 : Int32) then (1 : Int32) else (if (cmpValue (FP.fcmp (sC q2) f17) .l) = (0 : Int32) then (if p3 < p22 then (1 : Int32) else (0 : Int32)) else (0 : Int32))) = (0 : Int32) then (sC q2) else f17) := ⟨_, rfl⟩
  have o30_1' : Arv Z T30.heap a14 k18 .float (2 : Int32) [(.float x31), (.float x32)] (.float 0) := by rw [ex31, ex32]; exact o30_1
  obtain ⟨x33, ex33⟩ : ∃ z, z = (if (if (cmpValue (FP.fcmp (sC q2) f17) .g) < (0 : Int32) then (1 : Int32) else (if (cmpValue (FP.fcmp (sC q2) f17) .l) = (0 : Int32) then (if p3 < p22 then (1 : Int32) else (0 : Int32)) else (0 : Int32))) = (0 : Int32) then q8 else q2) := ⟨_, rfl⟩
  obtain ⟨x34, ex34⟩ : ∃ z, z = (if (if (cmpValue (FP.fcmp (sC q2) f17) .g) < (0 : Int32) then (1 : Int32) else (if (cmpValue (FP.fcmp (sC q2) f17) .l) = (0 : Int32) then (if p3 < p22 then (1 : Int32) else (0 : Int32)) else (0 : Int32))) = (0 : Int32) then q2 else q8) := ⟨_, rfl⟩
  have o30_3' : Arv Z T30.heap a7 k9 .long (2 : Int32) [(.long x33), (.long x34)] (.long 0) := by rw [ex33, ex34]; exact o30_3
  obtain ⟨x35, ex35⟩ : ∃ z, z = (if (if (cmpValue (FP.fcmp (sC q2) f17) .g) < (0 : Int32) then (1 : Int32) else (if (cmpValue (FP.fcmp (sC q2) f17) .l) = (0 : Int32) then (if p3 < p22 then (1 : Int32) else (0 : Int32)) else (0 : Int32))) = (0 : Int32) then p22 else p3) := ⟨_, rfl⟩
  obtain ⟨x36, ex36⟩ : ∃ z, z = (if (if (cmpValue (FP.fcmp (sC q2) f17) .g) < (0 : Int32) then (1 : Int32) else (if (cmpValue (FP.fcmp (sC q2) f17) .l) = (0 : Int32) then (if p3 < p22 then (1 : Int32) else (0 : Int32)) else (0 : Int32))) = (0 : Int32) then p3 else p22) := ⟨_, rfl⟩
  have o30_5' : Arv Z T30.heap a20 k23 .int (2 : Int32) [(.int x35), (.int x36)] (.int 0) := by rw [ex35, ex36]; exact o30_5
  have Ex37 := (Ex15.keep K30)
  have Fl38 := ((F_depth_a1.other W12 (Or.inr (slot_ne (Or.inr (w_15 hw)) (Or.inl (w_35 hw)) (by decide) (t := .int) (t' := .int) (by decide) (by decide)))).keep K30 (ninS (Ne.symm ne_a14_a1) (ninS (Ne.symm ne_a7_a1) (ninS (Ne.symm ne_a20_a1) nin0))))
  have Fl39 := (Fl21.keep K30 (ninS (Ne.symm ne_a14_a1) (ninS (Ne.symm ne_a7_a1) (ninS (Ne.symm ne_a20_a1) nin0))))
  have Fl40 := (Fl25.keep K30 (ninS (Ne.symm ne_a14_a1) (ninS (Ne.symm ne_a7_a1) (ninS (Ne.symm ne_a20_a1) nin0))))
  have Fl41 := (Fl16.keep K30 (ninS (Ne.symm ne_a14_a1) (ninS (Ne.symm ne_a7_a1) (ninS (Ne.symm ne_a20_a1) nin0))))
  have Fl42 := (Fw12.keep K30 (ninS (Ne.symm ne_a14_a1) (ninS (Ne.symm ne_a7_a1) (ninS (Ne.symm ne_a20_a1) nin0))))
  have Kp0 : Keep h0 h12 [a1, a14, a7, a20] := (Keep.refl h0 [a1, a14, a7, a20]).wr W12 (Or.inl (List.mem_of_getElem? (i := 0) rfl))
  have Kp1 : Keep h0 T30.heap [a1, a14, a7, a20] := Kp0.trans K30 (allS (Or.inl (List.mem_of_getElem? (i := 1) rfl)) (allS (Or.inl (List.mem_of_getElem? (i := 2) rfl)) (allS (Or.inl (List.mem_of_getElem? (i := 3) rfl)) all0)))
  refine ⟨T30, _, _, _, none, X30, (fun _ => rfl), by decide, by decide, ?_, fun fs hr => ?_⟩
  · subst ex36
    subst ex35
    subst ex34
    subst ex33
    subst ex32
    subst ex31
    exact ⟨rfl, N30, Kp1, Ex37, Fl38, Fl39, Fl40, Fl41, Fl42, o30_0, o30_1', o30_2, o30_3', o30_4, o30_5'⟩
  · refine XS.lloadN X0.here hx rfl (hb hby d6_0) rfl ?_
    refine st4 _ ?_
    refine XS.fstore X4.here hx rfl (hb hby d6_4) rfl (l' := #[.val (.ref a1), .val (.long q2), .second, .val (.int p3), .val (.float (sC q2))]) rfl ?_
    refine XS.aloadN X4.here hx rfl (hb hby d6_6) rfl rfl ?_
    refine st5 _ ?_
    refine XS.aloadN X5.here hx rfl (hb hby d6_10) rfl rfl ?_
    refine st6 _ ?_
    refine XS.icmpNo X6.here hx rfl (hb hby d6_14) rfl (tlt ((by decide : (1 : Int32) < (2 : Int32)) : (1 : Int32) < (2 : Int32))).2.1 ?_
    refine XS.aloadN X6.here hx rfl (hb hby d6_17) rfl rfl ?_
    refine st10 _ ?_
    refine XS.aloadN X10.here hx rfl (hb hby d6_21) rfl rfl ?_
    refine XS.dup X10.here hx rfl (hb hby d6_22) rfl rfl ?_
    refine st11 _ ?_
    refine XS.iconst X11.here hx rfl (hb hby d6_26) ?_
    refine XS.iadd X11.here hx rfl (hb hby d6_27) rfl ?_
    refine st12 _ ?_
    refine XS.aloadN X12.here hx rfl (hb hby d6_31) rfl rfl ?_
    refine XS.aloadN X12.here hx rfl (hb hby d6_32) rfl rfl ?_
    refine st13 _ ?_
    refine XS.iconst X13.here hx rfl (hb hby d6_36) ?_
    refine XS.isub X13.here hx rfl (hb hby d6_37) rfl ?_
    refine XS.fload X13.here hx rfl (hb hby d6_38) rfl ?_
    refine XS.lloadN X13.here hx rfl (hb hby d6_40) rfl ?_
    refine XS.iloadN X13.here hx rfl (hb hby d6_41) rfl ?_
    refine st30 _ ?_
    refine XS.goto X30.here hx rfl (pc0 := 45) (pc' := 77) rfl (hb hby d6_45) (by decide) (by decide) ?_
    exact X30.returnOut hx hret (hb hby d6_77) hr
-- com/example/senret/senret/TopSentences.lowestAdmitted()F
abbrev Rm34 : Room := { frames := 0, cells := 0, slots := 0, locals := 0 }
def Q34 (Z : State) (a1 : Addr) (a4 : Addr) (f6 : UInt32) (f7 : UInt32) (k8 : ClassId) (h0 : Heap) (n0 : Nat) (v : Option Value) (h : Heap) (L : List Loc) : Prop := v = some (.float f6) ∧ Fr n0 L ∧ h = h0
-- ef_26f21a
theorem rm34 (l : Launch) (Z : State) (a0 : Array Value) (hw : HW a0 Z) (ws : List Jvm.Cond) (a1 : Addr) (a4 : Addr) (f6 : UInt32) (f7 : UInt32) (k8 : ClassId) (h0 : Heap) (n0 : Nat) (Z0 : n0 ≤ h0.size) (F_size_a1 : Fld Z h0 a1 kT "size" "I" (.int 2)) (F_depth_a1 : Fld Z h0 a1 kT "depth" "I" (.int 2)) (F_scoresAsRead_a1 : Fld Z h0 a1 kT "scoresAsRead" "[F" (.ref a4)) (V_a4 : Arv Z h0 a4 k8 .float (2 : Int32) [(.float f6), (.float f7)] (.float 0)) :
    OwnMet l Z y_3 prog_25_method_3_code 1 (some .float) ws Rm34 #[(.ref a1)] h0 (Q34 Z a1 a4 f6 f7 k8 h0 n0) := by
  refine own_body (plainFor_of_name pn_1) (ef_26f21a a1) ?_
  intro p e s m below meth c s₁ hx hby hml hown hnm hret hZ X0 e0
  have N0 := Fr.nil n0
  obtain ⟨T2, X2, e2, st2⟩ := getF X0 hx hZ hown (host := "") (Or.inl (w_34 hw)) Via.refl e0 F_size_a1 (g := (mkF m 1 #[.val (.ref a1)] [(.ref a1)])) rfl rfl (hb hby d5_1)
  obtain ⟨T3, X3, e3, st3⟩ := getF X2 hx hZ hown (host := "") (Or.inl (w_14 hw)) Via.refl e2 F_depth_a1 (g := (mkF m 5 #[.val (.ref a1)] [(.ref a1), (.int 2)])) rfl rfl (hb hby d5_5)
  obtain ⟨T5, X5, e5, st5⟩ := getF X3 hx hZ hown (host := "") (Or.inl (w_21 hw)) Via.refl e3 F_scoresAsRead_a1 (g := (mkF m 17 #[.val (.ref a1)] [(.ref a1)])) rfl rfl (hb hby d5_17)
  obtain ⟨cl9, Ar9, q9, S9, M9, Hs9, G9⟩ := id V_a4
  have hin10 : ¬ ((0 : Int32) < 0 ∨ cl9.slots.size ≤ ((0 : Int32)).toNatClampNeg) := inb_of S9 ⟨(by decide : ¬ ((0 : Int32) < (0 : Int32))), (by decide : (0 : Int32) < (2 : Int32))⟩
  refine ⟨T5, _, _, _, (some (.float f6)), X5, nofun, by decide, by decide, ?_, fun fs hr => ?_⟩
  · rw [e5]
    exact ⟨rfl, N0, rfl⟩
  · refine XS.aloadN X0.here hx rfl (hb hby d5_0) rfl rfl ?_
    refine st2 _ ?_
    refine XS.aloadN X2.here hx rfl (hb hby d5_4) rfl rfl ?_
    refine st3 _ ?_
    refine XS.icmpYes X3.here hx rfl (pc0 := 8) (pc' := 16) rfl (hb hby d5_8) rfl (flt ((by decide : ¬ ((2 : Int32) < (2 : Int32))) : ¬ ((2 : Int32) < (2 : Int32)))).2.1 (by decide) (by decide) ?_
    refine XS.aloadN X3.here hx rfl (hb hby d5_16) rfl rfl ?_
    refine st5 _ ?_
    refine XS.iconst X5.here hx rfl (hb hby d5_20) ?_
    refine X5.faload hx (j := (0 : Int32)) (v := (.float f6)) (by rw [e5]; exact Ar9.1) (State.isArrayOf_alike hZ.alike Ar9.2.1) Ar9.2.2 hin10 (Has.at Hs9 hin10 rfl) (g := (mkF m 21 #[.val (.ref a1)] [(.int 0), (.ref a4)])) rfl rfl (hb hby d5_21) _ ?_
    exact retOut X5 hx hret rfl (Or.inr (Or.inr (Or.inr (Or.inl ⟨rfl, rfl, _, rfl⟩)))) (hb hby d5_22) hr
theorem d10_33 : decode method_3_code 33 = .ok (.fload_n 2, 1) := by decide +kernel
theorem d10_34 : decode method_3_code 34 = .ok (.fload_n 3, 1) := by decide +kernel
theorem d10_35 : decode method_3_code 35 = .ok (.invokestatic 39, 3) := by decide +kernel
theorem d14_0 : decode method_5_code 0 = .ok (.fload_n 0, 1) := by decide +kernel
theorem d14_1 : decode method_5_code 1 = .ok (.fload_n 1, 1) := by decide +kernel
theorem d14_2 : decode method_5_code 2 = .ok (.fcmp .g, 1) := by decide +kernel
theorem d14_3 : decode method_5_code 3 = .ok (.ifCond .ge 7, 3) := by decide +kernel
theorem d14_6 : decode method_5_code 6 = .ok (.fload_n 0, 1) := by decide +kernel
theorem d14_7 : decode method_5_code 7 = .ok (.goto 4, 3) := by decide +kernel
theorem d14_11 : decode method_5_code 11 = .ok (.freturn, 1) := by decide +kernel
theorem d14_10 : decode method_5_code 10 = .ok (.fload_n 1, 1) := by decide +kernel
abbrev y_13 : MethodName := ⟨"com/example/senret/senret/TopSentencesLowestAdmittedPinLaw", "min2", "(FF)F"⟩
-- com/example/senret/senret/TopSentencesLowestAdmittedPinLaw.min2(FF)F
abbrev Rm35 : Room := { frames := 0, cells := 0, slots := 0, locals := 0 }
def Q35 (Z : State) (f1 : UInt32) (f2 : UInt32) (h0 : Heap) (n0 : Nat) (v : Option Value) (h : Heap) (L : List Loc) : Prop := v = some (.float (if (cmpValue (FP.fcmp f1 f2) .g) < (0 : Int32) then f1 else f2)) ∧ Fr n0 L ∧ h = h0
-- ef_85382c
theorem rm35_0 (l : Launch) (Z : State) (a0 : Array Value) (hw : HW a0 Z) (ws : List Jvm.Cond) (f1 : UInt32) (f2 : UInt32) (h0 : Heap) (n0 : Nat) (Z0 : n0 ≤ h0.size) (cc1 : (cmpValue (FP.fcmp f1 f2) .g) < (0 : Int32)) :
    OwnMet l Z y_13 method_5_code 2 (some .float) ws Rm35 #[(.float f1), (.float f2)] h0 (Q35 Z f1 f2 h0 n0) := by
  refine own_body (plainFor_of_name pn_2) (ef_85382c f1 f2) ?_
  intro p e s m below meth c s₁ hx hby hml hown hnm hret hZ X0 e0
  have N0 := Fr.nil n0
  refine ⟨s₁, _, _, _, (some (.float f1)), X0, nofun, by decide, by decide, ?_, fun fs hr => ?_⟩
  · rw [e0]
    unfold Q35
    rw [show (if (cmpValue (FP.fcmp f1 f2) .g) < (0 : Int32) then f1 else f2) = f1 from by rw [if_pos cc1]]
    exact ⟨rfl, N0, rfl⟩
  · refine XS.floadN X0.here hx rfl (hb hby d14_0) rfl ?_
    refine XS.floadN X0.here hx rfl (hb hby d14_1) rfl ?_
    refine XS.fcmpS X0.here hx rfl (hb hby d14_2) rfl rfl ?_
    refine XS.ifNo X0.here hx rfl (hb hby d14_3) rfl ((if0 _ _).trans (tlt (cc1 : (cmpValue (FP.fcmp f1 f2) .g) < (0 : Int32))).2.1) ?_
    refine XS.floadN X0.here hx rfl (hb hby d14_6) rfl ?_
    refine XS.goto X0.here hx rfl (pc0 := 7) (pc' := 11) rfl (hb hby d14_7) (by decide) (by decide) ?_
    exact retOut X0 hx hret rfl (Or.inr (Or.inr (Or.inr (Or.inl ⟨rfl, rfl, _, rfl⟩)))) (hb hby d14_11) hr
theorem rm35_1 (l : Launch) (Z : State) (a0 : Array Value) (hw : HW a0 Z) (ws : List Jvm.Cond) (f1 : UInt32) (f2 : UInt32) (h0 : Heap) (n0 : Nat) (Z0 : n0 ≤ h0.size) (cc1 : ¬ ((cmpValue (FP.fcmp f1 f2) .g) < (0 : Int32))) :
    OwnMet l Z y_13 method_5_code 2 (some .float) ws Rm35 #[(.float f1), (.float f2)] h0 (Q35 Z f1 f2 h0 n0) := by
  refine own_body (plainFor_of_name pn_2) (ef_85382c f1 f2) ?_
  intro p e s m below meth c s₁ hx hby hml hown hnm hret hZ X0 e0
  have N0 := Fr.nil n0
  refine ⟨s₁, _, _, _, (some (.float f2)), X0, nofun, by decide, by decide, ?_, fun fs hr => ?_⟩
  · rw [e0]
    unfold Q35
    rw [show (if (cmpValue (FP.fcmp f1 f2) .g) < (0 : Int32) then f1 else f2) = f2 from by rw [if_neg cc1]]
    exact ⟨rfl, N0, rfl⟩
  · refine XS.floadN X0.here hx rfl (hb hby d14_0) rfl ?_
    refine XS.floadN X0.here hx rfl (hb hby d14_1) rfl ?_
    refine XS.fcmpS X0.here hx rfl (hb hby d14_2) rfl rfl ?_
    refine XS.ifYes X0.here hx rfl (pc0 := 3) (pc' := 10) rfl (hb hby d14_3) rfl ((if0 _ _).trans (flt (cc1 : ¬ ((cmpValue (FP.fcmp f1 f2) .g) < (0 : Int32)))).2.1) (by decide) (by decide) ?_
    refine XS.floadN X0.here hx rfl (hb hby d14_10) rfl ?_
    exact retOut X0 hx hret rfl (Or.inr (Or.inr (Or.inr (Or.inl ⟨rfl, rfl, _, rfl⟩)))) (hb hby d14_11) hr
theorem rm35 (l : Launch) (Z : State) (a0 : Array Value) (hw : HW a0 Z) (ws : List Jvm.Cond) (f1 : UInt32) (f2 : UInt32) (h0 : Heap) (n0 : Nat) (Z0 : n0 ≤ h0.size) :
    OwnMet l Z y_13 method_5_code 2 (some .float) ws Rm35 #[(.float f1), (.float f2)] h0 (Q35 Z f1 f2 h0 n0) := by
  by_cases cc1 : (cmpValue (FP.fcmp f1 f2) .g) < (0 : Int32)
  · exact rm35_0 l Z a0 hw ws f1 f2 h0 n0 Z0 cc1
  · exact rm35_1 l Z a0 hw ws f1 f2 h0 n0 Z0 cc1
theorem w_72 {a0 : Array Value} {Z : State} (hw : HW a0 Z) : Jvm.Cond.before (Jvm.Cond.code ({ cls := "com/example/senret/senret/TopSentencesLowestAdmittedPinLaw", name := "min2", desc := "(FF)F" } : Jvm.MethodName) method_5_code (2 : Nat) (Option.some Jvm.ClassFile.FieldType.float)) a0 Z = true := hw _ (List.mem_of_getElem? (i := 72) rfl)
theorem w_70 {a0 : Array Value} {Z : State} (hw : HW a0 Z) : Jvm.Cond.before (Jvm.Cond.methodLink "com/example/senret/senret/TopSentencesLowestAdmittedPinLaw" (39 : Nat) ({ cls := "com/example/senret/senret/TopSentencesLowestAdmittedPinLaw", name := "min2", desc := "(FF)F" } : Jvm.MethodName)) a0 Z = true := hw _ (List.mem_of_getElem? (i := 70) rfl)
theorem w_71 {a0 : Array Value} {Z : State} (hw : HW a0 Z) : Jvm.Cond.before (Jvm.Cond.static ({ cls := "com/example/senret/senret/TopSentencesLowestAdmittedPinLaw", name := "min2", desc := "(FF)F" } : Jvm.MethodName)) a0 Z = true := hw _ (List.mem_of_getElem? (i := 71) rfl)
theorem ef_5ad4aa (f1 : UInt32) (f2 : UInt32) (f3 : UInt32) (m : MethodId) : entryFrame m #[(.int 2), (.int 2), (.float f1), (.float f2), (.float f3)] 5 = mkF m 0 #[.val (.int 2), .val (.int 2), .val (.float f1), .val (.float f2), .val (.float f3)] [] := by first | (simp [entryFrame, mkF, argsToLocals, Value.category]; done) | rfl
-- com/example/senret/senret/TopSentencesLowestAdmittedPinLaw.expected(IIFFF)F
abbrev Rm36 : Room := { frames := 1, cells := 0, slots := 0, locals := 13 }
def Q36 (Z : State) (f1 : UInt32) (f2 : UInt32) (f3 : UInt32) (h0 : Heap) (n0 : Nat) (v : Option Value) (h : Heap) (L : List Loc) : Prop := v = some (.float (if (cmpValue (FP.fcmp f1 f2) .g) < (0 : Int32) then f1 else f2)) ∧ Fr n0 L ∧ h = h0
-- ef_5ad4aa
theorem rm36 (l : Launch) (Z : State) (a0 : Array Value) (hw : HW a0 Z) (ws : List Jvm.Cond) (f1 : UInt32) (f2 : UInt32) (f3 : UInt32) (h0 : Heap) (n0 : Nat) (Z0 : n0 ≤ h0.size) :
    OwnMet l Z y_8 method_3_code 5 (some .float) ws Rm36 #[(.int 2), (.int 2), (.float f1), (.float f2), (.float f3)] h0 (Q36 Z f1 f2 f3 h0 n0) := by
  refine own_body (plainFor_of_name pn_2) (ef_5ad4aa f1 f2 f3) ?_
  intro p e s m below meth c s₁ hx hby hml hown hnm hret hZ X0 e0
  have N0 := Fr.nil n0
  obtain ⟨_, T4, L4, X4, hQ4, st4⟩ := own_callS X0 hx hZ hown (y := y_13) (w_70 hw) (w_71 hw) (w_58 hw) (w_72 hw) (rm35 l Z a0 hw [] f1 f2 h0 n0 Z0) e0 (Ls := #[.val (.int 2), .val (.int 2), .val (.float f1), .val (.float f2), .val (.float f3)]) (by rw [hml]; rfl) (argsL := [(.float f1), (.float f2)]) (rest := []) (lenOf pd_10 rfl) (hb hby d10_35) (W := 0)
  obtain ⟨rfl, Nq4, e4⟩ := hQ4
  have N4 := Fr.app N0 Nq4
  obtain ⟨x5, ex5⟩ : ∃ z, z = (if (cmpValue (FP.fcmp f1 f2) .g) < (0 : Int32) then f1 else f2) := ⟨_, rfl⟩
  refine ⟨T4, _, _, _, (some (.float x5)), X4, nofun, by decide, by decide, ?_, fun fs hr => ?_⟩
  · rw [e4]
    subst ex5
    exact ⟨rfl, N4, rfl⟩
  · refine XS.iloadN X0.here hx rfl (hb hby d10_0) rfl ?_
    refine XS.iloadN X0.here hx rfl (hb hby d10_1) rfl ?_
    refine XS.icmpYes X0.here hx rfl (pc0 := 2) (pc' := 8) rfl (hb hby d10_2) rfl (flt ((by decide : ¬ ((2 : Int32) < (2 : Int32))) : ¬ ((2 : Int32) < (2 : Int32)))).2.1 (by decide) (by decide) ?_
    refine XS.iloadN X0.here hx rfl (hb hby d10_8) rfl ?_
    refine XS.iconst X0.here hx rfl (hb hby d10_9) ?_
    refine XS.icmpYes X0.here hx rfl (pc0 := 10) (pc' := 15) rfl (hb hby d10_10) rfl (feq ((by decide : ¬ ((2 : Int32) = (1 : Int32))) : ¬ ((2 : Int32) = (1 : Int32)))).2 (by decide) (by decide) ?_
    refine XS.iloadN X0.here hx rfl (hb hby d10_15) rfl ?_
    refine XS.iconst X0.here hx rfl (hb hby d10_16) ?_
    refine XS.icmpNo X0.here hx rfl (hb hby d10_17) rfl (teq ((by decide : (2 : Int32) = (2 : Int32)) : (2 : Int32) = (2 : Int32))).2 ?_
    refine XS.iloadN X0.here hx rfl (hb hby d10_20) rfl ?_
    refine XS.iconst X0.here hx rfl (hb hby d10_21) ?_
    refine XS.icmpYes X0.here hx rfl (pc0 := 22) (pc' := 33) rfl (hb hby d10_22) rfl (feq ((by decide : ¬ ((2 : Int32) = (1 : Int32))) : ¬ ((2 : Int32) = (1 : Int32)))).2 (by decide) (by decide) ?_
    refine XS.floadN X0.here hx rfl (hb hby d10_33) rfl ?_
    refine XS.floadN X0.here hx rfl (hb hby d10_34) rfl ?_
    refine st4 _ ?_
    show Steps p.tables e below (T4.setTop (mkF m 38 #[.val (.int 2), .val (.int 2), .val (.float f1), .val (.float f2), .val (.float f3)] [(.float (if (cmpValue (FP.fcmp f1 f2) .g) < (0 : Int32) then f1 else f2))])) _
    rw [← ex5]
    exact retOut X4 hx hret rfl (Or.inr (Or.inr (Or.inr (Or.inl ⟨rfl, rfl, _, rfl⟩)))) (hb hby d10_38) hr
theorem d15_16 : decode prog_25_method_9_code 16 = .ok (.iconst 2, 1) := by decide +kernel
theorem d15_17 : decode prog_25_method_9_code 17 = .ok (.iload 5, 2) := by decide +kernel
theorem d15_19 : decode prog_25_method_9_code 19 = .ok (.imul, 1) := by decide +kernel
theorem d15_20 : decode prog_25_method_9_code 20 = .ok (.iconst 1, 1) := by decide +kernel
theorem d15_21 : decode prog_25_method_9_code 21 = .ok (.iadd, 1) := by decide +kernel
theorem d15_22 : decode prog_25_method_9_code 22 = .ok (.istore 6, 2) := by decide +kernel
theorem d15_24 : decode prog_25_method_9_code 24 = .ok (.iload 6, 2) := by decide +kernel
theorem d15_26 : decode prog_25_method_9_code 26 = .ok (.iconst 1, 1) := by decide +kernel
theorem d15_27 : decode prog_25_method_9_code 27 = .ok (.iadd, 1) := by decide +kernel
theorem d15_28 : decode prog_25_method_9_code 28 = .ok (.aload_n 0, 1) := by decide +kernel
theorem d15_29 : decode prog_25_method_9_code 29 = .ok (.getfield 41, 3) := by decide +kernel
theorem d15_32 : decode prog_25_method_9_code 32 = .ok (.if_icmp .ge 44, 3) := by decide +kernel
theorem d15_76 : decode prog_25_method_9_code 76 = .ok (.aload_n 0, 1) := by decide +kernel
theorem d15_77 : decode prog_25_method_9_code 77 = .ok (.getfield 19, 3) := by decide +kernel
theorem d15_80 : decode prog_25_method_9_code 80 = .ok (.iload 6, 2) := by decide +kernel
theorem d15_82 : decode prog_25_method_9_code 82 = .ok (.faload, 1) := by decide +kernel
theorem d15_83 : decode prog_25_method_9_code 83 = .ok (.aload_n 0, 1) := by decide +kernel
theorem d15_84 : decode prog_25_method_9_code 84 = .ok (.getfield 27, 3) := by decide +kernel
theorem d15_87 : decode prog_25_method_9_code 87 = .ok (.iload 6, 2) := by decide +kernel
theorem d15_89 : decode prog_25_method_9_code 89 = .ok (.iaload, 1) := by decide +kernel
theorem d15_90 : decode prog_25_method_9_code 90 = .ok (.fload_n 1, 1) := by decide +kernel
theorem d15_91 : decode prog_25_method_9_code 91 = .ok (.iload 4, 2) := by decide +kernel
theorem d15_93 : decode prog_25_method_9_code 93 = .ok (.invokestatic 54, 3) := by decide +kernel
theorem d15_96 : decode prog_25_method_9_code 96 = .ok (.ifCond .ne 6, 3) := by decide +kernel
theorem d15_99 : decode prog_25_method_9_code 99 = .ok (.goto 18, 3) := by decide +kernel
-- com/example/senret/senret/TopSentences.put(IFJI)V
abbrev Rm37 : Room := { frames := 0, cells := 0, slots := 0, locals := 0 }
def Q37 (Z : State) (a1 : Addr) (f2 : UInt32) (q3 : Int64) (p4 : Int32) (a5 : Addr) (f7 : UInt32) (f8 : UInt32) (k9 : ClassId) (a13 : Addr) (q16 : Int64) (q17 : Int64) (k18 : ClassId) (a23 : Addr) (p26 : Int32) (p27 : Int32) (k28 : ClassId) (h0 : Heap) (n0 : Nat) (v : Option Value) (h : Heap) (L : List Loc) : Prop := v = none ∧ Fr n0 L ∧ Keep h0 h [a5, a13, a23] ∧ Exa Z h a5 "[F" ∧ Arv Z h a5 k9 .float (2 : Int32) [(.float f2), (.float f8)] (.float 0) ∧ Exa Z h a13 "[J" ∧ Arv Z h a13 k18 .long (2 : Int32) [(.long q3), (.long q17)] (.long 0) ∧ Exa Z h a23 "[I" ∧ Arv Z h a23 k28 .int (2 : Int32) [(.int p4), (.int p27)] (.int 0)
-- ef_bf04c5
theorem rm37 (l : Launch) (Z : State) (a0 : Array Value) (hw : HW a0 Z) (ws : List Jvm.Cond) (a1 : Addr) (f2 : UInt32) (q3 : Int64) (p4 : Int32) (a5 : Addr) (f7 : UInt32) (f8 : UInt32) (k9 : ClassId) (a13 : Addr) (q16 : Int64) (q17 : Int64) (k18 : ClassId) (a23 : Addr) (p26 : Int32) (p27 : Int32) (k28 : ClassId) (h0 : Heap) (n0 : Nat) (Z0 : n0 ≤ h0.size) (F_scoresAsRead_a1 : Fld Z h0 a1 kT "scoresAsRead" "[F" (.ref a5)) (V_a5 : Arv Z h0 a5 k9 .float (2 : Int32) [(.float f7), (.float f8)] (.float 0)) (g_a5 : n0 ≤ a5) (F_scores_a1 : Fld Z h0 a1 kT "scores" "[J" (.ref a13)) (ne_a1_a5 : a1 ≠ a5) (V_a13 : Arv Z h0 a13 k18 .long (2 : Int32) [(.long q16), (.long q17)] (.long 0)) (ne_a13_a5 : a13 ≠ a5) (g_a13 : n0 ≤ a13) (F_ordinals_a1 : Fld Z h0 a1 kT "ordinals" "[I" (.ref a23)) (ne_a1_a13 : a1 ≠ a13) (V_a23 : Arv Z h0 a23 k28 .int (2 : Int32) [(.int p26), (.int p27)] (.int 0)) (ne_a23_a5 : a23 ≠ a5) (ne_a23_a13 : a23 ≠ a13) (g_a23 : n0 ≤ a23) (E_a5 : Exa Z h0 a5 "[F") (E_a13 : Exa Z h0 a13 "[J") (E_a23 : Exa Z h0 a23 "[I") :
    OwnMet l Z y_5 prog_25_method_11_code 6 none ws Rm37 #[(.ref a1), (.int 0), (.float f2), (.long q3), (.int p4)] h0 (Q37 Z a1 f2 q3 p4 a5 f7 f8 k9 a13 q16 q17 k18 a23 p26 p27 k28 h0 n0) := by
  refine own_body (plainFor_of_name pn_1) (ef_bf04c5 a1 f2 q3 p4) ?_
  intro p e s m below meth c s₁ hx hby hml hown hnm hret hZ X0 e0
  have N0 := Fr.nil n0
  obtain ⟨T6, X6, e6, st6⟩ := getF X0 hx hZ hown (host := "") (Or.inl (w_21 hw)) Via.refl e0 F_scoresAsRead_a1 (g := (mkF m 1 #[.val (.ref a1), .val (.int 0), .val (.float f2), .val (.long q3), .second, .val (.int p4)] [(.ref a1)])) rfl rfl (hb hby d9_1)
  obtain ⟨cl10, Ar10, q10, S10, M10, Hs10, G10⟩ := id V_a5
  have hin11 : ¬ ((0 : Int32) < 0 ∨ cl10.slots.size ≤ ((0 : Int32)).toNatClampNeg) := inb_of S10 ⟨(by decide : ¬ ((0 : Int32) < (0 : Int32))), (by decide : (0 : Int32) < (2 : Int32))⟩
  obtain ⟨T12, h12, X12, e12, W12, st12⟩ := stF X6 hx hZ e6 Ar10 (j := (0 : Int32)) hin11 (g := (mkF m 6 #[.val (.ref a1), .val (.int 0), .val (.float f2), .val (.long q3), .second, .val (.int p4)] [(.float f2), (.int 0), (.ref a5)])) rfl rfl (hb hby d9_6)
  have s0 := (Keep.of_wr W12).1
  have N12 := Fr.snoc X12 N0 g_a5
  have Vs12 : Arv Z h12 a5 k9 .float (2 : Int32) [(.float f2), (.float f8)] (.float 0) := Arv.set Ar10 q10 S10 M10 Hs10 G10 rfl W12 0 rfl (Nat.le_of_ble_eq_true rfl)
  have Fl14 := (F_scores_a1.other W12 (Or.inl ne_a1_a5))
  obtain ⟨T15, X15, e15, st15⟩ := getF X12 hx hZ hown (host := "") (Or.inl (w_24 hw)) Via.refl e12 Fl14 (g := (mkF m 8 #[.val (.ref a1), .val (.int 0), .val (.float f2), .val (.long q3), .second, .val (.int p4)] [(.ref a1)])) rfl rfl (hb hby d9_8)
  have Va19 := (V_a13.other W12 ne_a13_a5)
  obtain ⟨cl20, Ar20, q20, S20, M20, Hs20, G20⟩ := id Va19
  have hin21 : ¬ ((0 : Int32) < 0 ∨ cl20.slots.size ≤ ((0 : Int32)).toNatClampNeg) := inb_of S20 ⟨(by decide : ¬ ((0 : Int32) < (0 : Int32))), (by decide : (0 : Int32) < (2 : Int32))⟩
  obtain ⟨T22, h22, X22, e22, W22, st22⟩ := stJ X15 hx hZ e15 Ar20 (j := (0 : Int32)) hin21 (g := (mkF m 13 #[.val (.ref a1), .val (.int 0), .val (.float f2), .val (.long q3), .second, .val (.int p4)] [(.long q3), (.int 0), (.ref a13)])) rfl rfl (hb hby d9_13)
  have s1 := (Keep.of_wr W22).1
  have N22 := Fr.snoc X22 N12 g_a13
  have Vs22 : Arv Z h22 a13 k18 .long (2 : Int32) [(.long q3), (.long q17)] (.long 0) := Arv.set Ar20 q20 S20 M20 Hs20 G20 rfl W22 0 rfl (Nat.le_of_ble_eq_true rfl)
  have Fl24 := ((F_ordinals_a1.other W12 (Or.inl ne_a1_a5)).other W22 (Or.inl ne_a1_a13))
  obtain ⟨T25, X25, e25, st25⟩ := getF X22 hx hZ hown (host := "") (Or.inl (w_27 hw)) Via.refl e22 Fl24 (g := (mkF m 15 #[.val (.ref a1), .val (.int 0), .val (.float f2), .val (.long q3), .second, .val (.int p4)] [(.ref a1)])) rfl rfl (hb hby d9_15)
  have Va29 := ((V_a23.other W12 ne_a23_a5).other W22 ne_a23_a13)
  obtain ⟨cl30, Ar30, q30, S30, M30, Hs30, G30⟩ := id Va29
  have hin31 : ¬ ((0 : Int32) < 0 ∨ cl30.slots.size ≤ ((0 : Int32)).toNatClampNeg) := inb_of S30 ⟨(by decide : ¬ ((0 : Int32) < (0 : Int32))), (by decide : (0 : Int32) < (2 : Int32))⟩
  obtain ⟨T32, h32, X32, e32, W32, st32⟩ := stI X25 hx hZ e25 Ar30 (j := (0 : Int32)) hin31 (g := (mkF m 21 #[.val (.ref a1), .val (.int 0), .val (.float f2), .val (.long q3), .second, .val (.int p4)] [(.int p4), (.int 0), (.ref a23)])) rfl rfl (hb hby d9_21)
  have s2 := (Keep.of_wr W32).1
  have N32 := Fr.snoc X32 N22 g_a23
  have Vs32 : Arv Z h32 a23 k28 .int (2 : Int32) [(.int p4), (.int p27)] (.int 0) := Arv.set Ar30 q30 S30 M30 Hs30 G30 rfl W32 0 rfl (Nat.le_of_ble_eq_true rfl)
  have Ex33 := (((E_a5.wr W12).wr W22).wr W32)
  have Va34 := ((Vs12.other W22 (Ne.symm ne_a13_a5)).other W32 (Ne.symm ne_a23_a5))
  have Ex35 := (((E_a13.wr W12).wr W22).wr W32)
  have Va36 := (Vs22.other W32 (Ne.symm ne_a23_a13))
  have Ex37 := (((E_a23.wr W12).wr W22).wr W32)
  have Kp0 : Keep h0 h12 [a5, a13, a23] := (Keep.refl h0 [a5, a13, a23]).wr W12 (Or.inl (List.mem_of_getElem? (i := 0) rfl))
  have Kp1 : Keep h0 h22 [a5, a13, a23] := Kp0.wr W22 (Or.inl (List.mem_of_getElem? (i := 1) rfl))
  have Kp2 : Keep h0 h32 [a5, a13, a23] := Kp1.wr W32 (Or.inl (List.mem_of_getElem? (i := 2) rfl))
  refine ⟨T32, _, _, _, none, X32, (fun _ => rfl), by decide, by decide, ?_, fun fs hr => ?_⟩
  · rw [e32]
    exact ⟨rfl, N32, Kp2, Ex33, Va34, Ex35, Va36, Ex37, Vs32⟩
  · refine XS.aloadN X0.here hx rfl (hb hby d9_0) rfl rfl ?_
    refine st6 _ ?_
    refine XS.iloadN X6.here hx rfl (hb hby d9_4) rfl ?_
    refine XS.floadN X6.here hx rfl (hb hby d9_5) rfl ?_
    refine st12 _ ?_
    refine XS.aloadN X12.here hx rfl (hb hby d9_7) rfl rfl ?_
    refine st15 _ ?_
    refine XS.iloadN X15.here hx rfl (hb hby d9_11) rfl ?_
    refine XS.lloadN X15.here hx rfl (hb hby d9_12) rfl ?_
    refine st22 _ ?_
    refine XS.aloadN X22.here hx rfl (hb hby d9_14) rfl rfl ?_
    refine st25 _ ?_
    refine XS.iloadN X25.here hx rfl (hb hby d9_18) rfl ?_
    refine XS.iload X25.here hx rfl (hb hby d9_19) rfl ?_
    refine st32 _ ?_
    exact X32.returnOut hx hret (hb hby d9_22) hr
theorem d15_102 : decode prog_25_method_9_code 102 = .ok (.aload_n 0, 1) := by decide +kernel
theorem d15_103 : decode prog_25_method_9_code 103 = .ok (.iload 6, 2) := by decide +kernel
theorem d15_105 : decode prog_25_method_9_code 105 = .ok (.iload 5, 2) := by decide +kernel
theorem d15_107 : decode prog_25_method_9_code 107 = .ok (.invokevirtual 95, 3) := by decide +kernel
-- com/example/senret/senret/TopSentences.put(IFJI)V
abbrev Rm38 : Room := { frames := 0, cells := 0, slots := 0, locals := 0 }
def Q38 (Z : State) (a1 : Addr) (f2 : UInt32) (q3 : Int64) (p4 : Int32) (a5 : Addr) (f7 : UInt32) (k8 : ClassId) (a12 : Addr) (q15 : Int64) (k16 : ClassId) (a21 : Addr) (p24 : Int32) (k25 : ClassId) (h0 : Heap) (n0 : Nat) (v : Option Value) (h : Heap) (L : List Loc) : Prop := v = none ∧ Fr n0 L ∧ Keep h0 h [a5, a12, a21] ∧ Exa Z h a5 "[F" ∧ Arv Z h a5 k8 .float (2 : Int32) [(.float f2), (.float f2)] (.float 0) ∧ Exa Z h a12 "[J" ∧ Arv Z h a12 k16 .long (2 : Int32) [(.long q3), (.long q3)] (.long 0) ∧ Exa Z h a21 "[I" ∧ Arv Z h a21 k25 .int (2 : Int32) [(.int p4), (.int p4)] (.int 0)
-- ef_bf04c5
theorem rm38 (l : Launch) (Z : State) (a0 : Array Value) (hw : HW a0 Z) (ws : List Jvm.Cond) (a1 : Addr) (f2 : UInt32) (q3 : Int64) (p4 : Int32) (a5 : Addr) (f7 : UInt32) (k8 : ClassId) (a12 : Addr) (q15 : Int64) (k16 : ClassId) (a21 : Addr) (p24 : Int32) (k25 : ClassId) (h0 : Heap) (n0 : Nat) (Z0 : n0 ≤ h0.size) (F_scoresAsRead_a1 : Fld Z h0 a1 kT "scoresAsRead" "[F" (.ref a5)) (V_a5 : Arv Z h0 a5 k8 .float (2 : Int32) [(.float f7), (.float f2)] (.float 0)) (g_a5 : n0 ≤ a5) (F_scores_a1 : Fld Z h0 a1 kT "scores" "[J" (.ref a12)) (ne_a1_a5 : a1 ≠ a5) (V_a12 : Arv Z h0 a12 k16 .long (2 : Int32) [(.long q15), (.long q3)] (.long 0)) (ne_a12_a5 : a12 ≠ a5) (g_a12 : n0 ≤ a12) (F_ordinals_a1 : Fld Z h0 a1 kT "ordinals" "[I" (.ref a21)) (ne_a1_a12 : a1 ≠ a12) (V_a21 : Arv Z h0 a21 k25 .int (2 : Int32) [(.int p24), (.int p4)] (.int 0)) (ne_a21_a5 : a21 ≠ a5) (ne_a21_a12 : a21 ≠ a12) (g_a21 : n0 ≤ a21) (E_a5 : Exa Z h0 a5 "[F") (E_a12 : Exa Z h0 a12 "[J") (E_a21 : Exa Z h0 a21 "[I") :
    OwnMet l Z y_5 prog_25_method_11_code 6 none ws Rm38 #[(.ref a1), (.int 0), (.float f2), (.long q3), (.int p4)] h0 (Q38 Z a1 f2 q3 p4 a5 f7 k8 a12 q15 k16 a21 p24 k25 h0 n0) := by
  refine own_body (plainFor_of_name pn_1) (ef_bf04c5 a1 f2 q3 p4) ?_
  intro p e s m below meth c s₁ hx hby hml hown hnm hret hZ X0 e0
  have N0 := Fr.nil n0
  obtain ⟨T6, X6, e6, st6⟩ := getF X0 hx hZ hown (host := "") (Or.inl (w_21 hw)) Via.refl e0 F_scoresAsRead_a1 (g := (mkF m 1 #[.val (.ref a1), .val (.int 0), .val (.float f2), .val (.long q3), .second, .val (.int p4)] [(.ref a1)])) rfl rfl (hb hby d9_1)
  obtain ⟨cl9, Ar9, q9, S9, M9, Hs9, G9⟩ := id V_a5
  have hin10 : ¬ ((0 : Int32) < 0 ∨ cl9.slots.size ≤ ((0 : Int32)).toNatClampNeg) := inb_of S9 ⟨(by decide : ¬ ((0 : Int32) < (0 : Int32))), (by decide : (0 : Int32) < (2 : Int32))⟩
  obtain ⟨T11, h11, X11, e11, W11, st11⟩ := stF X6 hx hZ e6 Ar9 (j := (0 : Int32)) hin10 (g := (mkF m 6 #[.val (.ref a1), .val (.int 0), .val (.float f2), .val (.long q3), .second, .val (.int p4)] [(.float f2), (.int 0), (.ref a5)])) rfl rfl (hb hby d9_6)
  have s0 := (Keep.of_wr W11).1
  have N11 := Fr.snoc X11 N0 g_a5
  have Vs11 : Arv Z h11 a5 k8 .float (2 : Int32) [(.float f2), (.float f2)] (.float 0) := Arv.set Ar9 q9 S9 M9 Hs9 G9 rfl W11 0 rfl (Nat.le_of_ble_eq_true rfl)
  have Fl13 := (F_scores_a1.other W11 (Or.inl ne_a1_a5))
  obtain ⟨T14, X14, e14, st14⟩ := getF X11 hx hZ hown (host := "") (Or.inl (w_24 hw)) Via.refl e11 Fl13 (g := (mkF m 8 #[.val (.ref a1), .val (.int 0), .val (.float f2), .val (.long q3), .second, .val (.int p4)] [(.ref a1)])) rfl rfl (hb hby d9_8)
  have Va17 := (V_a12.other W11 ne_a12_a5)
  obtain ⟨cl18, Ar18, q18, S18, M18, Hs18, G18⟩ := id Va17
  have hin19 : ¬ ((0 : Int32) < 0 ∨ cl18.slots.size ≤ ((0 : Int32)).toNatClampNeg) := inb_of S18 ⟨(by decide : ¬ ((0 : Int32) < (0 : Int32))), (by decide : (0 : Int32) < (2 : Int32))⟩
  obtain ⟨T20, h20, X20, e20, W20, st20⟩ := stJ X14 hx hZ e14 Ar18 (j := (0 : Int32)) hin19 (g := (mkF m 13 #[.val (.ref a1), .val (.int 0), .val (.float f2), .val (.long q3), .second, .val (.int p4)] [(.long q3), (.int 0), (.ref a12)])) rfl rfl (hb hby d9_13)
  have s1 := (Keep.of_wr W20).1
  have N20 := Fr.snoc X20 N11 g_a12
  have Vs20 : Arv Z h20 a12 k16 .long (2 : Int32) [(.long q3), (.long q3)] (.long 0) := Arv.set Ar18 q18 S18 M18 Hs18 G18 rfl W20 0 rfl (Nat.le_of_ble_eq_true rfl)
  have Fl22 := ((F_ordinals_a1.other W11 (Or.inl ne_a1_a5)).other W20 (Or.inl ne_a1_a12))
  obtain ⟨T23, X23, e23, st23⟩ := getF X20 hx hZ hown (host := "") (Or.inl (w_27 hw)) Via.refl e20 Fl22 (g := (mkF m 15 #[.val (.ref a1), .val (.int 0), .val (.float f2), .val (.long q3), .second, .val (.int p4)] [(.ref a1)])) rfl rfl (hb hby d9_15)
  have Va26 := ((V_a21.other W11 ne_a21_a5).other W20 ne_a21_a12)
  obtain ⟨cl27, Ar27, q27, S27, M27, Hs27, G27⟩ := id Va26
  have hin28 : ¬ ((0 : Int32) < 0 ∨ cl27.slots.size ≤ ((0 : Int32)).toNatClampNeg) := inb_of S27 ⟨(by decide : ¬ ((0 : Int32) < (0 : Int32))), (by decide : (0 : Int32) < (2 : Int32))⟩
  obtain ⟨T29, h29, X29, e29, W29, st29⟩ := stI X23 hx hZ e23 Ar27 (j := (0 : Int32)) hin28 (g := (mkF m 21 #[.val (.ref a1), .val (.int 0), .val (.float f2), .val (.long q3), .second, .val (.int p4)] [(.int p4), (.int 0), (.ref a21)])) rfl rfl (hb hby d9_21)
  have s2 := (Keep.of_wr W29).1
  have N29 := Fr.snoc X29 N20 g_a21
  have Vs29 : Arv Z h29 a21 k25 .int (2 : Int32) [(.int p4), (.int p4)] (.int 0) := Arv.set Ar27 q27 S27 M27 Hs27 G27 rfl W29 0 rfl (Nat.le_of_ble_eq_true rfl)
  have Ex30 := (((E_a5.wr W11).wr W20).wr W29)
  have Va31 := ((Vs11.other W20 (Ne.symm ne_a12_a5)).other W29 (Ne.symm ne_a21_a5))
  have Ex32 := (((E_a12.wr W11).wr W20).wr W29)
  have Va33 := (Vs20.other W29 (Ne.symm ne_a21_a12))
  have Ex34 := (((E_a21.wr W11).wr W20).wr W29)
  have Kp0 : Keep h0 h11 [a5, a12, a21] := (Keep.refl h0 [a5, a12, a21]).wr W11 (Or.inl (List.mem_of_getElem? (i := 0) rfl))
  have Kp1 : Keep h0 h20 [a5, a12, a21] := Kp0.wr W20 (Or.inl (List.mem_of_getElem? (i := 1) rfl))
  have Kp2 : Keep h0 h29 [a5, a12, a21] := Kp1.wr W29 (Or.inl (List.mem_of_getElem? (i := 2) rfl))
  refine ⟨T29, _, _, _, none, X29, (fun _ => rfl), by decide, by decide, ?_, fun fs hr => ?_⟩
  · rw [e29]
    exact ⟨rfl, N29, Kp2, Ex30, Va31, Ex32, Va33, Ex34, Vs29⟩
  · refine XS.aloadN X0.here hx rfl (hb hby d9_0) rfl rfl ?_
    refine st6 _ ?_
    refine XS.iloadN X6.here hx rfl (hb hby d9_4) rfl ?_
    refine XS.floadN X6.here hx rfl (hb hby d9_5) rfl ?_
    refine st11 _ ?_
    refine XS.aloadN X11.here hx rfl (hb hby d9_7) rfl rfl ?_
    refine st14 _ ?_
    refine XS.iloadN X14.here hx rfl (hb hby d9_11) rfl ?_
    refine XS.lloadN X14.here hx rfl (hb hby d9_12) rfl ?_
    refine st20 _ ?_
    refine XS.aloadN X20.here hx rfl (hb hby d9_14) rfl rfl ?_
    refine st23 _ ?_
    refine XS.iloadN X23.here hx rfl (hb hby d9_18) rfl ?_
    refine XS.iload X23.here hx rfl (hb hby d9_19) rfl ?_
    refine st29 _ ?_
    exact X29.returnOut hx hret (hb hby d9_22) hr
theorem ef_44de72 (a1 : Addr) (m : MethodId) : entryFrame m #[(.ref a1), (.int 1), (.int 0)] 3 = mkF m 0 #[.val (.ref a1), .val (.int 1), .val (.int 0)] [] := by first | (simp [entryFrame, mkF, argsToLocals, Value.category]; done) | rfl
-- com/example/senret/senret/TopSentences.move(II)V
abbrev Rm39 : Room := { frames := 1, cells := 0, slots := 0, locals := 17 }
def Q39 (Z : State) (a1 : Addr) (a2 : Addr) (f4 : UInt32) (f5 : UInt32) (k6 : ClassId) (a9 : Addr) (q11 : Int64) (q12 : Int64) (k13 : ClassId) (a16 : Addr) (p18 : Int32) (p19 : Int32) (k20 : ClassId) (h0 : Heap) (n0 : Nat) (v : Option Value) (h : Heap) (L : List Loc) : Prop := v = none ∧ Fr n0 L ∧ Keep h0 h [a2, a9, a16] ∧ Exa Z h a2 "[F" ∧ Arv Z h a2 k6 .float (2 : Int32) [(.float f5), (.float f5)] (.float 0) ∧ Exa Z h a9 "[J" ∧ Arv Z h a9 k13 .long (2 : Int32) [(.long q12), (.long q12)] (.long 0) ∧ Exa Z h a16 "[I" ∧ Arv Z h a16 k20 .int (2 : Int32) [(.int p19), (.int p19)] (.int 0)
-- ef_44de72
theorem rm39 (l : Launch) (Z : State) (a0 : Array Value) (hw : HW a0 Z) (ws : List Jvm.Cond) (a1 : Addr) (a2 : Addr) (f4 : UInt32) (f5 : UInt32) (k6 : ClassId) (a9 : Addr) (q11 : Int64) (q12 : Int64) (k13 : ClassId) (a16 : Addr) (p18 : Int32) (p19 : Int32) (k20 : ClassId) (h0 : Heap) (n0 : Nat) (Z0 : n0 ≤ h0.size) (F_scoresAsRead_a1 : Fld Z h0 a1 kT "scoresAsRead" "[F" (.ref a2)) (V_a2 : Arv Z h0 a2 k6 .float (2 : Int32) [(.float f4), (.float f5)] (.float 0)) (F_scores_a1 : Fld Z h0 a1 kT "scores" "[J" (.ref a9)) (V_a9 : Arv Z h0 a9 k13 .long (2 : Int32) [(.long q11), (.long q12)] (.long 0)) (F_ordinals_a1 : Fld Z h0 a1 kT "ordinals" "[I" (.ref a16)) (V_a16 : Arv Z h0 a16 k20 .int (2 : Int32) [(.int p18), (.int p19)] (.int 0)) (g_a2 : n0 ≤ a2) (ne_a1_a2 : a1 ≠ a2) (ne_a9_a2 : a9 ≠ a2) (g_a9 : n0 ≤ a9) (ne_a1_a9 : a1 ≠ a9) (ne_a16_a2 : a16 ≠ a2) (ne_a16_a9 : a16 ≠ a9) (g_a16 : n0 ≤ a16) (E_a2 : Exa Z h0 a2 "[F") (E_a9 : Exa Z h0 a9 "[J") (E_a16 : Exa Z h0 a16 "[I") (E_a1 : Exa Z h0 a1 kT) :
    OwnMet l Z y_12 prog_25_method_10_code 3 none ws Rm39 #[(.ref a1), (.int 1), (.int 0)] h0 (Q39 Z a1 a2 f4 f5 k6 a9 q11 q12 k13 a16 p18 p19 k20 h0 n0) := by
  refine own_body (plainFor_of_name pn_1) (ef_44de72 a1) ?_
  intro p e s m below meth c s₁ hx hby hml hown hnm hret hZ X0 e0
  have N0 := Fr.nil n0
  obtain ⟨T3, X3, e3, st3⟩ := getF X0 hx hZ hown (host := "") (Or.inl (w_21 hw)) Via.refl e0 F_scoresAsRead_a1 (g := (mkF m 3 #[.val (.ref a1), .val (.int 1), .val (.int 0)] [(.ref a1), (.int 0), (.ref a1)])) rfl rfl (hb hby d13_3)
  obtain ⟨cl7, Ar7, q7, S7, M7, Hs7, G7⟩ := id V_a2
  have hin8 : ¬ ((1 : Int32) < 0 ∨ cl7.slots.size ≤ ((1 : Int32)).toNatClampNeg) := inb_of S7 ⟨(by decide : ¬ ((1 : Int32) < (0 : Int32))), (by decide : (1 : Int32) < (2 : Int32))⟩
  obtain ⟨T10, X10, e10, st10⟩ := getF X3 hx hZ hown (host := "") (Or.inl (w_24 hw)) Via.refl e3 F_scores_a1 (g := (mkF m 9 #[.val (.ref a1), .val (.int 1), .val (.int 0)] [(.ref a1), (.float f5), (.int 0), (.ref a1)])) rfl rfl (hb hby d13_9)
  obtain ⟨cl14, Ar14, q14, S14, M14, Hs14, G14⟩ := id V_a9
  have hin15 : ¬ ((1 : Int32) < 0 ∨ cl14.slots.size ≤ ((1 : Int32)).toNatClampNeg) := inb_of S14 ⟨(by decide : ¬ ((1 : Int32) < (0 : Int32))), (by decide : (1 : Int32) < (2 : Int32))⟩
  obtain ⟨T17, X17, e17, st17⟩ := getF X10 hx hZ hown (host := "") (Or.inl (w_27 hw)) Via.refl e10 F_ordinals_a1 (g := (mkF m 15 #[.val (.ref a1), .val (.int 1), .val (.int 0)] [(.ref a1), (.long q12), (.float f5), (.int 0), (.ref a1)])) rfl rfl (hb hby d13_15)
  obtain ⟨cl21, Ar21, q21, S21, M21, Hs21, G21⟩ := id V_a16
  have hin22 : ¬ ((1 : Int32) < 0 ∨ cl21.slots.size ≤ ((1 : Int32)).toNatClampNeg) := inb_of S21 ⟨(by decide : ¬ ((1 : Int32) < (0 : Int32))), (by decide : (1 : Int32) < (2 : Int32))⟩
  obtain ⟨_, T23, L23, X23, hQ23, st23⟩ := own_private X17 hx hZ hown (y := y_5) E_a1 (w_52 hw) (w_53 hw) (Jvm.Kit.selects_private (by decide) (mvT hZ (w_6 hw)) (mvP hZ (w_54 hw)) (mvT hZ (w_53 hw))) (w_54 hw) (w_7 hw) (w_55 hw) (rm38 l Z a0 hw [] a1 f5 q12 p19 a2 f4 k6 a9 q11 k13 a16 p18 k20 h0 n0 Z0 F_scoresAsRead_a1 V_a2 g_a2 F_scores_a1 ne_a1_a2 V_a9 ne_a9_a2 g_a9 F_ordinals_a1 ne_a1_a9 V_a16 ne_a16_a2 ne_a16_a9 g_a16 E_a2 E_a9 E_a16) e17 (Ls := #[.val (.ref a1), .val (.int 1), .val (.int 0)]) (by rw [hml]; rfl) (argsL := [(.int 0), (.float f5), (.long q12), (.int p19)]) (rest := []) (lenOf pd_5 rfl) (hb hby d13_20) (W := 0)
  obtain ⟨rfl, Nq23, K23, o23_0, o23_1, o23_2, o23_3, o23_4, o23_5⟩ := hQ23
  have N23 := Fr.app N0 Nq23
  have s0 := K23.1
  have Kp0 : Keep h0 T23.heap [a2, a9, a16] := (Keep.refl h0 [a2, a9, a16]).trans K23 (allS (Or.inl (List.mem_of_getElem? (i := 0) rfl)) (allS (Or.inl (List.mem_of_getElem? (i := 1) rfl)) (allS (Or.inl (List.mem_of_getElem? (i := 2) rfl)) all0)))
  refine ⟨T23, _, _, _, none, X23, (fun _ => rfl), by decide, by decide, ?_, fun fs hr => ?_⟩
  · exact ⟨rfl, N23, Kp0, o23_0, o23_1, o23_2, o23_3, o23_4, o23_5⟩
  · refine XS.aloadN X0.here hx rfl (hb hby d13_0) rfl rfl ?_
    refine XS.iloadN X0.here hx rfl (hb hby d13_1) rfl ?_
    refine XS.aloadN X0.here hx rfl (hb hby d13_2) rfl rfl ?_
    refine st3 _ ?_
    refine XS.iloadN X3.here hx rfl (hb hby d13_6) rfl ?_
    refine X3.faload hx (j := (1 : Int32)) (v := (.float f5)) (by rw [e3]; exact Ar7.1) (State.isArrayOf_alike hZ.alike Ar7.2.1) Ar7.2.2 hin8 (Has.at Hs7 hin8 rfl) (g := (mkF m 7 #[.val (.ref a1), .val (.int 1), .val (.int 0)] [(.int 1), (.ref a2), (.int 0), (.ref a1)])) rfl rfl (hb hby d13_7) _ ?_
    refine XS.aloadN X3.here hx rfl (hb hby d13_8) rfl rfl ?_
    refine st10 _ ?_
    refine XS.iloadN X10.here hx rfl (hb hby d13_12) rfl ?_
    refine X10.laload hx (j := (1 : Int32)) (v := (.long q12)) (by rw [e10]; exact Ar14.1) (State.isArrayOf_alike hZ.alike Ar14.2.1) Ar14.2.2 hin15 (Has.at Hs14 hin15 rfl) (g := (mkF m 13 #[.val (.ref a1), .val (.int 1), .val (.int 0)] [(.int 1), (.ref a9), (.float f5), (.int 0), (.ref a1)])) rfl rfl (hb hby d13_13) _ ?_
    refine XS.aloadN X10.here hx rfl (hb hby d13_14) rfl rfl ?_
    refine st17 _ ?_
    refine XS.iloadN X17.here hx rfl (hb hby d13_18) rfl ?_
    refine X17.iaload hx (j := (1 : Int32)) (v := (.int p19)) (by rw [e17]; exact Ar21.1) (State.isArrayOf_alike hZ.alike Ar21.2.1) Ar21.2.2 hin22 (Has.at Hs21 hin22 rfl) (g := (mkF m 19 #[.val (.ref a1), .val (.int 1), .val (.int 0)] [(.int 1), (.ref a16), (.long q12), (.float f5), (.int 0), (.ref a1)])) rfl rfl (hb hby d13_19) _ ?_
    refine st23 _ ?_
    exact X23.returnOut hx hret (hb hby d13_23) hr
theorem d15_110 : decode prog_25_method_9_code 110 = .ok (.iload 6, 2) := by decide +kernel
theorem d15_112 : decode prog_25_method_9_code 112 = .ok (.istore 5, 2) := by decide +kernel
theorem d15_114 : decode prog_25_method_9_code 114 = .ok (.goto (-111), 3) := by decide +kernel
-- com/example/senret/senret/TopSentences.put(IFJI)V
abbrev Rm40 : Room := { frames := 0, cells := 0, slots := 0, locals := 0 }
def Q40 (Z : State) (a1 : Addr) (f2 : UInt32) (q3 : Int64) (p4 : Int32) (a5 : Addr) (f7 : UInt32) (k8 : ClassId) (a12 : Addr) (q15 : Int64) (k16 : ClassId) (a21 : Addr) (p24 : Int32) (k25 : ClassId) (h0 : Heap) (n0 : Nat) (v : Option Value) (h : Heap) (L : List Loc) : Prop := v = none ∧ Fr n0 L ∧ Keep h0 h [a5, a12, a21] ∧ Exa Z h a5 "[F" ∧ Arv Z h a5 k8 .float (2 : Int32) [(.float f7), (.float f2)] (.float 0) ∧ Exa Z h a12 "[J" ∧ Arv Z h a12 k16 .long (2 : Int32) [(.long q15), (.long q3)] (.long 0) ∧ Exa Z h a21 "[I" ∧ Arv Z h a21 k25 .int (2 : Int32) [(.int p24), (.int p4)] (.int 0)
-- ef_ea78cb
theorem rm40 (l : Launch) (Z : State) (a0 : Array Value) (hw : HW a0 Z) (ws : List Jvm.Cond) (a1 : Addr) (f2 : UInt32) (q3 : Int64) (p4 : Int32) (a5 : Addr) (f7 : UInt32) (k8 : ClassId) (a12 : Addr) (q15 : Int64) (k16 : ClassId) (a21 : Addr) (p24 : Int32) (k25 : ClassId) (h0 : Heap) (n0 : Nat) (Z0 : n0 ≤ h0.size) (F_scoresAsRead_a1 : Fld Z h0 a1 kT "scoresAsRead" "[F" (.ref a5)) (V_a5 : Arv Z h0 a5 k8 .float (2 : Int32) [(.float f7), (.float f7)] (.float 0)) (g_a5 : n0 ≤ a5) (F_scores_a1 : Fld Z h0 a1 kT "scores" "[J" (.ref a12)) (ne_a1_a5 : a1 ≠ a5) (V_a12 : Arv Z h0 a12 k16 .long (2 : Int32) [(.long q15), (.long q15)] (.long 0)) (ne_a12_a5 : a12 ≠ a5) (g_a12 : n0 ≤ a12) (F_ordinals_a1 : Fld Z h0 a1 kT "ordinals" "[I" (.ref a21)) (ne_a1_a12 : a1 ≠ a12) (V_a21 : Arv Z h0 a21 k25 .int (2 : Int32) [(.int p24), (.int p24)] (.int 0)) (ne_a21_a5 : a21 ≠ a5) (ne_a21_a12 : a21 ≠ a12) (g_a21 : n0 ≤ a21) (E_a5 : Exa Z h0 a5 "[F") (E_a12 : Exa Z h0 a12 "[J") (E_a21 : Exa Z h0 a21 "[I") :
    OwnMet l Z y_5 prog_25_method_11_code 6 none ws Rm40 #[(.ref a1), (.int 1), (.float f2), (.long q3), (.int p4)] h0 (Q40 Z a1 f2 q3 p4 a5 f7 k8 a12 q15 k16 a21 p24 k25 h0 n0) := by
  refine own_body (plainFor_of_name pn_1) (ef_ea78cb a1 f2 q3 p4) ?_
  intro p e s m below meth c s₁ hx hby hml hown hnm hret hZ X0 e0
  have N0 := Fr.nil n0
  obtain ⟨T6, X6, e6, st6⟩ := getF X0 hx hZ hown (host := "") (Or.inl (w_21 hw)) Via.refl e0 F_scoresAsRead_a1 (g := (mkF m 1 #[.val (.ref a1), .val (.int 1), .val (.float f2), .val (.long q3), .second, .val (.int p4)] [(.ref a1)])) rfl rfl (hb hby d9_1)
  obtain ⟨cl9, Ar9, q9, S9, M9, Hs9, G9⟩ := id V_a5
  have hin10 : ¬ ((1 : Int32) < 0 ∨ cl9.slots.size ≤ ((1 : Int32)).toNatClampNeg) := inb_of S9 ⟨(by decide : ¬ ((1 : Int32) < (0 : Int32))), (by decide : (1 : Int32) < (2 : Int32))⟩
  obtain ⟨T11, h11, X11, e11, W11, st11⟩ := stF X6 hx hZ e6 Ar9 (j := (1 : Int32)) hin10 (g := (mkF m 6 #[.val (.ref a1), .val (.int 1), .val (.float f2), .val (.long q3), .second, .val (.int p4)] [(.float f2), (.int 1), (.ref a5)])) rfl rfl (hb hby d9_6)
  have s0 := (Keep.of_wr W11).1
  have N11 := Fr.snoc X11 N0 g_a5
  have Vs11 : Arv Z h11 a5 k8 .float (2 : Int32) [(.float f7), (.float f2)] (.float 0) := Arv.set Ar9 q9 S9 M9 Hs9 G9 rfl W11 1 rfl (Nat.le_of_ble_eq_true rfl)
  have Fl13 := (F_scores_a1.other W11 (Or.inl ne_a1_a5))
  obtain ⟨T14, X14, e14, st14⟩ := getF X11 hx hZ hown (host := "") (Or.inl (w_24 hw)) Via.refl e11 Fl13 (g := (mkF m 8 #[.val (.ref a1), .val (.int 1), .val (.float f2), .val (.long q3), .second, .val (.int p4)] [(.ref a1)])) rfl rfl (hb hby d9_8)
  have Va17 := (V_a12.other W11 ne_a12_a5)
  obtain ⟨cl18, Ar18, q18, S18, M18, Hs18, G18⟩ := id Va17
  have hin19 : ¬ ((1 : Int32) < 0 ∨ cl18.slots.size ≤ ((1 : Int32)).toNatClampNeg) := inb_of S18 ⟨(by decide : ¬ ((1 : Int32) < (0 : Int32))), (by decide : (1 : Int32) < (2 : Int32))⟩
  obtain ⟨T20, h20, X20, e20, W20, st20⟩ := stJ X14 hx hZ e14 Ar18 (j := (1 : Int32)) hin19 (g := (mkF m 13 #[.val (.ref a1), .val (.int 1), .val (.float f2), .val (.long q3), .second, .val (.int p4)] [(.long q3), (.int 1), (.ref a12)])) rfl rfl (hb hby d9_13)
  have s1 := (Keep.of_wr W20).1
  have N20 := Fr.snoc X20 N11 g_a12
  have Vs20 : Arv Z h20 a12 k16 .long (2 : Int32) [(.long q15), (.long q3)] (.long 0) := Arv.set Ar18 q18 S18 M18 Hs18 G18 rfl W20 1 rfl (Nat.le_of_ble_eq_true rfl)
  have Fl22 := ((F_ordinals_a1.other W11 (Or.inl ne_a1_a5)).other W20 (Or.inl ne_a1_a12))
  obtain ⟨T23, X23, e23, st23⟩ := getF X20 hx hZ hown (host := "") (Or.inl (w_27 hw)) Via.refl e20 Fl22 (g := (mkF m 15 #[.val (.ref a1), .val (.int 1), .val (.float f2), .val (.long q3), .second, .val (.int p4)] [(.ref a1)])) rfl rfl (hb hby d9_15)
  have Va26 := ((V_a21.other W11 ne_a21_a5).other W20 ne_a21_a12)
  obtain ⟨cl27, Ar27, q27, S27, M27, Hs27, G27⟩ := id Va26
  have hin28 : ¬ ((1 : Int32) < 0 ∨ cl27.slots.size ≤ ((1 : Int32)).toNatClampNeg) := inb_of S27 ⟨(by decide : ¬ ((1 : Int32) < (0 : Int32))), (by decide : (1 : Int32) < (2 : Int32))⟩
  obtain ⟨T29, h29, X29, e29, W29, st29⟩ := stI X23 hx hZ e23 Ar27 (j := (1 : Int32)) hin28 (g := (mkF m 21 #[.val (.ref a1), .val (.int 1), .val (.float f2), .val (.long q3), .second, .val (.int p4)] [(.int p4), (.int 1), (.ref a21)])) rfl rfl (hb hby d9_21)
  have s2 := (Keep.of_wr W29).1
  have N29 := Fr.snoc X29 N20 g_a21
  have Vs29 : Arv Z h29 a21 k25 .int (2 : Int32) [(.int p24), (.int p4)] (.int 0) := Arv.set Ar27 q27 S27 M27 Hs27 G27 rfl W29 1 rfl (Nat.le_of_ble_eq_true rfl)
  have Ex30 := (((E_a5.wr W11).wr W20).wr W29)
  have Va31 := ((Vs11.other W20 (Ne.symm ne_a12_a5)).other W29 (Ne.symm ne_a21_a5))
  have Ex32 := (((E_a12.wr W11).wr W20).wr W29)
  have Va33 := (Vs20.other W29 (Ne.symm ne_a21_a12))
  have Ex34 := (((E_a21.wr W11).wr W20).wr W29)
  have Kp0 : Keep h0 h11 [a5, a12, a21] := (Keep.refl h0 [a5, a12, a21]).wr W11 (Or.inl (List.mem_of_getElem? (i := 0) rfl))
  have Kp1 : Keep h0 h20 [a5, a12, a21] := Kp0.wr W20 (Or.inl (List.mem_of_getElem? (i := 1) rfl))
  have Kp2 : Keep h0 h29 [a5, a12, a21] := Kp1.wr W29 (Or.inl (List.mem_of_getElem? (i := 2) rfl))
  refine ⟨T29, _, _, _, none, X29, (fun _ => rfl), by decide, by decide, ?_, fun fs hr => ?_⟩
  · rw [e29]
    exact ⟨rfl, N29, Kp2, Ex30, Va31, Ex32, Va33, Ex34, Vs29⟩
  · refine XS.aloadN X0.here hx rfl (hb hby d9_0) rfl rfl ?_
    refine st6 _ ?_
    refine XS.iloadN X6.here hx rfl (hb hby d9_4) rfl ?_
    refine XS.floadN X6.here hx rfl (hb hby d9_5) rfl ?_
    refine st11 _ ?_
    refine XS.aloadN X11.here hx rfl (hb hby d9_7) rfl rfl ?_
    refine st14 _ ?_
    refine XS.iloadN X14.here hx rfl (hb hby d9_11) rfl ?_
    refine XS.lloadN X14.here hx rfl (hb hby d9_12) rfl ?_
    refine st20 _ ?_
    refine XS.aloadN X20.here hx rfl (hb hby d9_14) rfl rfl ?_
    refine st23 _ ?_
    refine XS.iloadN X23.here hx rfl (hb hby d9_18) rfl ?_
    refine XS.iload X23.here hx rfl (hb hby d9_19) rfl ?_
    refine st29 _ ?_
    exact X29.returnOut hx hret (hb hby d9_22) hr
-- com/example/senret/senret/TopSentences.siftDown(FJI)V
abbrev Rm41 : Room := { frames := 2, cells := 0, slots := 0, locals := 31 }
def Q41 (Z : State) (a1 : Addr) (f2 : UInt32) (q3 : Int64) (p4 : Int32) (a7 : Addr) (f9 : UInt32) (f10 : UInt32) (k11 : ClassId) (a14 : Addr) (p16 : Int32) (p17 : Int32) (k18 : ClassId) (a33 : Addr) (q34 : Int64) (q35 : Int64) (k36 : ClassId) (h0 : Heap) (n0 : Nat) (v : Option Value) (h : Heap) (L : List Loc) : Prop := v = none ∧ Fr n0 L ∧ Keep h0 h [a7, a33, a14] ∧ Exa Z h a7 "[F" ∧ Arv Z h a7 k11 .float (2 : Int32) [(.float (if (if (cmpValue (FP.fcmp f10 f2) .g) < (0 : Int32) then (1 : Int32) else (if (cmpValue (FP.fcmp f10 f2) .l) = (0 : Int32) then (if p17 < p4 then (1 : Int32) else (0 : Int32)) else (0 : Int32))) = (0 : Int32) then f2 else f10)), (.float (if (if (cmpValue (FP.fcmp f10 f2) .g) < (0 : Int32) then (1 : Int32) else (if (cmpValue (FP.fcmp f10 f2) .l) = (0 : Int32) then (if p17 < p4 then (1 : Int32) else (0 : Int32)) else (0 : Int32))) = (0 : Int32) then f10 else f2))] (.float 0) ∧ Exa Z h a33 "[J" ∧ Arv Z h a33 k36 .long (2 : Int32) [(.long (if (if (cmpValue (FP.fcmp f10 f2) .g) < (0 : Int32) then (1 : Int32) else (if (cmpValue (FP.fcmp f10 f2) .l) = (0 : Int32) then (if p17 < p4 then (1 : Int32) else (0 : Int32)) else (0 : Int32))) = (0 : Int32) then q3 else q35)), (.long (if (if (cmpValue (FP.fcmp f10 f2) .g) < (0 : Int32) then (1 : Int32) else (if (cmpValue (FP.fcmp f10 f2) .l) = (0 : Int32) then (if p17 < p4 then (1 : Int32) else (0 : Int32)) else (0 : Int32))) = (0 : Int32) then q35 else q3))] (.long 0) ∧ Exa Z h a14 "[I" ∧ Arv Z h a14 k18 .int (2 : Int32) [(.int (if (if (cmpValue (FP.fcmp f10 f2) .g) < (0 : Int32) then (1 : Int32) else (if (cmpValue (FP.fcmp f10 f2) .l) = (0 : Int32) then (if p17 < p4 then (1 : Int32) else (0 : Int32)) else (0 : Int32))) = (0 : Int32) then p4 else p17)), (.int (if (if (cmpValue (FP.fcmp f10 f2) .g) < (0 : Int32) then (1 : Int32) else (if (cmpValue (FP.fcmp f10 f2) .l) = (0 : Int32) then (if p17 < p4 then (1 : Int32) else (0 : Int32)) else (0 : Int32))) = (0 : Int32) then p17 else p4))] (.int 0)
-- ef_a0588b
theorem rm41_0 (l : Launch) (Z : State) (a0 : Array Value) (hw : HW a0 Z) (ws : List Jvm.Cond) (a1 : Addr) (f2 : UInt32) (q3 : Int64) (p4 : Int32) (a7 : Addr) (f9 : UInt32) (f10 : UInt32) (k11 : ClassId) (a14 : Addr) (p16 : Int32) (p17 : Int32) (k18 : ClassId) (a33 : Addr) (q34 : Int64) (q35 : Int64) (k36 : ClassId) (h0 : Heap) (n0 : Nat) (Z0 : n0 ≤ h0.size) (F_size_a1 : Fld Z h0 a1 kT "size" "I" (.int 2)) (F_scoresAsRead_a1 : Fld Z h0 a1 kT "scoresAsRead" "[F" (.ref a7)) (V_a7 : Arv Z h0 a7 k11 .float (2 : Int32) [(.float f9), (.float f10)] (.float 0)) (F_ordinals_a1 : Fld Z h0 a1 kT "ordinals" "[I" (.ref a14)) (V_a14 : Arv Z h0 a14 k18 .int (2 : Int32) [(.int p16), (.int p17)] (.int 0)) (g_a7 : n0 ≤ a7) (F_scores_a1 : Fld Z h0 a1 kT "scores" "[J" (.ref a33)) (ne_a1_a7 : a1 ≠ a7) (V_a33 : Arv Z h0 a33 k36 .long (2 : Int32) [(.long q34), (.long q35)] (.long 0)) (ne_a33_a7 : a33 ≠ a7) (g_a33 : n0 ≤ a33) (ne_a1_a33 : a1 ≠ a33) (ne_a14_a7 : a14 ≠ a7) (ne_a14_a33 : a14 ≠ a33) (g_a14 : n0 ≤ a14) (E_a7 : Exa Z h0 a7 "[F") (E_a33 : Exa Z h0 a33 "[J") (E_a14 : Exa Z h0 a14 "[I") (E_a1 : Exa Z h0 a1 kT) (ne_a1_a14 : a1 ≠ a14) (cc1 : (if (cmpValue (FP.fcmp f10 f2) .g) < (0 : Int32) then (1 : Int32) else (if (cmpValue (FP.fcmp f10 f2) .l) = (0 : Int32) then (if p17 < p4 then (1 : Int32) else (0 : Int32)) else (0 : Int32))) = (0 : Int32)) :
    OwnMet l Z y_10 prog_25_method_9_code 7 none ws Rm41 #[(.ref a1), (.float f2), (.long q3), (.int p4)] h0 (Q41 Z a1 f2 q3 p4 a7 f9 f10 k11 a14 p16 p17 k18 a33 q34 q35 k36 h0 n0) := by
  refine own_body (plainFor_of_name pn_1) (ef_a0588b a1 f2 q3 p4) ?_
  intro p e s m below meth c s₁ hx hby hml hown hnm hret hZ X0 e0
  have N0 := Fr.nil n0
  obtain ⟨T23, X23, e23, st23⟩ := getF X0 hx hZ hown (host := "") (Or.inl (w_34 hw)) Via.refl e0 F_size_a1 (g := (mkF m 10 #[.val (.ref a1), .val (.float f2), .val (.long q3), .second, .val (.int p4), .val (.int 0), .unset] [(.ref a1), (.int 1)])) rfl rfl (hb hby d15_10)
  obtain ⟨T24, X24, e24, st24⟩ := getF X23 hx hZ hown (host := "") (Or.inl (w_34 hw)) Via.refl e23 F_size_a1 (g := (mkF m 29 #[.val (.ref a1), .val (.float f2), .val (.long q3), .second, .val (.int p4), .val (.int 0), .val (.int 1)] [(.ref a1), (.int 2)])) rfl rfl (hb hby d15_29)
  obtain ⟨T25, X25, e25, st25⟩ := getF X24 hx hZ hown (host := "") (Or.inl (w_21 hw)) Via.refl e24 F_scoresAsRead_a1 (g := (mkF m 77 #[.val (.ref a1), .val (.float f2), .val (.long q3), .second, .val (.int p4), .val (.int 0), .val (.int 1)] [(.ref a1)])) rfl rfl (hb hby d15_77)
  obtain ⟨cl26, Ar26, q26, S26, M26, Hs26, G26⟩ := id V_a7
  have hin27 : ¬ ((1 : Int32) < 0 ∨ cl26.slots.size ≤ ((1 : Int32)).toNatClampNeg) := inb_of S26 ⟨(by decide : ¬ ((1 : Int32) < (0 : Int32))), (by decide : (1 : Int32) < (2 : Int32))⟩
  obtain ⟨T28, X28, e28, st28⟩ := getF X25 hx hZ hown (host := "") (Or.inl (w_27 hw)) Via.refl e25 F_ordinals_a1 (g := (mkF m 84 #[.val (.ref a1), .val (.float f2), .val (.long q3), .second, .val (.int p4), .val (.int 0), .val (.int 1)] [(.ref a1), (.float f10)])) rfl rfl (hb hby d15_84)
  obtain ⟨cl29, Ar29, q29, S29, M29, Hs29, G29⟩ := id V_a14
  have hin30 : ¬ ((1 : Int32) < 0 ∨ cl29.slots.size ≤ ((1 : Int32)).toNatClampNeg) := inb_of S29 ⟨(by decide : ¬ ((1 : Int32) < (0 : Int32))), (by decide : (1 : Int32) < (2 : Int32))⟩
  obtain ⟨_, T31, L31, X31, hQ31, st31⟩ := own_callS X28 hx hZ hown (y := y_9) (w_60 hw) (w_61 hw) (w_7 hw) (w_62 hw) (rm11 l Z a0 hw [] f10 p17 f2 p4 h0 n0 Z0) e28 (Ls := #[.val (.ref a1), .val (.float f2), .val (.long q3), .second, .val (.int p4), .val (.int 0), .val (.int 1)]) (by rw [hml]; rfl) (argsL := [(.float f10), (.int p17), (.float f2), (.int p4)]) (rest := []) (lenOf pd_8 rfl) (hb hby d15_93) (W := 0)
  obtain ⟨rfl, Nq31, e31⟩ := hQ31
  have N31 := Fr.app N0 Nq31
  obtain ⟨x32, ex32⟩ : ∃ z, z = (if (cmpValue (FP.fcmp f10 f2) .g) < (0 : Int32) then (1 : Int32) else (if (cmpValue (FP.fcmp f10 f2) .l) = (0 : Int32) then (if p17 < p4 then (1 : Int32) else (0 : Int32)) else (0 : Int32))) := ⟨_, rfl⟩
  obtain ⟨_, T37, L37, X37, hQ37, st37⟩ := own_private X31 hx hZ hown (y := y_5) E_a1 (w_52 hw) (w_53 hw) (Jvm.Kit.selects_private (by decide) (mvT hZ (w_6 hw)) (mvP hZ (w_54 hw)) (mvT hZ (w_53 hw))) (w_54 hw) (w_7 hw) (w_55 hw) (rm37 l Z a0 hw [] a1 f2 q3 p4 a7 f9 f10 k11 a33 q34 q35 k36 a14 p16 p17 k18 h0 n0 Z0 F_scoresAsRead_a1 V_a7 g_a7 F_scores_a1 ne_a1_a7 V_a33 ne_a33_a7 g_a33 F_ordinals_a1 ne_a1_a33 V_a14 ne_a14_a7 ne_a14_a33 g_a14 E_a7 E_a33 E_a14) e31 (Ls := #[.val (.ref a1), .val (.float f2), .val (.long q3), .second, .val (.int p4), .val (.int 0), .val (.int 1)]) (by rw [hml]; rfl) (argsL := [(.int 0), (.float f2), (.long q3), (.int p4)]) (rest := []) (lenOf pd_5 rfl) (hb hby d15_124) (W := 0)
  obtain ⟨rfl, Nq37, K37, o37_0, o37_1, o37_2, o37_3, o37_4, o37_5⟩ := hQ37
  have N37 := Fr.app N31 Nq37
  have s0 := K37.1
  have Kp0 : Keep h0 T37.heap [a7, a33, a14] := (Keep.refl h0 [a7, a33, a14]).trans K37 (allS (Or.inl (List.mem_of_getElem? (i := 0) rfl)) (allS (Or.inl (List.mem_of_getElem? (i := 1) rfl)) (allS (Or.inl (List.mem_of_getElem? (i := 2) rfl)) all0)))
  refine ⟨T37, _, _, _, none, X37, (fun _ => rfl), by decide, by decide, ?_, fun fs hr => ?_⟩
  · subst ex32
    unfold Q41
    rw [show (if (if (cmpValue (FP.fcmp f10 f2) .g) < (0 : Int32) then (1 : Int32) else (if (cmpValue (FP.fcmp f10 f2) .l) = (0 : Int32) then (if p17 < p4 then (1 : Int32) else (0 : Int32)) else (0 : Int32))) = (0 : Int32) then f2 else f10) = f2 from by rw [if_pos cc1]]
    rw [show (if (if (cmpValue (FP.fcmp f10 f2) .g) < (0 : Int32) then (1 : Int32) else (if (cmpValue (FP.fcmp f10 f2) .l) = (0 : Int32) then (if p17 < p4 then (1 : Int32) else (0 : Int32)) else (0 : Int32))) = (0 : Int32) then f10 else f2) = f10 from by rw [if_pos cc1]]
    rw [show (if (if (cmpValue (FP.fcmp f10 f2) .g) < (0 : Int32) then (1 : Int32) else (if (cmpValue (FP.fcmp f10 f2) .l) = (0 : Int32) then (if p17 < p4 then (1 : Int32) else (0 : Int32)) else (0 : Int32))) = (0 : Int32) then q3 else q35) = q3 from by rw [if_pos cc1]]
    rw [show (if (if (cmpValue (FP.fcmp f10 f2) .g) < (0 : Int32) then (1 : Int32) else (if (cmpValue (FP.fcmp f10 f2) .l) = (0 : Int32) then (if p17 < p4 then (1 : Int32) else (0 : Int32)) else (0 : Int32))) = (0 : Int32) then q35 else q3) = q35 from by rw [if_pos cc1]]
    rw [show (if (if (cmpValue (FP.fcmp f10 f2) .g) < (0 : Int32) then (1 : Int32) else (if (cmpValue (FP.fcmp f10 f2) .l) = (0 : Int32) then (if p17 < p4 then (1 : Int32) else (0 : Int32)) else (0 : Int32))) = (0 : Int32) then p4 else p17) = p4 from by rw [if_pos cc1]]
    rw [show (if (if (cmpValue (FP.fcmp f10 f2) .g) < (0 : Int32) then (1 : Int32) else (if (cmpValue (FP.fcmp f10 f2) .l) = (0 : Int32) then (if p17 < p4 then (1 : Int32) else (0 : Int32)) else (0 : Int32))) = (0 : Int32) then p17 else p4) = p17 from by rw [if_pos cc1]]
    exact ⟨rfl, N37, Kp0, o37_0, o37_1, o37_2, o37_3, o37_4, o37_5⟩
  · refine XS.iconst X0.here hx rfl (hb hby d15_0) ?_
    refine XS.istore X0.here hx rfl (hb hby d15_1) rfl (l' := #[.val (.ref a1), .val (.float f2), .val (.long q3), .second, .val (.int p4), .val (.int 0), .unset]) rfl ?_
    refine XS.iconst X0.here hx rfl (hb hby d15_3) ?_
    refine XS.iload X0.here hx rfl (hb hby d15_4) rfl ?_
    refine XS.imul X0.here hx rfl (hb hby d15_6) rfl ?_
    refine XS.iconst X0.here hx rfl (hb hby d15_7) ?_
    refine XS.iadd X0.here hx rfl (hb hby d15_8) rfl ?_
    refine XS.aloadN X0.here hx rfl (hb hby d15_9) rfl rfl ?_
    refine st23 _ ?_
    refine XS.icmpNo X23.here hx rfl (hb hby d15_13) rfl (tlt ((by decide : (1 : Int32) < (2 : Int32)) : (1 : Int32) < (2 : Int32))).2.1 ?_
    refine XS.iconst X23.here hx rfl (hb hby d15_16) ?_
    refine XS.iload X23.here hx rfl (hb hby d15_17) rfl ?_
    refine XS.imul X23.here hx rfl (hb hby d15_19) rfl ?_
    refine XS.iconst X23.here hx rfl (hb hby d15_20) ?_
    refine XS.iadd X23.here hx rfl (hb hby d15_21) rfl ?_
    refine XS.istore X23.here hx rfl (hb hby d15_22) rfl (l' := #[.val (.ref a1), .val (.float f2), .val (.long q3), .second, .val (.int p4), .val (.int 0), .val (.int 1)]) rfl ?_
    refine XS.iload X23.here hx rfl (hb hby d15_24) rfl ?_
    refine XS.iconst X23.here hx rfl (hb hby d15_26) ?_
    refine XS.iadd X23.here hx rfl (hb hby d15_27) rfl ?_
    refine XS.aloadN X23.here hx rfl (hb hby d15_28) rfl rfl ?_
    refine st24 _ ?_
    refine XS.icmpYes X24.here hx rfl (pc0 := 32) (pc' := 76) rfl (hb hby d15_32) rfl (flt ((by decide : ¬ ((2 : Int32) < (2 : Int32))) : ¬ ((2 : Int32) < (2 : Int32)))).2.1 (by decide) (by decide) ?_
    refine XS.aloadN X24.here hx rfl (hb hby d15_76) rfl rfl ?_
    refine st25 _ ?_
    refine XS.iload X25.here hx rfl (hb hby d15_80) rfl ?_
    refine X25.faload hx (j := (1 : Int32)) (v := (.float f10)) (by rw [e25]; exact Ar26.1) (State.isArrayOf_alike hZ.alike Ar26.2.1) Ar26.2.2 hin27 (Has.at Hs26 hin27 rfl) (g := (mkF m 82 #[.val (.ref a1), .val (.float f2), .val (.long q3), .second, .val (.int p4), .val (.int 0), .val (.int 1)] [(.int 1), (.ref a7)])) rfl rfl (hb hby d15_82) _ ?_
    refine XS.aloadN X25.here hx rfl (hb hby d15_83) rfl rfl ?_
    refine st28 _ ?_
    refine XS.iload X28.here hx rfl (hb hby d15_87) rfl ?_
    refine X28.iaload hx (j := (1 : Int32)) (v := (.int p17)) (by rw [e28]; exact Ar29.1) (State.isArrayOf_alike hZ.alike Ar29.2.1) Ar29.2.2 hin30 (Has.at Hs29 hin30 rfl) (g := (mkF m 89 #[.val (.ref a1), .val (.float f2), .val (.long q3), .second, .val (.int p4), .val (.int 0), .val (.int 1)] [(.int 1), (.ref a14), (.float f10)])) rfl rfl (hb hby d15_89) _ ?_
    refine XS.floadN X28.here hx rfl (hb hby d15_90) rfl ?_
    refine XS.iload X28.here hx rfl (hb hby d15_91) rfl ?_
    refine st31 _ ?_
    show Steps p.tables e below (T31.setTop (mkF m 96 #[.val (.ref a1), .val (.float f2), .val (.long q3), .second, .val (.int p4), .val (.int 0), .val (.int 1)] [(.int (if (cmpValue (FP.fcmp f10 f2) .g) < (0 : Int32) then (1 : Int32) else (if (cmpValue (FP.fcmp f10 f2) .l) = (0 : Int32) then (if p17 < p4 then (1 : Int32) else (0 : Int32)) else (0 : Int32))))])) _
    rw [← ex32]
    refine XS.ifNo X31.here hx rfl (hb hby d15_96) rfl ((if0 _ _).trans (teq ((by rw [ex32]; exact cc1) : x32 = (0 : Int32))).2) ?_
    refine XS.goto X31.here hx rfl (pc0 := 99) (pc' := 117) rfl (hb hby d15_99) (by decide) (by decide) ?_
    refine XS.aloadN X31.here hx rfl (hb hby d15_117) rfl rfl ?_
    refine XS.iload X31.here hx rfl (hb hby d15_118) rfl ?_
    refine XS.floadN X31.here hx rfl (hb hby d15_120) rfl ?_
    refine XS.lloadN X31.here hx rfl (hb hby d15_121) rfl ?_
    refine XS.iload X31.here hx rfl (hb hby d15_122) rfl ?_
    refine st37 _ ?_
    exact X37.returnOut hx hret (hb hby d15_127) hr
theorem rm41_1 (l : Launch) (Z : State) (a0 : Array Value) (hw : HW a0 Z) (ws : List Jvm.Cond) (a1 : Addr) (f2 : UInt32) (q3 : Int64) (p4 : Int32) (a7 : Addr) (f9 : UInt32) (f10 : UInt32) (k11 : ClassId) (a14 : Addr) (p16 : Int32) (p17 : Int32) (k18 : ClassId) (a33 : Addr) (q34 : Int64) (q35 : Int64) (k36 : ClassId) (h0 : Heap) (n0 : Nat) (Z0 : n0 ≤ h0.size) (F_size_a1 : Fld Z h0 a1 kT "size" "I" (.int 2)) (F_scoresAsRead_a1 : Fld Z h0 a1 kT "scoresAsRead" "[F" (.ref a7)) (V_a7 : Arv Z h0 a7 k11 .float (2 : Int32) [(.float f9), (.float f10)] (.float 0)) (F_ordinals_a1 : Fld Z h0 a1 kT "ordinals" "[I" (.ref a14)) (V_a14 : Arv Z h0 a14 k18 .int (2 : Int32) [(.int p16), (.int p17)] (.int 0)) (g_a7 : n0 ≤ a7) (F_scores_a1 : Fld Z h0 a1 kT "scores" "[J" (.ref a33)) (ne_a1_a7 : a1 ≠ a7) (V_a33 : Arv Z h0 a33 k36 .long (2 : Int32) [(.long q34), (.long q35)] (.long 0)) (ne_a33_a7 : a33 ≠ a7) (g_a33 : n0 ≤ a33) (ne_a1_a33 : a1 ≠ a33) (ne_a14_a7 : a14 ≠ a7) (ne_a14_a33 : a14 ≠ a33) (g_a14 : n0 ≤ a14) (E_a7 : Exa Z h0 a7 "[F") (E_a33 : Exa Z h0 a33 "[J") (E_a14 : Exa Z h0 a14 "[I") (E_a1 : Exa Z h0 a1 kT) (ne_a1_a14 : a1 ≠ a14) (cc1 : ¬ ((if (cmpValue (FP.fcmp f10 f2) .g) < (0 : Int32) then (1 : Int32) else (if (cmpValue (FP.fcmp f10 f2) .l) = (0 : Int32) then (if p17 < p4 then (1 : Int32) else (0 : Int32)) else (0 : Int32))) = (0 : Int32))) :
    OwnMet l Z y_10 prog_25_method_9_code 7 none ws Rm41 #[(.ref a1), (.float f2), (.long q3), (.int p4)] h0 (Q41 Z a1 f2 q3 p4 a7 f9 f10 k11 a14 p16 p17 k18 a33 q34 q35 k36 h0 n0) := by
  refine own_body (plainFor_of_name pn_1) (ef_a0588b a1 f2 q3 p4) ?_
  intro p e s m below meth c s₁ hx hby hml hown hnm hret hZ X0 e0
  have N0 := Fr.nil n0
  obtain ⟨T38, X38, e38, st38⟩ := getF X0 hx hZ hown (host := "") (Or.inl (w_34 hw)) Via.refl e0 F_size_a1 (g := (mkF m 10 #[.val (.ref a1), .val (.float f2), .val (.long q3), .second, .val (.int p4), .val (.int 0), .unset] [(.ref a1), (.int 1)])) rfl rfl (hb hby d15_10)
  obtain ⟨T39, X39, e39, st39⟩ := getF X38 hx hZ hown (host := "") (Or.inl (w_34 hw)) Via.refl e38 F_size_a1 (g := (mkF m 29 #[.val (.ref a1), .val (.float f2), .val (.long q3), .second, .val (.int p4), .val (.int 0), .val (.int 1)] [(.ref a1), (.int 2)])) rfl rfl (hb hby d15_29)
  obtain ⟨T40, X40, e40, st40⟩ := getF X39 hx hZ hown (host := "") (Or.inl (w_21 hw)) Via.refl e39 F_scoresAsRead_a1 (g := (mkF m 77 #[.val (.ref a1), .val (.float f2), .val (.long q3), .second, .val (.int p4), .val (.int 0), .val (.int 1)] [(.ref a1)])) rfl rfl (hb hby d15_77)
  obtain ⟨cl41, Ar41, q41, S41, M41, Hs41, G41⟩ := id V_a7
  have hin42 : ¬ ((1 : Int32) < 0 ∨ cl41.slots.size ≤ ((1 : Int32)).toNatClampNeg) := inb_of S41 ⟨(by decide : ¬ ((1 : Int32) < (0 : Int32))), (by decide : (1 : Int32) < (2 : Int32))⟩
  obtain ⟨T43, X43, e43, st43⟩ := getF X40 hx hZ hown (host := "") (Or.inl (w_27 hw)) Via.refl e40 F_ordinals_a1 (g := (mkF m 84 #[.val (.ref a1), .val (.float f2), .val (.long q3), .second, .val (.int p4), .val (.int 0), .val (.int 1)] [(.ref a1), (.float f10)])) rfl rfl (hb hby d15_84)
  obtain ⟨cl44, Ar44, q44, S44, M44, Hs44, G44⟩ := id V_a14
  have hin45 : ¬ ((1 : Int32) < 0 ∨ cl44.slots.size ≤ ((1 : Int32)).toNatClampNeg) := inb_of S44 ⟨(by decide : ¬ ((1 : Int32) < (0 : Int32))), (by decide : (1 : Int32) < (2 : Int32))⟩
  obtain ⟨_, T46, L46, X46, hQ46, st46⟩ := own_callS X43 hx hZ hown (y := y_9) (w_60 hw) (w_61 hw) (w_7 hw) (w_62 hw) (rm11 l Z a0 hw [] f10 p17 f2 p4 h0 n0 Z0) e43 (Ls := #[.val (.ref a1), .val (.float f2), .val (.long q3), .second, .val (.int p4), .val (.int 0), .val (.int 1)]) (by rw [hml]; rfl) (argsL := [(.float f10), (.int p17), (.float f2), (.int p4)]) (rest := []) (lenOf pd_8 rfl) (hb hby d15_93) (W := 0)
  obtain ⟨rfl, Nq46, e46⟩ := hQ46
  have N46 := Fr.app N0 Nq46
  obtain ⟨x47, ex47⟩ : ∃ z, z = (if (cmpValue (FP.fcmp f10 f2) .g) < (0 : Int32) then (1 : Int32) else (if (cmpValue (FP.fcmp f10 f2) .l) = (0 : Int32) then (if p17 < p4 then (1 : Int32) else (0 : Int32)) else (0 : Int32))) := ⟨_, rfl⟩
  obtain ⟨_, T48, L48, X48, hQ48, st48⟩ := own_private X46 hx hZ hown (y := y_12) E_a1 (w_66 hw) (w_67 hw) (Jvm.Kit.selects_private (by decide) (mvT hZ (w_6 hw)) (mvP hZ (w_68 hw)) (mvT hZ (w_67 hw))) (w_68 hw) (w_7 hw) (w_69 hw) (rm39 l Z a0 hw [] a1 a7 f9 f10 k11 a33 q34 q35 k36 a14 p16 p17 k18 h0 n0 Z0 F_scoresAsRead_a1 V_a7 F_scores_a1 V_a33 F_ordinals_a1 V_a14 g_a7 ne_a1_a7 ne_a33_a7 g_a33 ne_a1_a33 ne_a14_a7 ne_a14_a33 g_a14 E_a7 E_a33 E_a14 E_a1) e46 (Ls := #[.val (.ref a1), .val (.float f2), .val (.long q3), .second, .val (.int p4), .val (.int 0), .val (.int 1)]) (by rw [hml]; rfl) (argsL := [(.int 1), (.int 0)]) (rest := []) (lenOf pd_11 rfl) (hb hby d15_107) (W := 0)
  obtain ⟨rfl, Nq48, K48, o48_0, o48_1, o48_2, o48_3, o48_4, o48_5⟩ := hQ48
  have N48 := Fr.app N46 Nq48
  have s0 := K48.1
  have Fl49 := (F_size_a1.keep K48 (ninS ne_a1_a7 (ninS ne_a1_a33 (ninS ne_a1_a14 nin0))))
  obtain ⟨T50, X50, e50, st50⟩ := getF X48 hx hZ hown (host := "") (Or.inl (w_34 hw)) Via.refl rfl Fl49 (g := (mkF m 10 #[.val (.ref a1), .val (.float f2), .val (.long q3), .second, .val (.int p4), .val (.int 1), .val (.int 1)] [(.ref a1), (.int 3)])) rfl rfl (hb hby d15_10)
  have Fl51 := (F_scoresAsRead_a1.keep K48 (ninS ne_a1_a7 (ninS ne_a1_a33 (ninS ne_a1_a14 nin0))))
  have Fl52 := (F_scores_a1.keep K48 (ninS ne_a1_a7 (ninS ne_a1_a33 (ninS ne_a1_a14 nin0))))
  have Fl53 := (F_ordinals_a1.keep K48 (ninS ne_a1_a7 (ninS ne_a1_a33 (ninS ne_a1_a14 nin0))))
  have z1 := Nat.le_trans Z0 s0
  have Ex55 := (E_a1.keep K48)
  obtain ⟨_, T54, L54, X54, hQ54, st54⟩ := own_private X50 hx hZ hown (y := y_5) Ex55 (w_52 hw) (w_53 hw) (Jvm.Kit.selects_private (by decide) (mvT hZ (w_6 hw)) (mvP hZ (w_54 hw)) (mvT hZ (w_53 hw))) (w_54 hw) (w_7 hw) (w_55 hw) (rm40 l Z a0 hw [] a1 f2 q3 p4 a7 f10 k11 a33 q35 k36 a14 p17 k18 T48.heap n0 z1 Fl51 o48_1 g_a7 Fl52 ne_a1_a7 o48_3 ne_a33_a7 g_a33 Fl53 ne_a1_a33 o48_5 ne_a14_a7 ne_a14_a33 g_a14 o48_0 o48_2 o48_4) e50 (Ls := #[.val (.ref a1), .val (.float f2), .val (.long q3), .second, .val (.int p4), .val (.int 1), .val (.int 1)]) (by rw [hml]; rfl) (argsL := [(.int 1), (.float f2), (.long q3), (.int p4)]) (rest := []) (lenOf pd_5 rfl) (hb hby d15_124) (W := 0)
  obtain ⟨rfl, Nq54, K54, o54_0, o54_1, o54_2, o54_3, o54_4, o54_5⟩ := hQ54
  have N54 := Fr.app N48 Nq54
  have s1 := K54.1
  have Kp0 : Keep h0 T48.heap [a7, a33, a14] := (Keep.refl h0 [a7, a33, a14]).trans K48 (allS (Or.inl (List.mem_of_getElem? (i := 0) rfl)) (allS (Or.inl (List.mem_of_getElem? (i := 1) rfl)) (allS (Or.inl (List.mem_of_getElem? (i := 2) rfl)) all0)))
  have Kp1 : Keep h0 T54.heap [a7, a33, a14] := Kp0.trans K54 (allS (Or.inl (List.mem_of_getElem? (i := 0) rfl)) (allS (Or.inl (List.mem_of_getElem? (i := 1) rfl)) (allS (Or.inl (List.mem_of_getElem? (i := 2) rfl)) all0)))
  refine ⟨T54, _, _, _, none, X54, (fun _ => rfl), by decide, by decide, ?_, fun fs hr => ?_⟩
  · subst ex47
    unfold Q41
    rw [show (if (if (cmpValue (FP.fcmp f10 f2) .g) < (0 : Int32) then (1 : Int32) else (if (cmpValue (FP.fcmp f10 f2) .l) = (0 : Int32) then (if p17 < p4 then (1 : Int32) else (0 : Int32)) else (0 : Int32))) = (0 : Int32) then f2 else f10) = f10 from by rw [if_neg cc1]]
    rw [show (if (if (cmpValue (FP.fcmp f10 f2) .g) < (0 : Int32) then (1 : Int32) else (if (cmpValue (FP.fcmp f10 f2) .l) = (0 : Int32) then (if p17 < p4 then (1 : Int32) else (0 : Int32)) else (0 : Int32))) = (0 : Int32) then f10 else f2) = f2 from by rw [if_neg cc1]]
    rw [show (if (if (cmpValue (FP.fcmp f10 f2) .g) < (0 : Int32) then (1 : Int32) else (if (cmpValue (FP.fcmp f10 f2) .l) = (0 : Int32) then (if p17 < p4 then (1 : Int32) else (0 : Int32)) else (0 : Int32))) = (0 : Int32) then q3 else q35) = q35 from by rw [if_neg cc1]]
    rw [show (if (if (cmpValue (FP.fcmp f10 f2) .g) < (0 : Int32) then (1 : Int32) else (if (cmpValue (FP.fcmp f10 f2) .l) = (0 : Int32) then (if p17 < p4 then (1 : Int32) else (0 : Int32)) else (0 : Int32))) = (0 : Int32) then q35 else q3) = q3 from by rw [if_neg cc1]]
    rw [show (if (if (cmpValue (FP.fcmp f10 f2) .g) < (0 : Int32) then (1 : Int32) else (if (cmpValue (FP.fcmp f10 f2) .l) = (0 : Int32) then (if p17 < p4 then (1 : Int32) else (0 : Int32)) else (0 : Int32))) = (0 : Int32) then p4 else p17) = p17 from by rw [if_neg cc1]]
    rw [show (if (if (cmpValue (FP.fcmp f10 f2) .g) < (0 : Int32) then (1 : Int32) else (if (cmpValue (FP.fcmp f10 f2) .l) = (0 : Int32) then (if p17 < p4 then (1 : Int32) else (0 : Int32)) else (0 : Int32))) = (0 : Int32) then p17 else p4) = p4 from by rw [if_neg cc1]]
    exact ⟨rfl, N54, Kp1, o54_0, o54_1, o54_2, o54_3, o54_4, o54_5⟩
  · refine XS.iconst X0.here hx rfl (hb hby d15_0) ?_
    refine XS.istore X0.here hx rfl (hb hby d15_1) rfl (l' := #[.val (.ref a1), .val (.float f2), .val (.long q3), .second, .val (.int p4), .val (.int 0), .unset]) rfl ?_
    refine XS.iconst X0.here hx rfl (hb hby d15_3) ?_
    refine XS.iload X0.here hx rfl (hb hby d15_4) rfl ?_
    refine XS.imul X0.here hx rfl (hb hby d15_6) rfl ?_
    refine XS.iconst X0.here hx rfl (hb hby d15_7) ?_
    refine XS.iadd X0.here hx rfl (hb hby d15_8) rfl ?_
    refine XS.aloadN X0.here hx rfl (hb hby d15_9) rfl rfl ?_
    refine st38 _ ?_
    refine XS.icmpNo X38.here hx rfl (hb hby d15_13) rfl (tlt ((by decide : (1 : Int32) < (2 : Int32)) : (1 : Int32) < (2 : Int32))).2.1 ?_
    refine XS.iconst X38.here hx rfl (hb hby d15_16) ?_
    refine XS.iload X38.here hx rfl (hb hby d15_17) rfl ?_
    refine XS.imul X38.here hx rfl (hb hby d15_19) rfl ?_
    refine XS.iconst X38.here hx rfl (hb hby d15_20) ?_
    refine XS.iadd X38.here hx rfl (hb hby d15_21) rfl ?_
    refine XS.istore X38.here hx rfl (hb hby d15_22) rfl (l' := #[.val (.ref a1), .val (.float f2), .val (.long q3), .second, .val (.int p4), .val (.int 0), .val (.int 1)]) rfl ?_
    refine XS.iload X38.here hx rfl (hb hby d15_24) rfl ?_
    refine XS.iconst X38.here hx rfl (hb hby d15_26) ?_
    refine XS.iadd X38.here hx rfl (hb hby d15_27) rfl ?_
    refine XS.aloadN X38.here hx rfl (hb hby d15_28) rfl rfl ?_
    refine st39 _ ?_
    refine XS.icmpYes X39.here hx rfl (pc0 := 32) (pc' := 76) rfl (hb hby d15_32) rfl (flt ((by decide : ¬ ((2 : Int32) < (2 : Int32))) : ¬ ((2 : Int32) < (2 : Int32)))).2.1 (by decide) (by decide) ?_
    refine XS.aloadN X39.here hx rfl (hb hby d15_76) rfl rfl ?_
    refine st40 _ ?_
    refine XS.iload X40.here hx rfl (hb hby d15_80) rfl ?_
    refine X40.faload hx (j := (1 : Int32)) (v := (.float f10)) (by rw [e40]; exact Ar41.1) (State.isArrayOf_alike hZ.alike Ar41.2.1) Ar41.2.2 hin42 (Has.at Hs41 hin42 rfl) (g := (mkF m 82 #[.val (.ref a1), .val (.float f2), .val (.long q3), .second, .val (.int p4), .val (.int 0), .val (.int 1)] [(.int 1), (.ref a7)])) rfl rfl (hb hby d15_82) _ ?_
    refine XS.aloadN X40.here hx rfl (hb hby d15_83) rfl rfl ?_
    refine st43 _ ?_
    refine XS.iload X43.here hx rfl (hb hby d15_87) rfl ?_
    refine X43.iaload hx (j := (1 : Int32)) (v := (.int p17)) (by rw [e43]; exact Ar44.1) (State.isArrayOf_alike hZ.alike Ar44.2.1) Ar44.2.2 hin45 (Has.at Hs44 hin45 rfl) (g := (mkF m 89 #[.val (.ref a1), .val (.float f2), .val (.long q3), .second, .val (.int p4), .val (.int 0), .val (.int 1)] [(.int 1), (.ref a14), (.float f10)])) rfl rfl (hb hby d15_89) _ ?_
    refine XS.floadN X43.here hx rfl (hb hby d15_90) rfl ?_
    refine XS.iload X43.here hx rfl (hb hby d15_91) rfl ?_
    refine st46 _ ?_
    show Steps p.tables e below (T46.setTop (mkF m 96 #[.val (.ref a1), .val (.float f2), .val (.long q3), .second, .val (.int p4), .val (.int 0), .val (.int 1)] [(.int (if (cmpValue (FP.fcmp f10 f2) .g) < (0 : Int32) then (1 : Int32) else (if (cmpValue (FP.fcmp f10 f2) .l) = (0 : Int32) then (if p17 < p4 then (1 : Int32) else (0 : Int32)) else (0 : Int32))))])) _
    rw [← ex47]
    refine XS.ifYes X46.here hx rfl (pc0 := 96) (pc' := 102) rfl (hb hby d15_96) rfl ((if0 _ _).trans (feq ((by rw [ex47]; exact cc1) : ¬ (x47 = (0 : Int32)))).2) (by decide) (by decide) ?_
    refine XS.aloadN X46.here hx rfl (hb hby d15_102) rfl rfl ?_
    refine XS.iload X46.here hx rfl (hb hby d15_103) rfl ?_
    refine XS.iload X46.here hx rfl (hb hby d15_105) rfl ?_
    refine st48 _ ?_
    refine XS.iload X48.here hx rfl (hb hby d15_110) rfl ?_
    refine XS.istore X48.here hx rfl (hb hby d15_112) rfl (l' := #[.val (.ref a1), .val (.float f2), .val (.long q3), .second, .val (.int p4), .val (.int 1), .val (.int 1)]) rfl ?_
    refine XS.goto X48.here hx rfl (pc0 := 114) (pc' := 3) rfl (hb hby d15_114) (by decide) (by decide) ?_
    refine XS.iconst X48.here hx rfl (hb hby d15_3) ?_
    refine XS.iload X48.here hx rfl (hb hby d15_4) rfl ?_
    refine XS.imul X48.here hx rfl (hb hby d15_6) rfl ?_
    refine XS.iconst X48.here hx rfl (hb hby d15_7) ?_
    refine XS.iadd X48.here hx rfl (hb hby d15_8) rfl ?_
    refine XS.aloadN X48.here hx rfl (hb hby d15_9) rfl rfl ?_
    refine st50 _ ?_
    refine XS.icmpYes X50.here hx rfl (pc0 := 13) (pc' := 117) rfl (hb hby d15_13) rfl (flt ((by decide : ¬ ((3 : Int32) < (2 : Int32))) : ¬ ((3 : Int32) < (2 : Int32)))).2.1 (by decide) (by decide) ?_
    refine XS.aloadN X50.here hx rfl (hb hby d15_117) rfl rfl ?_
    refine XS.iload X50.here hx rfl (hb hby d15_118) rfl ?_
    refine XS.floadN X50.here hx rfl (hb hby d15_120) rfl ?_
    refine XS.lloadN X50.here hx rfl (hb hby d15_121) rfl ?_
    refine XS.iload X50.here hx rfl (hb hby d15_122) rfl ?_
    refine st54 _ ?_
    exact X54.returnOut hx hret (hb hby d15_127) hr
theorem rm41 (l : Launch) (Z : State) (a0 : Array Value) (hw : HW a0 Z) (ws : List Jvm.Cond) (a1 : Addr) (f2 : UInt32) (q3 : Int64) (p4 : Int32) (a7 : Addr) (f9 : UInt32) (f10 : UInt32) (k11 : ClassId) (a14 : Addr) (p16 : Int32) (p17 : Int32) (k18 : ClassId) (a33 : Addr) (q34 : Int64) (q35 : Int64) (k36 : ClassId) (h0 : Heap) (n0 : Nat) (Z0 : n0 ≤ h0.size) (F_size_a1 : Fld Z h0 a1 kT "size" "I" (.int 2)) (F_scoresAsRead_a1 : Fld Z h0 a1 kT "scoresAsRead" "[F" (.ref a7)) (V_a7 : Arv Z h0 a7 k11 .float (2 : Int32) [(.float f9), (.float f10)] (.float 0)) (F_ordinals_a1 : Fld Z h0 a1 kT "ordinals" "[I" (.ref a14)) (V_a14 : Arv Z h0 a14 k18 .int (2 : Int32) [(.int p16), (.int p17)] (.int 0)) (g_a7 : n0 ≤ a7) (F_scores_a1 : Fld Z h0 a1 kT "scores" "[J" (.ref a33)) (ne_a1_a7 : a1 ≠ a7) (V_a33 : Arv Z h0 a33 k36 .long (2 : Int32) [(.long q34), (.long q35)] (.long 0)) (ne_a33_a7 : a33 ≠ a7) (g_a33 : n0 ≤ a33) (ne_a1_a33 : a1 ≠ a33) (ne_a14_a7 : a14 ≠ a7) (ne_a14_a33 : a14 ≠ a33) (g_a14 : n0 ≤ a14) (E_a7 : Exa Z h0 a7 "[F") (E_a33 : Exa Z h0 a33 "[J") (E_a14 : Exa Z h0 a14 "[I") (E_a1 : Exa Z h0 a1 kT) (ne_a1_a14 : a1 ≠ a14) :
    OwnMet l Z y_10 prog_25_method_9_code 7 none ws Rm41 #[(.ref a1), (.float f2), (.long q3), (.int p4)] h0 (Q41 Z a1 f2 q3 p4 a7 f9 f10 k11 a14 p16 p17 k18 a33 q34 q35 k36 h0 n0) := by
  by_cases cc1 : (if (cmpValue (FP.fcmp f10 f2) .g) < (0 : Int32) then (1 : Int32) else (if (cmpValue (FP.fcmp f10 f2) .l) = (0 : Int32) then (if p17 < p4 then (1 : Int32) else (0 : Int32)) else (0 : Int32))) = (0 : Int32)
  · exact rm41_0 l Z a0 hw ws a1 f2 q3 p4 a7 f9 f10 k11 a14 p16 p17 k18 a33 q34 q35 k36 h0 n0 Z0 F_size_a1 F_scoresAsRead_a1 V_a7 F_ordinals_a1 V_a14 g_a7 F_scores_a1 ne_a1_a7 V_a33 ne_a33_a7 g_a33 ne_a1_a33 ne_a14_a7 ne_a14_a33 g_a14 E_a7 E_a33 E_a14 E_a1 ne_a1_a14 cc1
  · exact rm41_1 l Z a0 hw ws a1 f2 q3 p4 a7 f9 f10 k11 a14 p16 p17 k18 a33 q34 q35 k36 h0 n0 Z0 F_size_a1 F_scoresAsRead_a1 V_a7 F_ordinals_a1 V_a14 g_a7 F_scores_a1 ne_a1_a7 V_a33 ne_a33_a7 g_a33 ne_a1_a33 ne_a14_a7 ne_a14_a33 g_a14 E_a7 E_a33 E_a14 E_a1 ne_a1_a14 cc1
-- com/example/senret/senret/TopSentences.offer(JI)V
abbrev Rm42 : Room := { frames := 3, cells := 0, slots := 0, locals := 49 }
def Q42 (Z : State) (a1 : Addr) (q2 : Int64) (p3 : Int32) (a7 : Addr) (f9 : UInt32) (f10 : UInt32) (k11 : ClassId) (a14 : Addr) (p16 : Int32) (p17 : Int32) (k18 : ClassId) (a45 : Addr) (q46 : Int64) (q47 : Int64) (k48 : ClassId) (h0 : Heap) (n0 : Nat) (v : Option Value) (h : Heap) (L : List Loc) : Prop := v = none ∧ Fr n0 L ∧ Keep h0 h [a7, a45, a14] ∧ Exa Z h a7 "[F" ∧ Arv Z h a7 k11 .float (2 : Int32) [(.float (if (if (cmpValue (FP.fcmp f9 (sC q2)) .g) < (0 : Int32) then (1 : Int32) else (if (cmpValue (FP.fcmp f9 (sC q2)) .l) = (0 : Int32) then (if p16 < p3 then (1 : Int32) else (0 : Int32)) else (0 : Int32))) = (0 : Int32) then f9 else (if (if (cmpValue (FP.fcmp f10 (sC q2)) .g) < (0 : Int32) then (1 : Int32) else (if (cmpValue (FP.fcmp f10 (sC q2)) .l) = (0 : Int32) then (if p17 < p3 then (1 : Int32) else (0 : Int32)) else (0 : Int32))) = (0 : Int32) then (sC q2) else f10))), (.float (if (if (cmpValue (FP.fcmp f9 (sC q2)) .g) < (0 : Int32) then (1 : Int32) else (if (cmpValue (FP.fcmp f9 (sC q2)) .l) = (0 : Int32) then (if p16 < p3 then (1 : Int32) else (0 : Int32)) else (0 : Int32))) = (0 : Int32) then f10 else (if (if (cmpValue (FP.fcmp f10 (sC q2)) .g) < (0 : Int32) then (1 : Int32) else (if (cmpValue (FP.fcmp f10 (sC q2)) .l) = (0 : Int32) then (if p17 < p3 then (1 : Int32) else (0 : Int32)) else (0 : Int32))) = (0 : Int32) then f10 else (sC q2))))] (.float 0) ∧ Exa Z h a45 "[J" ∧ Arv Z h a45 k48 .long (2 : Int32) [(.long (if (if (cmpValue (FP.fcmp f9 (sC q2)) .g) < (0 : Int32) then (1 : Int32) else (if (cmpValue (FP.fcmp f9 (sC q2)) .l) = (0 : Int32) then (if p16 < p3 then (1 : Int32) else (0 : Int32)) else (0 : Int32))) = (0 : Int32) then q46 else (if (if (cmpValue (FP.fcmp f10 (sC q2)) .g) < (0 : Int32) then (1 : Int32) else (if (cmpValue (FP.fcmp f10 (sC q2)) .l) = (0 : Int32) then (if p17 < p3 then (1 : Int32) else (0 : Int32)) else (0 : Int32))) = (0 : Int32) then q2 else q47))), (.long (if (if (cmpValue (FP.fcmp f9 (sC q2)) .g) < (0 : Int32) then (1 : Int32) else (if (cmpValue (FP.fcmp f9 (sC q2)) .l) = (0 : Int32) then (if p16 < p3 then (1 : Int32) else (0 : Int32)) else (0 : Int32))) = (0 : Int32) then q47 else (if (if (cmpValue (FP.fcmp f10 (sC q2)) .g) < (0 : Int32) then (1 : Int32) else (if (cmpValue (FP.fcmp f10 (sC q2)) .l) = (0 : Int32) then (if p17 < p3 then (1 : Int32) else (0 : Int32)) else (0 : Int32))) = (0 : Int32) then q47 else q2)))] (.long 0) ∧ Exa Z h a14 "[I" ∧ Arv Z h a14 k18 .int (2 : Int32) [(.int (if (if (cmpValue (FP.fcmp f9 (sC q2)) .g) < (0 : Int32) then (1 : Int32) else (if (cmpValue (FP.fcmp f9 (sC q2)) .l) = (0 : Int32) then (if p16 < p3 then (1 : Int32) else (0 : Int32)) else (0 : Int32))) = (0 : Int32) then p16 else (if (if (cmpValue (FP.fcmp f10 (sC q2)) .g) < (0 : Int32) then (1 : Int32) else (if (cmpValue (FP.fcmp f10 (sC q2)) .l) = (0 : Int32) then (if p17 < p3 then (1 : Int32) else (0 : Int32)) else (0 : Int32))) = (0 : Int32) then p3 else p17))), (.int (if (if (cmpValue (FP.fcmp f9 (sC q2)) .g) < (0 : Int32) then (1 : Int32) else (if (cmpValue (FP.fcmp f9 (sC q2)) .l) = (0 : Int32) then (if p16 < p3 then (1 : Int32) else (0 : Int32)) else (0 : Int32))) = (0 : Int32) then p17 else (if (if (cmpValue (FP.fcmp f10 (sC q2)) .g) < (0 : Int32) then (1 : Int32) else (if (cmpValue (FP.fcmp f10 (sC q2)) .l) = (0 : Int32) then (if p17 < p3 then (1 : Int32) else (0 : Int32)) else (0 : Int32))) = (0 : Int32) then p17 else p3)))] (.int 0)
-- ef_8cdad2
theorem rm42_0 (l : Launch) (Z : State) (a0 : Array Value) (hw : HW a0 Z) (ws : List Jvm.Cond) (a1 : Addr) (q2 : Int64) (p3 : Int32) (a7 : Addr) (f9 : UInt32) (f10 : UInt32) (k11 : ClassId) (a14 : Addr) (p16 : Int32) (p17 : Int32) (k18 : ClassId) (a45 : Addr) (q46 : Int64) (q47 : Int64) (k48 : ClassId) (h0 : Heap) (n0 : Nat) (Z0 : n0 ≤ h0.size) (F_size_a1 : Fld Z h0 a1 kT "size" "I" (.int 2)) (F_depth_a1 : Fld Z h0 a1 kT "depth" "I" (.int 2)) (F_scoresAsRead_a1 : Fld Z h0 a1 kT "scoresAsRead" "[F" (.ref a7)) (V_a7 : Arv Z h0 a7 k11 .float (2 : Int32) [(.float f9), (.float f10)] (.float 0)) (F_ordinals_a1 : Fld Z h0 a1 kT "ordinals" "[I" (.ref a14)) (V_a14 : Arv Z h0 a14 k18 .int (2 : Int32) [(.int p16), (.int p17)] (.int 0)) (g_a7 : n0 ≤ a7) (F_scores_a1 : Fld Z h0 a1 kT "scores" "[J" (.ref a45)) (ne_a1_a7 : a1 ≠ a7) (V_a45 : Arv Z h0 a45 k48 .long (2 : Int32) [(.long q46), (.long q47)] (.long 0)) (ne_a45_a7 : a45 ≠ a7) (g_a45 : n0 ≤ a45) (ne_a1_a45 : a1 ≠ a45) (ne_a14_a7 : a14 ≠ a7) (ne_a14_a45 : a14 ≠ a45) (g_a14 : n0 ≤ a14) (E_a7 : Exa Z h0 a7 "[F") (E_a45 : Exa Z h0 a45 "[J") (E_a14 : Exa Z h0 a14 "[I") (E_a1 : Exa Z h0 a1 kT) (ne_a1_a14 : a1 ≠ a14) (E_a7 : Exa Z h0 a7 "[F") (E_a45 : Exa Z h0 a45 "[J") (V_a45 : Arv Z h0 a45 k48 .long (2 : Int32) [(.long q46), (.long q47)] (.long 0)) (E_a14 : Exa Z h0 a14 "[I") (cc1 : (if (cmpValue (FP.fcmp f9 (sC q2)) .g) < (0 : Int32) then (1 : Int32) else (if (cmpValue (FP.fcmp f9 (sC q2)) .l) = (0 : Int32) then (if p16 < p3 then (1 : Int32) else (0 : Int32)) else (0 : Int32))) = (0 : Int32)) :
    OwnMet l Z y_7 prog_25_method_4_code 5 none ws Rm42 #[(.ref a1), (.long q2), (.int p3)] h0 (Q42 Z a1 q2 p3 a7 f9 f10 k11 a14 p16 p17 k18 a45 q46 q47 k48 h0 n0) := by
  refine own_body (plainFor_of_name pn_1) (ef_8cdad2 a1 q2 p3) ?_
  intro p e s m below meth c s₁ hx hby hml hown hnm hret hZ X0 e0
  have N0 := Fr.nil n0
  obtain ⟨_, T23, L23, X23, hQ23, st23⟩ := own_callS X0 hx hZ hown (y := y_0) (w_43 hw) (w_1 hw) (w_2 hw) (w_3 hw) (rm1 l Z a0 hw [] q2 h0 n0 Z0) e0 (Ls := #[.val (.ref a1), .val (.long q2), .second, .val (.int p3), .unset]) (by rw [hml]; rfl) (argsL := [(.long q2)]) (rest := []) (lenOf pd_0 rfl) (hb hby d6_1) (W := 0)
  obtain ⟨rfl, Nq23, e23⟩ := hQ23
  have N23 := Fr.app N0 Nq23
  obtain ⟨T24, X24, e24, st24⟩ := getF X23 hx hZ hown (host := "") (Or.inl (w_34 hw)) Via.refl e23 F_size_a1 (g := (mkF m 7 #[.val (.ref a1), .val (.long q2), .second, .val (.int p3), .val (.float (sC q2))] [(.ref a1)])) rfl rfl (hb hby d6_7)
  obtain ⟨T25, X25, e25, st25⟩ := getF X24 hx hZ hown (host := "") (Or.inl (w_14 hw)) Via.refl e24 F_depth_a1 (g := (mkF m 11 #[.val (.ref a1), .val (.long q2), .second, .val (.int p3), .val (.float (sC q2))] [(.ref a1), (.int 2)])) rfl rfl (hb hby d6_11)
  obtain ⟨T26, X26, e26, st26⟩ := getF X25 hx hZ hown (host := "") (Or.inl (w_21 hw)) Via.refl e25 F_scoresAsRead_a1 (g := (mkF m 49 #[.val (.ref a1), .val (.long q2), .second, .val (.int p3), .val (.float (sC q2))] [(.ref a1)])) rfl rfl (hb hby d6_49)
  obtain ⟨cl27, Ar27, q27, S27, M27, Hs27, G27⟩ := id V_a7
  have hin28 : ¬ ((0 : Int32) < 0 ∨ cl27.slots.size ≤ ((0 : Int32)).toNatClampNeg) := inb_of S27 ⟨(by decide : ¬ ((0 : Int32) < (0 : Int32))), (by decide : (0 : Int32) < (2 : Int32))⟩
  obtain ⟨T29, X29, e29, st29⟩ := getF X26 hx hZ hown (host := "") (Or.inl (w_27 hw)) Via.refl e26 F_ordinals_a1 (g := (mkF m 55 #[.val (.ref a1), .val (.long q2), .second, .val (.int p3), .val (.float (sC q2))] [(.ref a1), (.float f9)])) rfl rfl (hb hby d6_55)
  obtain ⟨cl30, Ar30, q30, S30, M30, Hs30, G30⟩ := id V_a14
  have hin31 : ¬ ((0 : Int32) < 0 ∨ cl30.slots.size ≤ ((0 : Int32)).toNatClampNeg) := inb_of S30 ⟨(by decide : ¬ ((0 : Int32) < (0 : Int32))), (by decide : (0 : Int32) < (2 : Int32))⟩
  obtain ⟨_, T32, L32, X32, hQ32, st32⟩ := own_callS X29 hx hZ hown (y := y_9) (w_60 hw) (w_61 hw) (w_7 hw) (w_62 hw) (rm11 l Z a0 hw [] f9 p16 (sC q2) p3 h0 n0 Z0) e29 (Ls := #[.val (.ref a1), .val (.long q2), .second, .val (.int p3), .val (.float (sC q2))]) (by rw [hml]; rfl) (argsL := [(.float f9), (.int p16), (.float (sC q2)), (.int p3)]) (rest := []) (lenOf pd_8 rfl) (hb hby d6_63) (W := 0)
  obtain ⟨rfl, Nq32, e32⟩ := hQ32
  have N32 := Fr.app N23 Nq32
  obtain ⟨x33, ex33⟩ : ∃ z, z = (if (cmpValue (FP.fcmp f9 (sC q2)) .g) < (0 : Int32) then (1 : Int32) else (if (cmpValue (FP.fcmp f9 (sC q2)) .l) = (0 : Int32) then (if p16 < p3 then (1 : Int32) else (0 : Int32)) else (0 : Int32))) := ⟨_, rfl⟩
  refine ⟨T32, _, _, _, none, X32, (fun _ => rfl), by decide, by decide, ?_, fun fs hr => ?_⟩
  · rw [e32]
    subst ex33
    unfold Q42
    rw [show (if (if (cmpValue (FP.fcmp f9 (sC q2)) .g) < (0 : Int32) then (1 : Int32) else (if (cmpValue (FP.fcmp f9 (sC q2)) .l) = (0 : Int32) then (if p16 < p3 then (1 : Int32) else (0 : Int32)) else (0 : Int32))) = (0 : Int32) then f9 else (if (if (cmpValue (FP.fcmp f10 (sC q2)) .g) < (0 : Int32) then (1 : Int32) else (if (cmpValue (FP.fcmp f10 (sC q2)) .l) = (0 : Int32) then (if p17 < p3 then (1 : Int32) else (0 : Int32)) else (0 : Int32))) = (0 : Int32) then (sC q2) else f10)) = f9 from by rw [if_pos cc1]]
    rw [show (if (if (cmpValue (FP.fcmp f9 (sC q2)) .g) < (0 : Int32) then (1 : Int32) else (if (cmpValue (FP.fcmp f9 (sC q2)) .l) = (0 : Int32) then (if p16 < p3 then (1 : Int32) else (0 : Int32)) else (0 : Int32))) = (0 : Int32) then f10 else (if (if (cmpValue (FP.fcmp f10 (sC q2)) .g) < (0 : Int32) then (1 : Int32) else (if (cmpValue (FP.fcmp f10 (sC q2)) .l) = (0 : Int32) then (if p17 < p3 then (1 : Int32) else (0 : Int32)) else (0 : Int32))) = (0 : Int32) then f10 else (sC q2))) = f10 from by rw [if_pos cc1]]
    rw [show (if (if (cmpValue (FP.fcmp f9 (sC q2)) .g) < (0 : Int32) then (1 : Int32) else (if (cmpValue (FP.fcmp f9 (sC q2)) .l) = (0 : Int32) then (if p16 < p3 then (1 : Int32) else (0 : Int32)) else (0 : Int32))) = (0 : Int32) then q46 else (if (if (cmpValue (FP.fcmp f10 (sC q2)) .g) < (0 : Int32) then (1 : Int32) else (if (cmpValue (FP.fcmp f10 (sC q2)) .l) = (0 : Int32) then (if p17 < p3 then (1 : Int32) else (0 : Int32)) else (0 : Int32))) = (0 : Int32) then q2 else q47)) = q46 from by rw [if_pos cc1]]
    rw [show (if (if (cmpValue (FP.fcmp f9 (sC q2)) .g) < (0 : Int32) then (1 : Int32) else (if (cmpValue (FP.fcmp f9 (sC q2)) .l) = (0 : Int32) then (if p16 < p3 then (1 : Int32) else (0 : Int32)) else (0 : Int32))) = (0 : Int32) then q47 else (if (if (cmpValue (FP.fcmp f10 (sC q2)) .g) < (0 : Int32) then (1 : Int32) else (if (cmpValue (FP.fcmp f10 (sC q2)) .l) = (0 : Int32) then (if p17 < p3 then (1 : Int32) else (0 : Int32)) else (0 : Int32))) = (0 : Int32) then q47 else q2)) = q47 from by rw [if_pos cc1]]
    rw [show (if (if (cmpValue (FP.fcmp f9 (sC q2)) .g) < (0 : Int32) then (1 : Int32) else (if (cmpValue (FP.fcmp f9 (sC q2)) .l) = (0 : Int32) then (if p16 < p3 then (1 : Int32) else (0 : Int32)) else (0 : Int32))) = (0 : Int32) then p16 else (if (if (cmpValue (FP.fcmp f10 (sC q2)) .g) < (0 : Int32) then (1 : Int32) else (if (cmpValue (FP.fcmp f10 (sC q2)) .l) = (0 : Int32) then (if p17 < p3 then (1 : Int32) else (0 : Int32)) else (0 : Int32))) = (0 : Int32) then p3 else p17)) = p16 from by rw [if_pos cc1]]
    rw [show (if (if (cmpValue (FP.fcmp f9 (sC q2)) .g) < (0 : Int32) then (1 : Int32) else (if (cmpValue (FP.fcmp f9 (sC q2)) .l) = (0 : Int32) then (if p16 < p3 then (1 : Int32) else (0 : Int32)) else (0 : Int32))) = (0 : Int32) then p17 else (if (if (cmpValue (FP.fcmp f10 (sC q2)) .g) < (0 : Int32) then (1 : Int32) else (if (cmpValue (FP.fcmp f10 (sC q2)) .l) = (0 : Int32) then (if p17 < p3 then (1 : Int32) else (0 : Int32)) else (0 : Int32))) = (0 : Int32) then p17 else p3)) = p17 from by rw [if_pos cc1]]
    exact ⟨rfl, N32, (Keep.refl h0 [a7, a45, a14]), E_a7, V_a7, E_a45, V_a45, E_a14, V_a14⟩
  · refine XS.lloadN X0.here hx rfl (hb hby d6_0) rfl ?_
    refine st23 _ ?_
    refine XS.fstore X23.here hx rfl (hb hby d6_4) rfl (l' := #[.val (.ref a1), .val (.long q2), .second, .val (.int p3), .val (.float (sC q2))]) rfl ?_
    refine XS.aloadN X23.here hx rfl (hb hby d6_6) rfl rfl ?_
    refine st24 _ ?_
    refine XS.aloadN X24.here hx rfl (hb hby d6_10) rfl rfl ?_
    refine st25 _ ?_
    refine XS.icmpYes X25.here hx rfl (pc0 := 14) (pc' := 48) rfl (hb hby d6_14) rfl (flt ((by decide : ¬ ((2 : Int32) < (2 : Int32))) : ¬ ((2 : Int32) < (2 : Int32)))).2.1 (by decide) (by decide) ?_
    refine XS.aloadN X25.here hx rfl (hb hby d6_48) rfl rfl ?_
    refine st26 _ ?_
    refine XS.iconst X26.here hx rfl (hb hby d6_52) ?_
    refine X26.faload hx (j := (0 : Int32)) (v := (.float f9)) (by rw [e26]; exact Ar27.1) (State.isArrayOf_alike hZ.alike Ar27.2.1) Ar27.2.2 hin28 (Has.at Hs27 hin28 rfl) (g := (mkF m 53 #[.val (.ref a1), .val (.long q2), .second, .val (.int p3), .val (.float (sC q2))] [(.int 0), (.ref a7)])) rfl rfl (hb hby d6_53) _ ?_
    refine XS.aloadN X26.here hx rfl (hb hby d6_54) rfl rfl ?_
    refine st29 _ ?_
    refine XS.iconst X29.here hx rfl (hb hby d6_58) ?_
    refine X29.iaload hx (j := (0 : Int32)) (v := (.int p16)) (by rw [e29]; exact Ar30.1) (State.isArrayOf_alike hZ.alike Ar30.2.1) Ar30.2.2 hin31 (Has.at Hs30 hin31 rfl) (g := (mkF m 59 #[.val (.ref a1), .val (.long q2), .second, .val (.int p3), .val (.float (sC q2))] [(.int 0), (.ref a14), (.float f9)])) rfl rfl (hb hby d6_59) _ ?_
    refine XS.fload X29.here hx rfl (hb hby d6_60) rfl ?_
    refine XS.iloadN X29.here hx rfl (hb hby d6_62) rfl ?_
    refine st32 _ ?_
    show Steps p.tables e below (T32.setTop (mkF m 66 #[.val (.ref a1), .val (.long q2), .second, .val (.int p3), .val (.float (sC q2))] [(.int (if (cmpValue (FP.fcmp f9 (sC q2)) .g) < (0 : Int32) then (1 : Int32) else (if (cmpValue (FP.fcmp f9 (sC q2)) .l) = (0 : Int32) then (if p16 < p3 then (1 : Int32) else (0 : Int32)) else (0 : Int32))))])) _
    rw [← ex33]
    refine XS.ifYes X32.here hx rfl (pc0 := 66) (pc' := 77) rfl (hb hby d6_66) rfl ((if0 _ _).trans (teq ((by rw [ex33]; exact cc1) : x33 = (0 : Int32))).1) (by decide) (by decide) ?_
    exact X32.returnOut hx hret (hb hby d6_77) hr
theorem rm42_1 (l : Launch) (Z : State) (a0 : Array Value) (hw : HW a0 Z) (ws : List Jvm.Cond) (a1 : Addr) (q2 : Int64) (p3 : Int32) (a7 : Addr) (f9 : UInt32) (f10 : UInt32) (k11 : ClassId) (a14 : Addr) (p16 : Int32) (p17 : Int32) (k18 : ClassId) (a45 : Addr) (q46 : Int64) (q47 : Int64) (k48 : ClassId) (h0 : Heap) (n0 : Nat) (Z0 : n0 ≤ h0.size) (F_size_a1 : Fld Z h0 a1 kT "size" "I" (.int 2)) (F_depth_a1 : Fld Z h0 a1 kT "depth" "I" (.int 2)) (F_scoresAsRead_a1 : Fld Z h0 a1 kT "scoresAsRead" "[F" (.ref a7)) (V_a7 : Arv Z h0 a7 k11 .float (2 : Int32) [(.float f9), (.float f10)] (.float 0)) (F_ordinals_a1 : Fld Z h0 a1 kT "ordinals" "[I" (.ref a14)) (V_a14 : Arv Z h0 a14 k18 .int (2 : Int32) [(.int p16), (.int p17)] (.int 0)) (g_a7 : n0 ≤ a7) (F_scores_a1 : Fld Z h0 a1 kT "scores" "[J" (.ref a45)) (ne_a1_a7 : a1 ≠ a7) (V_a45 : Arv Z h0 a45 k48 .long (2 : Int32) [(.long q46), (.long q47)] (.long 0)) (ne_a45_a7 : a45 ≠ a7) (g_a45 : n0 ≤ a45) (ne_a1_a45 : a1 ≠ a45) (ne_a14_a7 : a14 ≠ a7) (ne_a14_a45 : a14 ≠ a45) (g_a14 : n0 ≤ a14) (E_a7 : Exa Z h0 a7 "[F") (E_a45 : Exa Z h0 a45 "[J") (E_a14 : Exa Z h0 a14 "[I") (E_a1 : Exa Z h0 a1 kT) (ne_a1_a14 : a1 ≠ a14) (E_a7 : Exa Z h0 a7 "[F") (E_a45 : Exa Z h0 a45 "[J") (V_a45 : Arv Z h0 a45 k48 .long (2 : Int32) [(.long q46), (.long q47)] (.long 0)) (E_a14 : Exa Z h0 a14 "[I") (cc1 : ¬ ((if (cmpValue (FP.fcmp f9 (sC q2)) .g) < (0 : Int32) then (1 : Int32) else (if (cmpValue (FP.fcmp f9 (sC q2)) .l) = (0 : Int32) then (if p16 < p3 then (1 : Int32) else (0 : Int32)) else (0 : Int32))) = (0 : Int32))) :
    OwnMet l Z y_7 prog_25_method_4_code 5 none ws Rm42 #[(.ref a1), (.long q2), (.int p3)] h0 (Q42 Z a1 q2 p3 a7 f9 f10 k11 a14 p16 p17 k18 a45 q46 q47 k48 h0 n0) := by
  refine own_body (plainFor_of_name pn_1) (ef_8cdad2 a1 q2 p3) ?_
  intro p e s m below meth c s₁ hx hby hml hown hnm hret hZ X0 e0
  have N0 := Fr.nil n0
  obtain ⟨_, T34, L34, X34, hQ34, st34⟩ := own_callS X0 hx hZ hown (y := y_0) (w_43 hw) (w_1 hw) (w_2 hw) (w_3 hw) (rm1 l Z a0 hw [] q2 h0 n0 Z0) e0 (Ls := #[.val (.ref a1), .val (.long q2), .second, .val (.int p3), .unset]) (by rw [hml]; rfl) (argsL := [(.long q2)]) (rest := []) (lenOf pd_0 rfl) (hb hby d6_1) (W := 0)
  obtain ⟨rfl, Nq34, e34⟩ := hQ34
  have N34 := Fr.app N0 Nq34
  obtain ⟨T35, X35, e35, st35⟩ := getF X34 hx hZ hown (host := "") (Or.inl (w_34 hw)) Via.refl e34 F_size_a1 (g := (mkF m 7 #[.val (.ref a1), .val (.long q2), .second, .val (.int p3), .val (.float (sC q2))] [(.ref a1)])) rfl rfl (hb hby d6_7)
  obtain ⟨T36, X36, e36, st36⟩ := getF X35 hx hZ hown (host := "") (Or.inl (w_14 hw)) Via.refl e35 F_depth_a1 (g := (mkF m 11 #[.val (.ref a1), .val (.long q2), .second, .val (.int p3), .val (.float (sC q2))] [(.ref a1), (.int 2)])) rfl rfl (hb hby d6_11)
  obtain ⟨T37, X37, e37, st37⟩ := getF X36 hx hZ hown (host := "") (Or.inl (w_21 hw)) Via.refl e36 F_scoresAsRead_a1 (g := (mkF m 49 #[.val (.ref a1), .val (.long q2), .second, .val (.int p3), .val (.float (sC q2))] [(.ref a1)])) rfl rfl (hb hby d6_49)
  obtain ⟨cl38, Ar38, q38, S38, M38, Hs38, G38⟩ := id V_a7
  have hin39 : ¬ ((0 : Int32) < 0 ∨ cl38.slots.size ≤ ((0 : Int32)).toNatClampNeg) := inb_of S38 ⟨(by decide : ¬ ((0 : Int32) < (0 : Int32))), (by decide : (0 : Int32) < (2 : Int32))⟩
  obtain ⟨T40, X40, e40, st40⟩ := getF X37 hx hZ hown (host := "") (Or.inl (w_27 hw)) Via.refl e37 F_ordinals_a1 (g := (mkF m 55 #[.val (.ref a1), .val (.long q2), .second, .val (.int p3), .val (.float (sC q2))] [(.ref a1), (.float f9)])) rfl rfl (hb hby d6_55)
  obtain ⟨cl41, Ar41, q41, S41, M41, Hs41, G41⟩ := id V_a14
  have hin42 : ¬ ((0 : Int32) < 0 ∨ cl41.slots.size ≤ ((0 : Int32)).toNatClampNeg) := inb_of S41 ⟨(by decide : ¬ ((0 : Int32) < (0 : Int32))), (by decide : (0 : Int32) < (2 : Int32))⟩
  obtain ⟨_, T43, L43, X43, hQ43, st43⟩ := own_callS X40 hx hZ hown (y := y_9) (w_60 hw) (w_61 hw) (w_7 hw) (w_62 hw) (rm11 l Z a0 hw [] f9 p16 (sC q2) p3 h0 n0 Z0) e40 (Ls := #[.val (.ref a1), .val (.long q2), .second, .val (.int p3), .val (.float (sC q2))]) (by rw [hml]; rfl) (argsL := [(.float f9), (.int p16), (.float (sC q2)), (.int p3)]) (rest := []) (lenOf pd_8 rfl) (hb hby d6_63) (W := 0)
  obtain ⟨rfl, Nq43, e43⟩ := hQ43
  have N43 := Fr.app N34 Nq43
  obtain ⟨x44, ex44⟩ : ∃ z, z = (if (cmpValue (FP.fcmp f9 (sC q2)) .g) < (0 : Int32) then (1 : Int32) else (if (cmpValue (FP.fcmp f9 (sC q2)) .l) = (0 : Int32) then (if p16 < p3 then (1 : Int32) else (0 : Int32)) else (0 : Int32))) := ⟨_, rfl⟩
  obtain ⟨_, T49, L49, X49, hQ49, st49⟩ := own_private X43 hx hZ hown (y := y_10) E_a1 (w_73 hw) (w_74 hw) (Jvm.Kit.selects_private (by decide) (mvT hZ (w_6 hw)) (mvP hZ (w_75 hw)) (mvT hZ (w_74 hw))) (w_75 hw) (w_7 hw) (w_76 hw) (rm41 l Z a0 hw [] a1 (sC q2) q2 p3 a7 f9 f10 k11 a14 p16 p17 k18 a45 q46 q47 k48 h0 n0 Z0 F_size_a1 F_scoresAsRead_a1 V_a7 F_ordinals_a1 V_a14 g_a7 F_scores_a1 ne_a1_a7 V_a45 ne_a45_a7 g_a45 ne_a1_a45 ne_a14_a7 ne_a14_a45 g_a14 E_a7 E_a45 E_a14 E_a1 ne_a1_a14) e43 (Ls := #[.val (.ref a1), .val (.long q2), .second, .val (.int p3), .val (.float (sC q2))]) (by rw [hml]; rfl) (argsL := [(.float (sC q2)), (.long q2), (.int p3)]) (rest := []) (lenOf pd_9 rfl) (hb hby d6_74) (W := 0)
  obtain ⟨rfl, Nq49, K49, o49_0, o49_1, o49_2, o49_3, o49_4, o49_5⟩ := hQ49
  have N49 := Fr.app N43 Nq49
  have s0 := K49.1
  obtain ⟨x50, ex50⟩ : ∃ z, z = (if (if (cmpValue (FP.fcmp f10 (sC q2)) .g) < (0 : Int32) then (1 : Int32) else (if (cmpValue (FP.fcmp f10 (sC q2)) .l) = (0 : Int32) then (if p17 < p3 then (1 : Int32) else (0 : Int32)) else (0 : Int32))) = (0 : Int32) then (sC q2) else f10) := ⟨_, rfl⟩
  obtain ⟨x51, ex51⟩ : ∃ z, z = (if (if (cmpValue (FP.fcmp f10 (sC q2)) .g) < (0 : Int32) then (1 : Int32) else (if (cmpValue (FP.fcmp f10 (sC q2)) .l) = (0 : Int32) then (if p17 < p3 then (1 : Int32) else (0 : Int32)) else (0 : Int32))) = (0 : Int32) then f10 else (sC q2)) := ⟨_, rfl⟩
  have o49_1' : Arv Z T49.heap a7 k11 .float (2 : Int32) [(.float x50), (.float x51)] (.float 0) := by rw [ex50, ex51]; exact o49_1
  obtain ⟨x52, ex52⟩ : ∃ z, z = (if (if (cmpValue (FP.fcmp f10 (sC q2)) .g) < (0 : Int32) then (1 : Int32) else (if (cmpValue (FP.fcmp f10 (sC q2)) .l) = (0 : Int32) then (if p17 < p3 then (1 : Int32) else (0 : Int32)) else (0 : Int32))) = (0 : Int32) then q2 else q47) := ⟨_, rfl⟩
  obtain ⟨x53, ex53⟩ : ∃ z, z = (if (if (cmpValue (FP.fcmp f10 (sC q2)) .g) < (0 : Int32) then (1 : Int32) else (if (cmpValue (FP.fcmp f10 (sC q2)) .l) = (0 : Int32) then (if p17 < p3 then (1 : Int32) else (0 : Int32)) else (0 : Int32))) = (0 : Int32) then q47 else q2) := ⟨_, rfl⟩
  have o49_3' : Arv Z T49.heap a45 k48 .long (2 : Int32) [(.long x52), (.long x53)] (.long 0) := by rw [ex52, ex53]; exact o49_3
  obtain ⟨x54, ex54⟩ : ∃ z, z = (if (if (cmpValue (FP.fcmp f10 (sC q2)) .g) < (0 : Int32) then (1 : Int32) else (if (cmpValue (FP.fcmp f10 (sC q2)) .l) = (0 : Int32) then (if p17 < p3 then (1 : Int32) else (0 : Int32)) else (0 : Int32))) = (0 : Int32) then p3 else p17) := ⟨_, rfl⟩
  obtain ⟨x55, ex55⟩ : ∃ z, z = (if (if (cmpValue (FP.fcmp f10 (sC q2)) .g) < (0 : Int32) then (1 : Int32) else (if (cmpValue (FP.fcmp f10 (sC q2)) .l) = (0 : Int32) then (if p17 < p3 then (1 : Int32) else (0 : Int32)) else (0 : Int32))) = (0 : Int32) then p17 else p3) := ⟨_, rfl⟩
  have o49_5' : Arv Z T49.heap a14 k18 .int (2 : Int32) [(.int x54), (.int x55)] (.int 0) := by rw [ex54, ex55]; exact o49_5
  have Kp0 : Keep h0 T49.heap [a7, a45, a14] := (Keep.refl h0 [a7, a45, a14]).trans K49 (allS (Or.inl (List.mem_of_getElem? (i := 0) rfl)) (allS (Or.inl (List.mem_of_getElem? (i := 1) rfl)) (allS (Or.inl (List.mem_of_getElem? (i := 2) rfl)) all0)))
  refine ⟨T49, _, _, _, none, X49, (fun _ => rfl), by decide, by decide, ?_, fun fs hr => ?_⟩
  · subst ex55
    subst ex54
    subst ex53
    subst ex52
    subst ex51
    subst ex50
    subst ex44
    unfold Q42
    rw [show (if (if (cmpValue (FP.fcmp f9 (sC q2)) .g) < (0 : Int32) then (1 : Int32) else (if (cmpValue (FP.fcmp f9 (sC q2)) .l) = (0 : Int32) then (if p16 < p3 then (1 : Int32) else (0 : Int32)) else (0 : Int32))) = (0 : Int32) then f9 else (if (if (cmpValue (FP.fcmp f10 (sC q2)) .g) < (0 : Int32) then (1 : Int32) else (if (cmpValue (FP.fcmp f10 (sC q2)) .l) = (0 : Int32) then (if p17 < p3 then (1 : Int32) else (0 : Int32)) else (0 : Int32))) = (0 : Int32) then (sC q2) else f10)) = (if (if (cmpValue (FP.fcmp f10 (sC q2)) .g) < (0 : Int32) then (1 : Int32) else (if (cmpValue (FP.fcmp f10 (sC q2)) .l) = (0 : Int32) then (if p17 < p3 then (1 : Int32) else (0 : Int32)) else (0 : Int32))) = (0 : Int32) then (sC q2) else f10) from by rw [if_neg cc1]]
    rw [show (if (if (cmpValue (FP.fcmp f9 (sC q2)) .g) < (0 : Int32) then (1 : Int32) else (if (cmpValue (FP.fcmp f9 (sC q2)) .l) = (0 : Int32) then (if p16 < p3 then (1 : Int32) else (0 : Int32)) else (0 : Int32))) = (0 : Int32) then f10 else (if (if (cmpValue (FP.fcmp f10 (sC q2)) .g) < (0 : Int32) then (1 : Int32) else (if (cmpValue (FP.fcmp f10 (sC q2)) .l) = (0 : Int32) then (if p17 < p3 then (1 : Int32) else (0 : Int32)) else (0 : Int32))) = (0 : Int32) then f10 else (sC q2))) = (if (if (cmpValue (FP.fcmp f10 (sC q2)) .g) < (0 : Int32) then (1 : Int32) else (if (cmpValue (FP.fcmp f10 (sC q2)) .l) = (0 : Int32) then (if p17 < p3 then (1 : Int32) else (0 : Int32)) else (0 : Int32))) = (0 : Int32) then f10 else (sC q2)) from by rw [if_neg cc1]]
    rw [show (if (if (cmpValue (FP.fcmp f9 (sC q2)) .g) < (0 : Int32) then (1 : Int32) else (if (cmpValue (FP.fcmp f9 (sC q2)) .l) = (0 : Int32) then (if p16 < p3 then (1 : Int32) else (0 : Int32)) else (0 : Int32))) = (0 : Int32) then q46 else (if (if (cmpValue (FP.fcmp f10 (sC q2)) .g) < (0 : Int32) then (1 : Int32) else (if (cmpValue (FP.fcmp f10 (sC q2)) .l) = (0 : Int32) then (if p17 < p3 then (1 : Int32) else (0 : Int32)) else (0 : Int32))) = (0 : Int32) then q2 else q47)) = (if (if (cmpValue (FP.fcmp f10 (sC q2)) .g) < (0 : Int32) then (1 : Int32) else (if (cmpValue (FP.fcmp f10 (sC q2)) .l) = (0 : Int32) then (if p17 < p3 then (1 : Int32) else (0 : Int32)) else (0 : Int32))) = (0 : Int32) then q2 else q47) from by rw [if_neg cc1]]
    rw [show (if (if (cmpValue (FP.fcmp f9 (sC q2)) .g) < (0 : Int32) then (1 : Int32) else (if (cmpValue (FP.fcmp f9 (sC q2)) .l) = (0 : Int32) then (if p16 < p3 then (1 : Int32) else (0 : Int32)) else (0 : Int32))) = (0 : Int32) then q47 else (if (if (cmpValue (FP.fcmp f10 (sC q2)) .g) < (0 : Int32) then (1 : Int32) else (if (cmpValue (FP.fcmp f10 (sC q2)) .l) = (0 : Int32) then (if p17 < p3 then (1 : Int32) else (0 : Int32)) else (0 : Int32))) = (0 : Int32) then q47 else q2)) = (if (if (cmpValue (FP.fcmp f10 (sC q2)) .g) < (0 : Int32) then (1 : Int32) else (if (cmpValue (FP.fcmp f10 (sC q2)) .l) = (0 : Int32) then (if p17 < p3 then (1 : Int32) else (0 : Int32)) else (0 : Int32))) = (0 : Int32) then q47 else q2) from by rw [if_neg cc1]]
    rw [show (if (if (cmpValue (FP.fcmp f9 (sC q2)) .g) < (0 : Int32) then (1 : Int32) else (if (cmpValue (FP.fcmp f9 (sC q2)) .l) = (0 : Int32) then (if p16 < p3 then (1 : Int32) else (0 : Int32)) else (0 : Int32))) = (0 : Int32) then p16 else (if (if (cmpValue (FP.fcmp f10 (sC q2)) .g) < (0 : Int32) then (1 : Int32) else (if (cmpValue (FP.fcmp f10 (sC q2)) .l) = (0 : Int32) then (if p17 < p3 then (1 : Int32) else (0 : Int32)) else (0 : Int32))) = (0 : Int32) then p3 else p17)) = (if (if (cmpValue (FP.fcmp f10 (sC q2)) .g) < (0 : Int32) then (1 : Int32) else (if (cmpValue (FP.fcmp f10 (sC q2)) .l) = (0 : Int32) then (if p17 < p3 then (1 : Int32) else (0 : Int32)) else (0 : Int32))) = (0 : Int32) then p3 else p17) from by rw [if_neg cc1]]
    rw [show (if (if (cmpValue (FP.fcmp f9 (sC q2)) .g) < (0 : Int32) then (1 : Int32) else (if (cmpValue (FP.fcmp f9 (sC q2)) .l) = (0 : Int32) then (if p16 < p3 then (1 : Int32) else (0 : Int32)) else (0 : Int32))) = (0 : Int32) then p17 else (if (if (cmpValue (FP.fcmp f10 (sC q2)) .g) < (0 : Int32) then (1 : Int32) else (if (cmpValue (FP.fcmp f10 (sC q2)) .l) = (0 : Int32) then (if p17 < p3 then (1 : Int32) else (0 : Int32)) else (0 : Int32))) = (0 : Int32) then p17 else p3)) = (if (if (cmpValue (FP.fcmp f10 (sC q2)) .g) < (0 : Int32) then (1 : Int32) else (if (cmpValue (FP.fcmp f10 (sC q2)) .l) = (0 : Int32) then (if p17 < p3 then (1 : Int32) else (0 : Int32)) else (0 : Int32))) = (0 : Int32) then p17 else p3) from by rw [if_neg cc1]]
    exact ⟨rfl, N49, Kp0, o49_0, o49_1', o49_2, o49_3', o49_4, o49_5'⟩
  · refine XS.lloadN X0.here hx rfl (hb hby d6_0) rfl ?_
    refine st34 _ ?_
    refine XS.fstore X34.here hx rfl (hb hby d6_4) rfl (l' := #[.val (.ref a1), .val (.long q2), .second, .val (.int p3), .val (.float (sC q2))]) rfl ?_
    refine XS.aloadN X34.here hx rfl (hb hby d6_6) rfl rfl ?_
    refine st35 _ ?_
    refine XS.aloadN X35.here hx rfl (hb hby d6_10) rfl rfl ?_
    refine st36 _ ?_
    refine XS.icmpYes X36.here hx rfl (pc0 := 14) (pc' := 48) rfl (hb hby d6_14) rfl (flt ((by decide : ¬ ((2 : Int32) < (2 : Int32))) : ¬ ((2 : Int32) < (2 : Int32)))).2.1 (by decide) (by decide) ?_
    refine XS.aloadN X36.here hx rfl (hb hby d6_48) rfl rfl ?_
    refine st37 _ ?_
    refine XS.iconst X37.here hx rfl (hb hby d6_52) ?_
    refine X37.faload hx (j := (0 : Int32)) (v := (.float f9)) (by rw [e37]; exact Ar38.1) (State.isArrayOf_alike hZ.alike Ar38.2.1) Ar38.2.2 hin39 (Has.at Hs38 hin39 rfl) (g := (mkF m 53 #[.val (.ref a1), .val (.long q2), .second, .val (.int p3), .val (.float (sC q2))] [(.int 0), (.ref a7)])) rfl rfl (hb hby d6_53) _ ?_
    refine XS.aloadN X37.here hx rfl (hb hby d6_54) rfl rfl ?_
    refine st40 _ ?_
    refine XS.iconst X40.here hx rfl (hb hby d6_58) ?_
    refine X40.iaload hx (j := (0 : Int32)) (v := (.int p16)) (by rw [e40]; exact Ar41.1) (State.isArrayOf_alike hZ.alike Ar41.2.1) Ar41.2.2 hin42 (Has.at Hs41 hin42 rfl) (g := (mkF m 59 #[.val (.ref a1), .val (.long q2), .second, .val (.int p3), .val (.float (sC q2))] [(.int 0), (.ref a14), (.float f9)])) rfl rfl (hb hby d6_59) _ ?_
    refine XS.fload X40.here hx rfl (hb hby d6_60) rfl ?_
    refine XS.iloadN X40.here hx rfl (hb hby d6_62) rfl ?_
    refine st43 _ ?_
    show Steps p.tables e below (T43.setTop (mkF m 66 #[.val (.ref a1), .val (.long q2), .second, .val (.int p3), .val (.float (sC q2))] [(.int (if (cmpValue (FP.fcmp f9 (sC q2)) .g) < (0 : Int32) then (1 : Int32) else (if (cmpValue (FP.fcmp f9 (sC q2)) .l) = (0 : Int32) then (if p16 < p3 then (1 : Int32) else (0 : Int32)) else (0 : Int32))))])) _
    rw [← ex44]
    refine XS.ifNo X43.here hx rfl (hb hby d6_66) rfl ((if0 _ _).trans (feq ((by rw [ex44]; exact cc1) : ¬ (x44 = (0 : Int32)))).1) ?_
    refine XS.aloadN X43.here hx rfl (hb hby d6_69) rfl rfl ?_
    refine XS.fload X43.here hx rfl (hb hby d6_70) rfl ?_
    refine XS.lloadN X43.here hx rfl (hb hby d6_72) rfl ?_
    refine XS.iloadN X43.here hx rfl (hb hby d6_73) rfl ?_
    refine st49 _ ?_
    exact X49.returnOut hx hret (hb hby d6_77) hr
theorem rm42 (l : Launch) (Z : State) (a0 : Array Value) (hw : HW a0 Z) (ws : List Jvm.Cond) (a1 : Addr) (q2 : Int64) (p3 : Int32) (a7 : Addr) (f9 : UInt32) (f10 : UInt32) (k11 : ClassId) (a14 : Addr) (p16 : Int32) (p17 : Int32) (k18 : ClassId) (a45 : Addr) (q46 : Int64) (q47 : Int64) (k48 : ClassId) (h0 : Heap) (n0 : Nat) (Z0 : n0 ≤ h0.size) (F_size_a1 : Fld Z h0 a1 kT "size" "I" (.int 2)) (F_depth_a1 : Fld Z h0 a1 kT "depth" "I" (.int 2)) (F_scoresAsRead_a1 : Fld Z h0 a1 kT "scoresAsRead" "[F" (.ref a7)) (V_a7 : Arv Z h0 a7 k11 .float (2 : Int32) [(.float f9), (.float f10)] (.float 0)) (F_ordinals_a1 : Fld Z h0 a1 kT "ordinals" "[I" (.ref a14)) (V_a14 : Arv Z h0 a14 k18 .int (2 : Int32) [(.int p16), (.int p17)] (.int 0)) (g_a7 : n0 ≤ a7) (F_scores_a1 : Fld Z h0 a1 kT "scores" "[J" (.ref a45)) (ne_a1_a7 : a1 ≠ a7) (V_a45 : Arv Z h0 a45 k48 .long (2 : Int32) [(.long q46), (.long q47)] (.long 0)) (ne_a45_a7 : a45 ≠ a7) (g_a45 : n0 ≤ a45) (ne_a1_a45 : a1 ≠ a45) (ne_a14_a7 : a14 ≠ a7) (ne_a14_a45 : a14 ≠ a45) (g_a14 : n0 ≤ a14) (E_a7 : Exa Z h0 a7 "[F") (E_a45 : Exa Z h0 a45 "[J") (E_a14 : Exa Z h0 a14 "[I") (E_a1 : Exa Z h0 a1 kT) (ne_a1_a14 : a1 ≠ a14) (E_a7 : Exa Z h0 a7 "[F") (E_a45 : Exa Z h0 a45 "[J") (V_a45 : Arv Z h0 a45 k48 .long (2 : Int32) [(.long q46), (.long q47)] (.long 0)) (E_a14 : Exa Z h0 a14 "[I") :
    OwnMet l Z y_7 prog_25_method_4_code 5 none ws Rm42 #[(.ref a1), (.long q2), (.int p3)] h0 (Q42 Z a1 q2 p3 a7 f9 f10 k11 a14 p16 p17 k18 a45 q46 q47 k48 h0 n0) := by
  by_cases cc1 : (if (cmpValue (FP.fcmp f9 (sC q2)) .g) < (0 : Int32) then (1 : Int32) else (if (cmpValue (FP.fcmp f9 (sC q2)) .l) = (0 : Int32) then (if p16 < p3 then (1 : Int32) else (0 : Int32)) else (0 : Int32))) = (0 : Int32)
  · exact rm42_0 l Z a0 hw ws a1 q2 p3 a7 f9 f10 k11 a14 p16 p17 k18 a45 q46 q47 k48 h0 n0 Z0 F_size_a1 F_depth_a1 F_scoresAsRead_a1 V_a7 F_ordinals_a1 V_a14 g_a7 F_scores_a1 ne_a1_a7 V_a45 ne_a45_a7 g_a45 ne_a1_a45 ne_a14_a7 ne_a14_a45 g_a14 E_a7 E_a45 E_a14 E_a1 ne_a1_a14 E_a7 E_a45 V_a45 E_a14 cc1
  · exact rm42_1 l Z a0 hw ws a1 q2 p3 a7 f9 f10 k11 a14 p16 p17 k18 a45 q46 q47 k48 h0 n0 Z0 F_size_a1 F_depth_a1 F_scoresAsRead_a1 V_a7 F_ordinals_a1 V_a14 g_a7 F_scores_a1 ne_a1_a7 V_a45 ne_a45_a7 g_a45 ne_a1_a45 ne_a14_a7 ne_a14_a45 g_a14 E_a7 E_a45 E_a14 E_a1 ne_a1_a14 E_a7 E_a45 V_a45 E_a14 cc1
theorem d10_55 : decode method_3_code 55 = .ok (.iload_n 0, 1) := by decide +kernel
theorem d10_56 : decode method_3_code 56 = .ok (.iconst 2, 1) := by decide +kernel
theorem d10_57 : decode method_3_code 57 = .ok (.if_icmp .ne 11, 3) := by decide +kernel
theorem d10_60 : decode method_3_code 60 = .ok (.fload_n 2, 1) := by decide +kernel
theorem d10_61 : decode method_3_code 61 = .ok (.fload_n 3, 1) := by decide +kernel
theorem d10_62 : decode method_3_code 62 = .ok (.fload 4, 2) := by decide +kernel
theorem d10_64 : decode method_3_code 64 = .ok (.invokestatic 42, 3) := by decide +kernel
theorem d16_0 : decode method_6_code 0 = .ok (.fload_n 0, 1) := by decide +kernel
theorem d16_1 : decode method_6_code 1 = .ok (.fload_n 1, 1) := by decide +kernel
theorem d16_2 : decode method_6_code 2 = .ok (.fcmp .g, 1) := by decide +kernel
theorem d16_3 : decode method_6_code 3 = .ok (.ifCond .ge 23, 3) := by decide +kernel
theorem d16_6 : decode method_6_code 6 = .ok (.fload_n 1, 1) := by decide +kernel
theorem d16_7 : decode method_6_code 7 = .ok (.fload_n 2, 1) := by decide +kernel
theorem d16_8 : decode method_6_code 8 = .ok (.fcmp .g, 1) := by decide +kernel
theorem d16_9 : decode method_6_code 9 = .ok (.ifCond .ge 5, 3) := by decide +kernel
theorem d16_12 : decode method_6_code 12 = .ok (.fload_n 1, 1) := by decide +kernel
theorem d16_13 : decode method_6_code 13 = .ok (.freturn, 1) := by decide +kernel
theorem d16_14 : decode method_6_code 14 = .ok (.fload_n 0, 1) := by decide +kernel
theorem d16_15 : decode method_6_code 15 = .ok (.fload_n 2, 1) := by decide +kernel
theorem d16_16 : decode method_6_code 16 = .ok (.fcmp .g, 1) := by decide +kernel
theorem d16_17 : decode method_6_code 17 = .ok (.ifCond .ge 7, 3) := by decide +kernel
theorem d16_20 : decode method_6_code 20 = .ok (.fload_n 2, 1) := by decide +kernel
theorem d16_21 : decode method_6_code 21 = .ok (.goto 4, 3) := by decide +kernel
theorem d16_25 : decode method_6_code 25 = .ok (.freturn, 1) := by decide +kernel
theorem d16_24 : decode method_6_code 24 = .ok (.fload_n 0, 1) := by decide +kernel
theorem d16_26 : decode method_6_code 26 = .ok (.fload_n 0, 1) := by decide +kernel
theorem d16_27 : decode method_6_code 27 = .ok (.fload_n 2, 1) := by decide +kernel
theorem d16_28 : decode method_6_code 28 = .ok (.fcmp .g, 1) := by decide +kernel
theorem d16_29 : decode method_6_code 29 = .ok (.ifCond .ge 5, 3) := by decide +kernel
theorem d16_32 : decode method_6_code 32 = .ok (.fload_n 0, 1) := by decide +kernel
theorem d16_33 : decode method_6_code 33 = .ok (.freturn, 1) := by decide +kernel
theorem d16_34 : decode method_6_code 34 = .ok (.fload_n 1, 1) := by decide +kernel
theorem d16_35 : decode method_6_code 35 = .ok (.fload_n 2, 1) := by decide +kernel
theorem d16_36 : decode method_6_code 36 = .ok (.fcmp .g, 1) := by decide +kernel
theorem d16_37 : decode method_6_code 37 = .ok (.ifCond .ge 7, 3) := by decide +kernel
theorem d16_40 : decode method_6_code 40 = .ok (.fload_n 2, 1) := by decide +kernel
theorem d16_41 : decode method_6_code 41 = .ok (.goto 4, 3) := by decide +kernel
theorem d16_45 : decode method_6_code 45 = .ok (.freturn, 1) := by decide +kernel
theorem d16_44 : decode method_6_code 44 = .ok (.fload_n 1, 1) := by decide +kernel
theorem ef_b14e38 (f1 : UInt32) (f2 : UInt32) (f3 : UInt32) (m : MethodId) : entryFrame m #[(.float f1), (.float f2), (.float f3)] 3 = mkF m 0 #[.val (.float f1), .val (.float f2), .val (.float f3)] [] := by first | (simp [entryFrame, mkF, argsToLocals, Value.category]; done) | rfl
abbrev y_14 : MethodName := ⟨"com/example/senret/senret/TopSentencesLowestAdmittedPinLaw", "median", "(FFF)F"⟩
-- com/example/senret/senret/TopSentencesLowestAdmittedPinLaw.median(FFF)F
abbrev Rm43 : Room := { frames := 0, cells := 0, slots := 0, locals := 0 }
def Q43 (Z : State) (f1 : UInt32) (f2 : UInt32) (f3 : UInt32) (h0 : Heap) (n0 : Nat) (v : Option Value) (h : Heap) (L : List Loc) : Prop := v = some (.float (if (cmpValue (FP.fcmp f1 f2) .g) < (0 : Int32) then (if (cmpValue (FP.fcmp f2 f3) .g) < (0 : Int32) then f2 else (if (cmpValue (FP.fcmp f1 f3) .g) < (0 : Int32) then f3 else f1)) else (if (cmpValue (FP.fcmp f1 f3) .g) < (0 : Int32) then f1 else (if (cmpValue (FP.fcmp f2 f3) .g) < (0 : Int32) then f3 else f2)))) ∧ Fr n0 L ∧ h = h0
-- ef_b14e38
theorem rm43_0 (l : Launch) (Z : State) (a0 : Array Value) (hw : HW a0 Z) (ws : List Jvm.Cond) (f1 : UInt32) (f2 : UInt32) (f3 : UInt32) (h0 : Heap) (n0 : Nat) (Z0 : n0 ≤ h0.size) (cc1 : (cmpValue (FP.fcmp f1 f2) .g) < (0 : Int32)) (cc2 : (cmpValue (FP.fcmp f2 f3) .g) < (0 : Int32)) :
    OwnMet l Z y_14 method_6_code 3 (some .float) ws Rm43 #[(.float f1), (.float f2), (.float f3)] h0 (Q43 Z f1 f2 f3 h0 n0) := by
  refine own_body (plainFor_of_name pn_2) (ef_b14e38 f1 f2 f3) ?_
  intro p e s m below meth c s₁ hx hby hml hown hnm hret hZ X0 e0
  have N0 := Fr.nil n0
  refine ⟨s₁, _, _, _, (some (.float f2)), X0, nofun, by decide, by decide, ?_, fun fs hr => ?_⟩
  · rw [e0]
    unfold Q43
    rw [show (if (cmpValue (FP.fcmp f1 f2) .g) < (0 : Int32) then (if (cmpValue (FP.fcmp f2 f3) .g) < (0 : Int32) then f2 else (if (cmpValue (FP.fcmp f1 f3) .g) < (0 : Int32) then f3 else f1)) else (if (cmpValue (FP.fcmp f1 f3) .g) < (0 : Int32) then f1 else (if (cmpValue (FP.fcmp f2 f3) .g) < (0 : Int32) then f3 else f2))) = f2 from by rw [if_pos cc1, if_pos cc2]]
    exact ⟨rfl, N0, rfl⟩
  · refine XS.floadN X0.here hx rfl (hb hby d16_0) rfl ?_
    refine XS.floadN X0.here hx rfl (hb hby d16_1) rfl ?_
    refine XS.fcmpS X0.here hx rfl (hb hby d16_2) rfl rfl ?_
    refine XS.ifNo X0.here hx rfl (hb hby d16_3) rfl ((if0 _ _).trans (tlt (cc1 : (cmpValue (FP.fcmp f1 f2) .g) < (0 : Int32))).2.1) ?_
    refine XS.floadN X0.here hx rfl (hb hby d16_6) rfl ?_
    refine XS.floadN X0.here hx rfl (hb hby d16_7) rfl ?_
    refine XS.fcmpS X0.here hx rfl (hb hby d16_8) rfl rfl ?_
    refine XS.ifNo X0.here hx rfl (hb hby d16_9) rfl ((if0 _ _).trans (tlt (cc2 : (cmpValue (FP.fcmp f2 f3) .g) < (0 : Int32))).2.1) ?_
    refine XS.floadN X0.here hx rfl (hb hby d16_12) rfl ?_
    exact retOut X0 hx hret rfl (Or.inr (Or.inr (Or.inr (Or.inl ⟨rfl, rfl, _, rfl⟩)))) (hb hby d16_13) hr
theorem rm43_1 (l : Launch) (Z : State) (a0 : Array Value) (hw : HW a0 Z) (ws : List Jvm.Cond) (f1 : UInt32) (f2 : UInt32) (f3 : UInt32) (h0 : Heap) (n0 : Nat) (Z0 : n0 ≤ h0.size) (cc1 : (cmpValue (FP.fcmp f1 f2) .g) < (0 : Int32)) (cc2 : ¬ ((cmpValue (FP.fcmp f2 f3) .g) < (0 : Int32))) (cc3 : (cmpValue (FP.fcmp f1 f3) .g) < (0 : Int32)) :
    OwnMet l Z y_14 method_6_code 3 (some .float) ws Rm43 #[(.float f1), (.float f2), (.float f3)] h0 (Q43 Z f1 f2 f3 h0 n0) := by
  refine own_body (plainFor_of_name pn_2) (ef_b14e38 f1 f2 f3) ?_
  intro p e s m below meth c s₁ hx hby hml hown hnm hret hZ X0 e0
  have N0 := Fr.nil n0
  refine ⟨s₁, _, _, _, (some (.float f3)), X0, nofun, by decide, by decide, ?_, fun fs hr => ?_⟩
  · rw [e0]
    unfold Q43
    rw [show (if (cmpValue (FP.fcmp f1 f2) .g) < (0 : Int32) then (if (cmpValue (FP.fcmp f2 f3) .g) < (0 : Int32) then f2 else (if (cmpValue (FP.fcmp f1 f3) .g) < (0 : Int32) then f3 else f1)) else (if (cmpValue (FP.fcmp f1 f3) .g) < (0 : Int32) then f1 else (if (cmpValue (FP.fcmp f2 f3) .g) < (0 : Int32) then f3 else f2))) = f3 from by rw [if_pos cc1, if_neg cc2, if_pos cc3]]
    exact ⟨rfl, N0, rfl⟩
  · refine XS.floadN X0.here hx rfl (hb hby d16_0) rfl ?_
    refine XS.floadN X0.here hx rfl (hb hby d16_1) rfl ?_
    refine XS.fcmpS X0.here hx rfl (hb hby d16_2) rfl rfl ?_
    refine XS.ifNo X0.here hx rfl (hb hby d16_3) rfl ((if0 _ _).trans (tlt (cc1 : (cmpValue (FP.fcmp f1 f2) .g) < (0 : Int32))).2.1) ?_
    refine XS.floadN X0.here hx rfl (hb hby d16_6) rfl ?_
    refine XS.floadN X0.here hx rfl (hb hby d16_7) rfl ?_
    refine XS.fcmpS X0.here hx rfl (hb hby d16_8) rfl rfl ?_
    refine XS.ifYes X0.here hx rfl (pc0 := 9) (pc' := 14) rfl (hb hby d16_9) rfl ((if0 _ _).trans (flt (cc2 : ¬ ((cmpValue (FP.fcmp f2 f3) .g) < (0 : Int32)))).2.1) (by decide) (by decide) ?_
    refine XS.floadN X0.here hx rfl (hb hby d16_14) rfl ?_
    refine XS.floadN X0.here hx rfl (hb hby d16_15) rfl ?_
    refine XS.fcmpS X0.here hx rfl (hb hby d16_16) rfl rfl ?_
    refine XS.ifNo X0.here hx rfl (hb hby d16_17) rfl ((if0 _ _).trans (tlt (cc3 : (cmpValue (FP.fcmp f1 f3) .g) < (0 : Int32))).2.1) ?_
    refine XS.floadN X0.here hx rfl (hb hby d16_20) rfl ?_
    refine XS.goto X0.here hx rfl (pc0 := 21) (pc' := 25) rfl (hb hby d16_21) (by decide) (by decide) ?_
    exact retOut X0 hx hret rfl (Or.inr (Or.inr (Or.inr (Or.inl ⟨rfl, rfl, _, rfl⟩)))) (hb hby d16_25) hr
theorem rm43_2 (l : Launch) (Z : State) (a0 : Array Value) (hw : HW a0 Z) (ws : List Jvm.Cond) (f1 : UInt32) (f2 : UInt32) (f3 : UInt32) (h0 : Heap) (n0 : Nat) (Z0 : n0 ≤ h0.size) (cc1 : (cmpValue (FP.fcmp f1 f2) .g) < (0 : Int32)) (cc2 : ¬ ((cmpValue (FP.fcmp f2 f3) .g) < (0 : Int32))) (cc3 : ¬ ((cmpValue (FP.fcmp f1 f3) .g) < (0 : Int32))) :
    OwnMet l Z y_14 method_6_code 3 (some .float) ws Rm43 #[(.float f1), (.float f2), (.float f3)] h0 (Q43 Z f1 f2 f3 h0 n0) := by
  refine own_body (plainFor_of_name pn_2) (ef_b14e38 f1 f2 f3) ?_
  intro p e s m below meth c s₁ hx hby hml hown hnm hret hZ X0 e0
  have N0 := Fr.nil n0
  refine ⟨s₁, _, _, _, (some (.float f1)), X0, nofun, by decide, by decide, ?_, fun fs hr => ?_⟩
  · rw [e0]
    unfold Q43
    rw [show (if (cmpValue (FP.fcmp f1 f2) .g) < (0 : Int32) then (if (cmpValue (FP.fcmp f2 f3) .g) < (0 : Int32) then f2 else (if (cmpValue (FP.fcmp f1 f3) .g) < (0 : Int32) then f3 else f1)) else (if (cmpValue (FP.fcmp f1 f3) .g) < (0 : Int32) then f1 else (if (cmpValue (FP.fcmp f2 f3) .g) < (0 : Int32) then f3 else f2))) = f1 from by rw [if_pos cc1, if_neg cc2, if_neg cc3]]
    exact ⟨rfl, N0, rfl⟩
  · refine XS.floadN X0.here hx rfl (hb hby d16_0) rfl ?_
    refine XS.floadN X0.here hx rfl (hb hby d16_1) rfl ?_
    refine XS.fcmpS X0.here hx rfl (hb hby d16_2) rfl rfl ?_
    refine XS.ifNo X0.here hx rfl (hb hby d16_3) rfl ((if0 _ _).trans (tlt (cc1 : (cmpValue (FP.fcmp f1 f2) .g) < (0 : Int32))).2.1) ?_
    refine XS.floadN X0.here hx rfl (hb hby d16_6) rfl ?_
    refine XS.floadN X0.here hx rfl (hb hby d16_7) rfl ?_
    refine XS.fcmpS X0.here hx rfl (hb hby d16_8) rfl rfl ?_
    refine XS.ifYes X0.here hx rfl (pc0 := 9) (pc' := 14) rfl (hb hby d16_9) rfl ((if0 _ _).trans (flt (cc2 : ¬ ((cmpValue (FP.fcmp f2 f3) .g) < (0 : Int32)))).2.1) (by decide) (by decide) ?_
    refine XS.floadN X0.here hx rfl (hb hby d16_14) rfl ?_
    refine XS.floadN X0.here hx rfl (hb hby d16_15) rfl ?_
    refine XS.fcmpS X0.here hx rfl (hb hby d16_16) rfl rfl ?_
    refine XS.ifYes X0.here hx rfl (pc0 := 17) (pc' := 24) rfl (hb hby d16_17) rfl ((if0 _ _).trans (flt (cc3 : ¬ ((cmpValue (FP.fcmp f1 f3) .g) < (0 : Int32)))).2.1) (by decide) (by decide) ?_
    refine XS.floadN X0.here hx rfl (hb hby d16_24) rfl ?_
    exact retOut X0 hx hret rfl (Or.inr (Or.inr (Or.inr (Or.inl ⟨rfl, rfl, _, rfl⟩)))) (hb hby d16_25) hr
theorem rm43_3 (l : Launch) (Z : State) (a0 : Array Value) (hw : HW a0 Z) (ws : List Jvm.Cond) (f1 : UInt32) (f2 : UInt32) (f3 : UInt32) (h0 : Heap) (n0 : Nat) (Z0 : n0 ≤ h0.size) (cc1 : ¬ ((cmpValue (FP.fcmp f1 f2) .g) < (0 : Int32))) (cc2 : (cmpValue (FP.fcmp f1 f3) .g) < (0 : Int32)) :
    OwnMet l Z y_14 method_6_code 3 (some .float) ws Rm43 #[(.float f1), (.float f2), (.float f3)] h0 (Q43 Z f1 f2 f3 h0 n0) := by
  refine own_body (plainFor_of_name pn_2) (ef_b14e38 f1 f2 f3) ?_
  intro p e s m below meth c s₁ hx hby hml hown hnm hret hZ X0 e0
  have N0 := Fr.nil n0
  refine ⟨s₁, _, _, _, (some (.float f1)), X0, nofun, by decide, by decide, ?_, fun fs hr => ?_⟩
  · rw [e0]
    unfold Q43
    rw [show (if (cmpValue (FP.fcmp f1 f2) .g) < (0 : Int32) then (if (cmpValue (FP.fcmp f2 f3) .g) < (0 : Int32) then f2 else (if (cmpValue (FP.fcmp f1 f3) .g) < (0 : Int32) then f3 else f1)) else (if (cmpValue (FP.fcmp f1 f3) .g) < (0 : Int32) then f1 else (if (cmpValue (FP.fcmp f2 f3) .g) < (0 : Int32) then f3 else f2))) = f1 from by rw [if_neg cc1, if_pos cc2]]
    exact ⟨rfl, N0, rfl⟩
  · refine XS.floadN X0.here hx rfl (hb hby d16_0) rfl ?_
    refine XS.floadN X0.here hx rfl (hb hby d16_1) rfl ?_
    refine XS.fcmpS X0.here hx rfl (hb hby d16_2) rfl rfl ?_
    refine XS.ifYes X0.here hx rfl (pc0 := 3) (pc' := 26) rfl (hb hby d16_3) rfl ((if0 _ _).trans (flt (cc1 : ¬ ((cmpValue (FP.fcmp f1 f2) .g) < (0 : Int32)))).2.1) (by decide) (by decide) ?_
    refine XS.floadN X0.here hx rfl (hb hby d16_26) rfl ?_
    refine XS.floadN X0.here hx rfl (hb hby d16_27) rfl ?_
    refine XS.fcmpS X0.here hx rfl (hb hby d16_28) rfl rfl ?_
    refine XS.ifNo X0.here hx rfl (hb hby d16_29) rfl ((if0 _ _).trans (tlt (cc2 : (cmpValue (FP.fcmp f1 f3) .g) < (0 : Int32))).2.1) ?_
    refine XS.floadN X0.here hx rfl (hb hby d16_32) rfl ?_
    exact retOut X0 hx hret rfl (Or.inr (Or.inr (Or.inr (Or.inl ⟨rfl, rfl, _, rfl⟩)))) (hb hby d16_33) hr
theorem rm43_4 (l : Launch) (Z : State) (a0 : Array Value) (hw : HW a0 Z) (ws : List Jvm.Cond) (f1 : UInt32) (f2 : UInt32) (f3 : UInt32) (h0 : Heap) (n0 : Nat) (Z0 : n0 ≤ h0.size) (cc1 : ¬ ((cmpValue (FP.fcmp f1 f2) .g) < (0 : Int32))) (cc2 : ¬ ((cmpValue (FP.fcmp f1 f3) .g) < (0 : Int32))) (cc3 : (cmpValue (FP.fcmp f2 f3) .g) < (0 : Int32)) :
    OwnMet l Z y_14 method_6_code 3 (some .float) ws Rm43 #[(.float f1), (.float f2), (.float f3)] h0 (Q43 Z f1 f2 f3 h0 n0) := by
  refine own_body (plainFor_of_name pn_2) (ef_b14e38 f1 f2 f3) ?_
  intro p e s m below meth c s₁ hx hby hml hown hnm hret hZ X0 e0
  have N0 := Fr.nil n0
  refine ⟨s₁, _, _, _, (some (.float f3)), X0, nofun, by decide, by decide, ?_, fun fs hr => ?_⟩
  · rw [e0]
    unfold Q43
    rw [show (if (cmpValue (FP.fcmp f1 f2) .g) < (0 : Int32) then (if (cmpValue (FP.fcmp f2 f3) .g) < (0 : Int32) then f2 else (if (cmpValue (FP.fcmp f1 f3) .g) < (0 : Int32) then f3 else f1)) else (if (cmpValue (FP.fcmp f1 f3) .g) < (0 : Int32) then f1 else (if (cmpValue (FP.fcmp f2 f3) .g) < (0 : Int32) then f3 else f2))) = f3 from by rw [if_neg cc1, if_neg cc2, if_pos cc3]]
    exact ⟨rfl, N0, rfl⟩
  · refine XS.floadN X0.here hx rfl (hb hby d16_0) rfl ?_
    refine XS.floadN X0.here hx rfl (hb hby d16_1) rfl ?_
    refine XS.fcmpS X0.here hx rfl (hb hby d16_2) rfl rfl ?_
    refine XS.ifYes X0.here hx rfl (pc0 := 3) (pc' := 26) rfl (hb hby d16_3) rfl ((if0 _ _).trans (flt (cc1 : ¬ ((cmpValue (FP.fcmp f1 f2) .g) < (0 : Int32)))).2.1) (by decide) (by decide) ?_
    refine XS.floadN X0.here hx rfl (hb hby d16_26) rfl ?_
    refine XS.floadN X0.here hx rfl (hb hby d16_27) rfl ?_
    refine XS.fcmpS X0.here hx rfl (hb hby d16_28) rfl rfl ?_
    refine XS.ifYes X0.here hx rfl (pc0 := 29) (pc' := 34) rfl (hb hby d16_29) rfl ((if0 _ _).trans (flt (cc2 : ¬ ((cmpValue (FP.fcmp f1 f3) .g) < (0 : Int32)))).2.1) (by decide) (by decide) ?_
    refine XS.floadN X0.here hx rfl (hb hby d16_34) rfl ?_
    refine XS.floadN X0.here hx rfl (hb hby d16_35) rfl ?_
    refine XS.fcmpS X0.here hx rfl (hb hby d16_36) rfl rfl ?_
    refine XS.ifNo X0.here hx rfl (hb hby d16_37) rfl ((if0 _ _).trans (tlt (cc3 : (cmpValue (FP.fcmp f2 f3) .g) < (0 : Int32))).2.1) ?_
    refine XS.floadN X0.here hx rfl (hb hby d16_40) rfl ?_
    refine XS.goto X0.here hx rfl (pc0 := 41) (pc' := 45) rfl (hb hby d16_41) (by decide) (by decide) ?_
    exact retOut X0 hx hret rfl (Or.inr (Or.inr (Or.inr (Or.inl ⟨rfl, rfl, _, rfl⟩)))) (hb hby d16_45) hr
theorem rm43_5 (l : Launch) (Z : State) (a0 : Array Value) (hw : HW a0 Z) (ws : List Jvm.Cond) (f1 : UInt32) (f2 : UInt32) (f3 : UInt32) (h0 : Heap) (n0 : Nat) (Z0 : n0 ≤ h0.size) (cc1 : ¬ ((cmpValue (FP.fcmp f1 f2) .g) < (0 : Int32))) (cc2 : ¬ ((cmpValue (FP.fcmp f1 f3) .g) < (0 : Int32))) (cc3 : ¬ ((cmpValue (FP.fcmp f2 f3) .g) < (0 : Int32))) :
    OwnMet l Z y_14 method_6_code 3 (some .float) ws Rm43 #[(.float f1), (.float f2), (.float f3)] h0 (Q43 Z f1 f2 f3 h0 n0) := by
  refine own_body (plainFor_of_name pn_2) (ef_b14e38 f1 f2 f3) ?_
  intro p e s m below meth c s₁ hx hby hml hown hnm hret hZ X0 e0
  have N0 := Fr.nil n0
  refine ⟨s₁, _, _, _, (some (.float f2)), X0, nofun, by decide, by decide, ?_, fun fs hr => ?_⟩
  · rw [e0]
    unfold Q43
    rw [show (if (cmpValue (FP.fcmp f1 f2) .g) < (0 : Int32) then (if (cmpValue (FP.fcmp f2 f3) .g) < (0 : Int32) then f2 else (if (cmpValue (FP.fcmp f1 f3) .g) < (0 : Int32) then f3 else f1)) else (if (cmpValue (FP.fcmp f1 f3) .g) < (0 : Int32) then f1 else (if (cmpValue (FP.fcmp f2 f3) .g) < (0 : Int32) then f3 else f2))) = f2 from by rw [if_neg cc1, if_neg cc2, if_neg cc3]]
    exact ⟨rfl, N0, rfl⟩
  · refine XS.floadN X0.here hx rfl (hb hby d16_0) rfl ?_
    refine XS.floadN X0.here hx rfl (hb hby d16_1) rfl ?_
    refine XS.fcmpS X0.here hx rfl (hb hby d16_2) rfl rfl ?_
    refine XS.ifYes X0.here hx rfl (pc0 := 3) (pc' := 26) rfl (hb hby d16_3) rfl ((if0 _ _).trans (flt (cc1 : ¬ ((cmpValue (FP.fcmp f1 f2) .g) < (0 : Int32)))).2.1) (by decide) (by decide) ?_
    refine XS.floadN X0.here hx rfl (hb hby d16_26) rfl ?_
    refine XS.floadN X0.here hx rfl (hb hby d16_27) rfl ?_
    refine XS.fcmpS X0.here hx rfl (hb hby d16_28) rfl rfl ?_
    refine XS.ifYes X0.here hx rfl (pc0 := 29) (pc' := 34) rfl (hb hby d16_29) rfl ((if0 _ _).trans (flt (cc2 : ¬ ((cmpValue (FP.fcmp f1 f3) .g) < (0 : Int32)))).2.1) (by decide) (by decide) ?_
    refine XS.floadN X0.here hx rfl (hb hby d16_34) rfl ?_
    refine XS.floadN X0.here hx rfl (hb hby d16_35) rfl ?_
    refine XS.fcmpS X0.here hx rfl (hb hby d16_36) rfl rfl ?_
    refine XS.ifYes X0.here hx rfl (pc0 := 37) (pc' := 44) rfl (hb hby d16_37) rfl ((if0 _ _).trans (flt (cc3 : ¬ ((cmpValue (FP.fcmp f2 f3) .g) < (0 : Int32)))).2.1) (by decide) (by decide) ?_
    refine XS.floadN X0.here hx rfl (hb hby d16_44) rfl ?_
    exact retOut X0 hx hret rfl (Or.inr (Or.inr (Or.inr (Or.inl ⟨rfl, rfl, _, rfl⟩)))) (hb hby d16_45) hr
theorem rm43 (l : Launch) (Z : State) (a0 : Array Value) (hw : HW a0 Z) (ws : List Jvm.Cond) (f1 : UInt32) (f2 : UInt32) (f3 : UInt32) (h0 : Heap) (n0 : Nat) (Z0 : n0 ≤ h0.size) :
    OwnMet l Z y_14 method_6_code 3 (some .float) ws Rm43 #[(.float f1), (.float f2), (.float f3)] h0 (Q43 Z f1 f2 f3 h0 n0) := by
  by_cases cc1 : (cmpValue (FP.fcmp f1 f2) .g) < (0 : Int32)
  · by_cases cc2 : (cmpValue (FP.fcmp f2 f3) .g) < (0 : Int32)
    · exact rm43_0 l Z a0 hw ws f1 f2 f3 h0 n0 Z0 cc1 cc2
    · by_cases cc3 : (cmpValue (FP.fcmp f1 f3) .g) < (0 : Int32)
      · exact rm43_1 l Z a0 hw ws f1 f2 f3 h0 n0 Z0 cc1 cc2 cc3
      · exact rm43_2 l Z a0 hw ws f1 f2 f3 h0 n0 Z0 cc1 cc2 cc3
  · by_cases cc2 : (cmpValue (FP.fcmp f1 f3) .g) < (0 : Int32)
    · exact rm43_3 l Z a0 hw ws f1 f2 f3 h0 n0 Z0 cc1 cc2
    · by_cases cc3 : (cmpValue (FP.fcmp f2 f3) .g) < (0 : Int32)
      · exact rm43_4 l Z a0 hw ws f1 f2 f3 h0 n0 Z0 cc1 cc2 cc3
      · exact rm43_5 l Z a0 hw ws f1 f2 f3 h0 n0 Z0 cc1 cc2 cc3
theorem pd_12 : parseMethodDescriptor "(FFF)F" = some ⟨[.float, .float, .float], some .float⟩ := by decide +kernel
theorem w_79 {a0 : Array Value} {Z : State} (hw : HW a0 Z) : Jvm.Cond.before (Jvm.Cond.code ({ cls := "com/example/senret/senret/TopSentencesLowestAdmittedPinLaw", name := "median", desc := "(FFF)F" } : Jvm.MethodName) method_6_code (3 : Nat) (Option.some Jvm.ClassFile.FieldType.float)) a0 Z = true := hw _ (List.mem_of_getElem? (i := 79) rfl)
theorem w_77 {a0 : Array Value} {Z : State} (hw : HW a0 Z) : Jvm.Cond.before (Jvm.Cond.methodLink "com/example/senret/senret/TopSentencesLowestAdmittedPinLaw" (42 : Nat) ({ cls := "com/example/senret/senret/TopSentencesLowestAdmittedPinLaw", name := "median", desc := "(FFF)F" } : Jvm.MethodName)) a0 Z = true := hw _ (List.mem_of_getElem? (i := 77) rfl)
theorem w_78 {a0 : Array Value} {Z : State} (hw : HW a0 Z) : Jvm.Cond.before (Jvm.Cond.static ({ cls := "com/example/senret/senret/TopSentencesLowestAdmittedPinLaw", name := "median", desc := "(FFF)F" } : Jvm.MethodName)) a0 Z = true := hw _ (List.mem_of_getElem? (i := 78) rfl)
theorem d10_67 : decode method_3_code 67 = .ok (.freturn, 1) := by decide +kernel
theorem ef_ffc51e (f1 : UInt32) (f2 : UInt32) (f3 : UInt32) (m : MethodId) : entryFrame m #[(.int 2), (.int 3), (.float f1), (.float f2), (.float f3)] 5 = mkF m 0 #[.val (.int 2), .val (.int 3), .val (.float f1), .val (.float f2), .val (.float f3)] [] := by first | (simp [entryFrame, mkF, argsToLocals, Value.category]; done) | rfl
-- com/example/senret/senret/TopSentencesLowestAdmittedPinLaw.expected(IIFFF)F
abbrev Rm44 : Room := { frames := 1, cells := 0, slots := 0, locals := 14 }
def Q44 (Z : State) (f1 : UInt32) (f2 : UInt32) (f3 : UInt32) (h0 : Heap) (n0 : Nat) (v : Option Value) (h : Heap) (L : List Loc) : Prop := v = some (.float (if (cmpValue (FP.fcmp f1 f2) .g) < (0 : Int32) then (if (cmpValue (FP.fcmp f2 f3) .g) < (0 : Int32) then f2 else (if (cmpValue (FP.fcmp f1 f3) .g) < (0 : Int32) then f3 else f1)) else (if (cmpValue (FP.fcmp f1 f3) .g) < (0 : Int32) then f1 else (if (cmpValue (FP.fcmp f2 f3) .g) < (0 : Int32) then f3 else f2)))) ∧ Fr n0 L ∧ h = h0
-- ef_ffc51e
theorem rm44 (l : Launch) (Z : State) (a0 : Array Value) (hw : HW a0 Z) (ws : List Jvm.Cond) (f1 : UInt32) (f2 : UInt32) (f3 : UInt32) (h0 : Heap) (n0 : Nat) (Z0 : n0 ≤ h0.size) :
    OwnMet l Z y_8 method_3_code 5 (some .float) ws Rm44 #[(.int 2), (.int 3), (.float f1), (.float f2), (.float f3)] h0 (Q44 Z f1 f2 f3 h0 n0) := by
  refine own_body (plainFor_of_name pn_2) (ef_ffc51e f1 f2 f3) ?_
  intro p e s m below meth c s₁ hx hby hml hown hnm hret hZ X0 e0
  have N0 := Fr.nil n0
  obtain ⟨_, T4, L4, X4, hQ4, st4⟩ := own_callS X0 hx hZ hown (y := y_14) (w_77 hw) (w_78 hw) (w_58 hw) (w_79 hw) (rm43 l Z a0 hw [] f1 f2 f3 h0 n0 Z0) e0 (Ls := #[.val (.int 2), .val (.int 3), .val (.float f1), .val (.float f2), .val (.float f3)]) (by rw [hml]; rfl) (argsL := [(.float f1), (.float f2), (.float f3)]) (rest := []) (lenOf pd_12 rfl) (hb hby d10_64) (W := 0)
  obtain ⟨rfl, Nq4, e4⟩ := hQ4
  have N4 := Fr.app N0 Nq4
  obtain ⟨x5, ex5⟩ : ∃ z, z = (if (cmpValue (FP.fcmp f1 f2) .g) < (0 : Int32) then (if (cmpValue (FP.fcmp f2 f3) .g) < (0 : Int32) then f2 else (if (cmpValue (FP.fcmp f1 f3) .g) < (0 : Int32) then f3 else f1)) else (if (cmpValue (FP.fcmp f1 f3) .g) < (0 : Int32) then f1 else (if (cmpValue (FP.fcmp f2 f3) .g) < (0 : Int32) then f3 else f2))) := ⟨_, rfl⟩
  refine ⟨T4, _, _, _, (some (.float x5)), X4, nofun, by decide, by decide, ?_, fun fs hr => ?_⟩
  · rw [e4]
    subst ex5
    exact ⟨rfl, N4, rfl⟩
  · refine XS.iloadN X0.here hx rfl (hb hby d10_0) rfl ?_
    refine XS.iloadN X0.here hx rfl (hb hby d10_1) rfl ?_
    refine XS.icmpYes X0.here hx rfl (pc0 := 2) (pc' := 8) rfl (hb hby d10_2) rfl (flt ((by decide : ¬ ((3 : Int32) < (2 : Int32))) : ¬ ((3 : Int32) < (2 : Int32)))).2.1 (by decide) (by decide) ?_
    refine XS.iloadN X0.here hx rfl (hb hby d10_8) rfl ?_
    refine XS.iconst X0.here hx rfl (hb hby d10_9) ?_
    refine XS.icmpYes X0.here hx rfl (pc0 := 10) (pc' := 15) rfl (hb hby d10_10) rfl (feq ((by decide : ¬ ((3 : Int32) = (1 : Int32))) : ¬ ((3 : Int32) = (1 : Int32)))).2 (by decide) (by decide) ?_
    refine XS.iloadN X0.here hx rfl (hb hby d10_15) rfl ?_
    refine XS.iconst X0.here hx rfl (hb hby d10_16) ?_
    refine XS.icmpYes X0.here hx rfl (pc0 := 17) (pc' := 39) rfl (hb hby d10_17) rfl (feq ((by decide : ¬ ((3 : Int32) = (2 : Int32))) : ¬ ((3 : Int32) = (2 : Int32)))).2 (by decide) (by decide) ?_
    refine XS.iloadN X0.here hx rfl (hb hby d10_39) rfl ?_
    refine XS.iconst X0.here hx rfl (hb hby d10_40) ?_
    refine XS.icmpYes X0.here hx rfl (pc0 := 41) (pc' := 55) rfl (hb hby d10_41) rfl (feq ((by decide : ¬ ((2 : Int32) = (1 : Int32))) : ¬ ((2 : Int32) = (1 : Int32)))).2 (by decide) (by decide) ?_
    refine XS.iloadN X0.here hx rfl (hb hby d10_55) rfl ?_
    refine XS.iconst X0.here hx rfl (hb hby d10_56) ?_
    refine XS.icmpNo X0.here hx rfl (hb hby d10_57) rfl (teq ((by decide : (2 : Int32) = (2 : Int32)) : (2 : Int32) = (2 : Int32))).2 ?_
    refine XS.floadN X0.here hx rfl (hb hby d10_60) rfl ?_
    refine XS.floadN X0.here hx rfl (hb hby d10_61) rfl ?_
    refine XS.fload X0.here hx rfl (hb hby d10_62) rfl ?_
    refine st4 _ ?_
    show Steps p.tables e below (T4.setTop (mkF m 67 #[.val (.int 2), .val (.int 3), .val (.float f1), .val (.float f2), .val (.float f3)] [(.float (if (cmpValue (FP.fcmp f1 f2) .g) < (0 : Int32) then (if (cmpValue (FP.fcmp f2 f3) .g) < (0 : Int32) then f2 else (if (cmpValue (FP.fcmp f1 f3) .g) < (0 : Int32) then f3 else f1)) else (if (cmpValue (FP.fcmp f1 f3) .g) < (0 : Int32) then f1 else (if (cmpValue (FP.fcmp f2 f3) .g) < (0 : Int32) then f3 else f2))))])) _
    rw [← ex5]
    exact retOut X4 hx hret rfl (Or.inr (Or.inr (Or.inr (Or.inl ⟨rfl, rfl, _, rfl⟩)))) (hb hby d10_67) hr
theorem rm0_1 (l : Launch) (Z : State) (a0 : Array Value) (hw : HW a0 Z) (ws : List Jvm.Cond) (p1 : Int32) (p2 : Int64) (p3 : Int64) (p4 : Int64) (p5 : Int32) (p6 : Int32) (h0 : Heap) (n0 : Nat) (Z0 : n0 ≤ h0.size) (Od0 : Old Z n0 h0) (hk : (p1 &&& (3 : Int32)) = (1 : Int32)) :
    OwnMet l Z x code maxLocals ret ws room_1 #[(.int p1), (.long p2), (.long p3), (.long p4), (.int p5), (.int p6)] h0 (Q0 n0) := by
  refine own_body (plainFor_of_name pn_2) (ef0 p1 p2 p3 p4 p5 p6) ?_
  intro p e s m below meth c s₁ hx hby hml hown hnm hret hZ X0 e0
  have N0 := Fr.nil n0
  obtain ⟨_, T1, L1, X1, hQ1, st1⟩ := own_callS X0 hx hZ hown (y := y_0) (w_0 hw) (w_1 hw) (w_2 hw) (w_3 hw) (rm1 l Z a0 hw [] p2 h0 n0 Z0) e0 (Ls := #[.val (.int p1), .val (.long p2), .second, .val (.long p3), .second, .val (.long p4), .second, .val (.int p5), .val (.int p6), .val (.int 2), .val (.int (p1 >>> ((2 : Int32) &&& 31))), .unset, .unset, .unset, .unset, .unset]) (by rw [hml]; rfl) (argsL := [(.long p2)]) (rest := []) (lenOf pd_0 rfl) (hb hby at_13) (W := 0)
  obtain ⟨rfl, Nq1, e1⟩ := hQ1
  have N1 := Fr.app N0 Nq1
  obtain ⟨_, T2, L2, X2, hQ2, st2⟩ := own_callS X1 hx hZ hown (y := y_0) (w_0 hw) (w_1 hw) (w_2 hw) (w_3 hw) (rm1 l Z a0 hw [] p3 h0 n0 Z0) e1 (Ls := #[.val (.int p1), .val (.long p2), .second, .val (.long p3), .second, .val (.long p4), .second, .val (.int p5), .val (.int p6), .val (.int 2), .val (.int (p1 >>> ((2 : Int32) &&& 31))), .val (.float (sC p2)), .unset, .unset, .unset, .unset]) (by rw [hml]; rfl) (argsL := [(.long p3)]) (rest := []) (lenOf pd_0 rfl) (hb hby at_19) (W := 0)
  obtain ⟨rfl, Nq2, e2⟩ := hQ2
  have N2 := Fr.app N1 Nq2
  obtain ⟨_, T3, L3, X3, hQ3, st3⟩ := own_callS X2 hx hZ hown (y := y_0) (w_0 hw) (w_1 hw) (w_2 hw) (w_3 hw) (rm1 l Z a0 hw [] p4 h0 n0 Z0) e2 (Ls := #[.val (.int p1), .val (.long p2), .second, .val (.long p3), .second, .val (.long p4), .second, .val (.int p5), .val (.int p6), .val (.int 2), .val (.int (p1 >>> ((2 : Int32) &&& 31))), .val (.float (sC p2)), .val (.float (sC p3)), .unset, .unset, .unset]) (by rw [hml]; rfl) (argsL := [(.long p4)]) (rest := []) (lenOf pd_0 rfl) (hb hby at_26) (W := 0)
  obtain ⟨rfl, Nq3, e3⟩ := hQ3
  have N3 := Fr.app N2 Nq3
  obtain ⟨T4, h4, X4, e4, E4, A4, D4, -, st4⟩ := newO X3 hx hZ hown (w_5 hw) (w_6 hw) (w_7 hw) e3 (g := (mkF m 31 #[.val (.int p1), .val (.long p2), .second, .val (.long p3), .second, .val (.long p4), .second, .val (.int p5), .val (.int p6), .val (.int 2), .val (.int (p1 >>> ((2 : Int32) &&& 31))), .val (.float (sC p2)), .val (.float (sC p3)), .val (.float (sC p4)), .unset, .unset] [])) rfl (hb hby at_31) (by decide) (by decide)
  obtain ⟨b4, g4⟩ : ∃ z, z = h0.size := ⟨_, rfl⟩
  rw [← g4] at A4 D4 st4
  have s0 := E4.1
  have Fn4_depth : Fld Z h4 b4 kT "depth" "I" (.int 0) := D4 (Or.inr (w_15 hw)) (ty := .int) (by decide)
  have Fn4_scoresAsRead : Fld Z h4 b4 kT "scoresAsRead" "[F" .null := D4 (Or.inl (w_22 hw)) (ty := (.array .float)) (by decide)
  have Fn4_scores : Fld Z h4 b4 kT "scores" "[J" .null := D4 (Or.inl (w_25 hw)) (ty := (.array .long)) (by decide)
  have Fn4_ordinals : Fld Z h4 b4 kT "ordinals" "[I" .null := D4 (Or.inl (w_28 hw)) (ty := (.array .int)) (by decide)
  have Fn4_size : Fld Z h4 b4 kT "size" "I" (.int 0) := D4 (Or.inl (w_35 hw)) (ty := .int) (by decide)
  have g_b4 : n0 ≤ b4 := Nat.le_trans Z0 (Nat.le_of_eq g4.symm)
  have z1 := Nat.le_trans Z0 s0
  obtain ⟨_, T5, L5, X5, hQ5, st5⟩ := own_special X4 hx hZ hown (y := y_2) (a := b4) (w_8 hw) (w_9 hw) (w_7 hw) (w_10 hw) (rm19 l Z a0 hw [] b4 h4 n0 z1 Fn4_depth A4 g_b4 Fn4_scoresAsRead Fn4_scores Fn4_ordinals Fn4_size) e4 (Ls := #[.val (.int p1), .val (.long p2), .second, .val (.long p3), .second, .val (.long p4), .second, .val (.int p5), .val (.int p6), .val (.int 2), .val (.int (p1 >>> ((2 : Int32) &&& 31))), .val (.float (sC p2)), .val (.float (sC p3)), .val (.float (sC p4)), .unset, .unset]) (by rw [hml]; rfl) (argsL := [(.int 2)]) (rest := [(.ref b4)]) (lenOf pd_2 rfl) (hb hby at_37) (W := 1)
  obtain ⟨b5_b13, k5_k13, b5_b9, k5_k9, b5_b5, k5_k5, rfl, Nq5, K5, o5_0, o5_1, o5_2, o5_3, o5_4, o5_5, o5_6, o5_7, o5_8, o5_9, o5_10, o5_11, o5_12, o5_13, o5_14, o5_15, o5_16, o5_17⟩ := hQ5
  have N5 := Fr.app N3 Nq5
  have s1 := K5.1
  have z2 := Nat.le_trans Z0 (Nat.le_trans s0 s1)
  obtain ⟨_, T6, L6, X6, hQ6, st6⟩ := own_virtual X5 hx hZ hown (y := y_3) (z := y_3) o5_0 (w_29 hw) (w_30 hw) (notFace_of_selects (args := #[]) (mvT hZ (w_32 hw))) (w_32 hw) (w_31 hw) (w_7 hw) (w_33 hw) (rm20 l Z a0 hw [] b4 T5.heap n0 z2 o5_5 o5_1) rfl (Ls := #[.val (.int p1), .val (.long p2), .second, .val (.long p3), .second, .val (.long p4), .second, .val (.int p5), .val (.int p6), .val (.int 2), .val (.int (p1 >>> ((2 : Int32) &&& 31))), .val (.float (sC p2)), .val (.float (sC p3)), .val (.float (sC p4)), .val (.ref b4), .unset]) (by rw [hml]; rfl) (argsL := []) (rest := []) (lenOf pd_3 rfl) (hb hby at_44) (W := 0)
  obtain ⟨rfl, Nq6, e6⟩ := hQ6
  have N6 := Fr.app N5 Nq6
  have ne_b4_b5_b5 := Nat.ne_of_lt (Nat.lt_of_lt_of_le Fn4_size.lt o5_12)
  have g_b5_b5 : n0 ≤ b5_b5 := Nat.le_trans z1 o5_12
  have ne_b4_b5_b9 := Nat.ne_of_lt (Nat.lt_of_lt_of_le Fn4_size.lt o5_9)
  have g_b5_b9 : n0 ≤ b5_b9 := Nat.le_trans z1 o5_9
  have ne_b4_b5_b13 := Nat.ne_of_lt (Nat.lt_of_lt_of_le Fn4_size.lt o5_6)
  have g_b5_b13 : n0 ≤ b5_b13 := Nat.le_trans z1 o5_6
  obtain ⟨_, T7, L7, X7, hQ7, st7⟩ := own_virtual X6 hx hZ hown (y := y_7) (z := y_7) o5_0 (w_38 hw) (w_39 hw) (notFace_of_selects (args := #[]) (mvT hZ (w_41 hw))) (w_41 hw) (w_40 hw) (w_7 hw) (w_42 hw) (rm24 l Z a0 hw [] b4 p2 p5 b5_b9 k5_k9 b5_b5 k5_k5 b5_b13 k5_k13 T5.heap n0 z2 o5_5 o5_1 o5_3 o5_11 o5_0 g_b4 o5_4 o5_14 (Ne.symm ne_b4_b5_b5) g_b5_b5 (Ne.symm ne_b4_b5_b9) o5_17 g_b5_b9 o5_2 o5_8 (Ne.symm ne_b4_b5_b13) o5_16 o5_15 g_b5_b13 o5_13 o5_10 o5_7) e6 (Ls := #[.val (.int p1), .val (.long p2), .second, .val (.long p3), .second, .val (.long p4), .second, .val (.int p5), .val (.int p6), .val (.int 2), .val (.int (p1 >>> ((2 : Int32) &&& 31))), .val (.float (sC p2)), .val (.float (sC p3)), .val (.float (sC p4)), .val (.ref b4), .val (.int 1)]) (by rw [hml]; rfl) (argsL := [(.long p2), (.int p5)]) (rest := []) (lenOf pd_6 rfl) (hb hby at_65) (W := 0)
  obtain ⟨rfl, Nq7, K7, o7_0, o7_1, o7_2, o7_3, o7_4, o7_5, o7_6, o7_7, o7_8, o7_9, o7_10, o7_11⟩ := hQ7
  have N7 := Fr.app N6 Nq7
  have s2 := K7.1
  have z3 := Nat.le_trans Z0 (Nat.le_trans (Nat.le_trans s0 s1) s2)
  obtain ⟨_, T8, L8, X8, hQ8, st8⟩ := own_virtual X7 hx hZ hown (y := y_3) (z := y_3) o7_0 (w_29 hw) (w_30 hw) (notFace_of_selects (args := #[]) (mvT hZ (w_32 hw))) (w_32 hw) (w_31 hw) (w_7 hw) (w_33 hw) (rm25 l Z a0 hw [] b4 T7.heap n0 z3 o7_5 o7_1) rfl (Ls := #[.val (.int p1), .val (.long p2), .second, .val (.long p3), .second, .val (.long p4), .second, .val (.int p5), .val (.int p6), .val (.int 2), .val (.int (p1 >>> ((2 : Int32) &&& 31))), .val (.float (sC p2)), .val (.float (sC p3)), .val (.float (sC p4)), .val (.ref b4), .val (.int 1)]) (by rw [hml]; rfl) (argsL := []) (rest := []) (lenOf pd_3 rfl) (hb hby at_75) (W := 0)
  obtain ⟨rfl, Nq8, e8⟩ := hQ8
  have N8 := Fr.app N7 Nq8
  obtain ⟨_, T9, L9, X9, hQ9, st9⟩ := own_callS X8 hx hZ hown (y := y_8) (w_56 hw) (w_57 hw) (w_58 hw) (w_59 hw) (rm26 l Z a0 hw [] (sC p2) (sC p3) (sC p4) T7.heap n0 z3) e8 (Ls := #[.val (.int p1), .val (.long p2), .second, .val (.long p3), .second, .val (.long p4), .second, .val (.int p5), .val (.int p6), .val (.int 2), .val (.int (p1 >>> ((2 : Int32) &&& 31))), .val (.float (sC p2)), .val (.float (sC p3)), .val (.float (sC p4)), .val (.ref b4), .val (.int 1)]) (by rw [hml]; rfl) (argsL := [(.int 2), (.int 1), (.float (sC p2)), (.float (sC p3)), (.float (sC p4))]) (rest := [(.float 4286578688)]) (lenOf pd_7 rfl) (hb hby at_87) (W := 1)
  obtain ⟨rfl, Nq9, e9⟩ := hQ9
  have N9 := Fr.app N8 Nq9
  obtain ⟨_, T10, L10, X10, hQ10, st10⟩ := own_virtual X9 hx hZ hown (y := y_7) (z := y_7) o7_0 (w_38 hw) (w_39 hw) (notFace_of_selects (args := #[]) (mvT hZ (w_41 hw))) (w_41 hw) (w_40 hw) (w_7 hw) (w_42 hw) (rm33 l Z a0 hw [] b4 p3 p6 b5_b9 p2 k5_k9 b5_b5 (sC p2) k5_k5 b5_b13 p5 k5_k13 T7.heap n0 z3 o7_5 o7_1 o7_3 o7_9 o7_0 g_b4 o7_4 o7_7 (Ne.symm ne_b4_b5_b5) o7_2 o7_11 (Ne.symm ne_b4_b5_b13) g_b5_b5 (Ne.symm ne_b4_b5_b9) o5_17 g_b5_b9 o5_16 o5_15 g_b5_b13 o7_6 o7_8 o7_10) e9 (Ls := #[.val (.int p1), .val (.long p2), .second, .val (.long p3), .second, .val (.long p4), .second, .val (.int p5), .val (.int p6), .val (.int 2), .val (.int (p1 >>> ((2 : Int32) &&& 31))), .val (.float (sC p2)), .val (.float (sC p3)), .val (.float (sC p4)), .val (.ref b4), .val (.int 1)]) (by rw [hml]; rfl) (argsL := [(.long p3), (.int p6)]) (rest := []) (lenOf pd_6 rfl) (hb hby at_106) (W := 0)
  obtain ⟨rfl, Nq10, K10, o10_0, o10_1, o10_2, o10_3, o10_4, o10_5, o10_6, o10_7, o10_8, o10_9, o10_10, o10_11⟩ := hQ10
  have N10 := Fr.app N9 Nq10
  have s3 := K10.1
  obtain ⟨x11, ex11⟩ : ∃ z, z = (if (if (cmpValue (FP.fcmp (sC p3) (sC p2)) .g) < (0 : Int32) then (1 : Int32) else (if (cmpValue (FP.fcmp (sC p3) (sC p2)) .l) = (0 : Int32) then (if p6 < p5 then (1 : Int32) else (0 : Int32)) else (0 : Int32))) = (0 : Int32) then (sC p2) else (sC p3)) := ⟨_, rfl⟩
  obtain ⟨x12, ex12⟩ : ∃ z, z = (if (if (cmpValue (FP.fcmp (sC p3) (sC p2)) .g) < (0 : Int32) then (1 : Int32) else (if (cmpValue (FP.fcmp (sC p3) (sC p2)) .l) = (0 : Int32) then (if p6 < p5 then (1 : Int32) else (0 : Int32)) else (0 : Int32))) = (0 : Int32) then (sC p3) else (sC p2)) := ⟨_, rfl⟩
  have o10_7' : Arv Z T10.heap b5_b5 k5_k5 .float (2 : Int32) [(.float x11), (.float x12)] (.float 0) := by rw [ex11, ex12]; exact o10_7
  obtain ⟨x13, ex13⟩ : ∃ z, z = (if (if (cmpValue (FP.fcmp (sC p3) (sC p2)) .g) < (0 : Int32) then (1 : Int32) else (if (cmpValue (FP.fcmp (sC p3) (sC p2)) .l) = (0 : Int32) then (if p6 < p5 then (1 : Int32) else (0 : Int32)) else (0 : Int32))) = (0 : Int32) then p2 else p3) := ⟨_, rfl⟩
  obtain ⟨x14, ex14⟩ : ∃ z, z = (if (if (cmpValue (FP.fcmp (sC p3) (sC p2)) .g) < (0 : Int32) then (1 : Int32) else (if (cmpValue (FP.fcmp (sC p3) (sC p2)) .l) = (0 : Int32) then (if p6 < p5 then (1 : Int32) else (0 : Int32)) else (0 : Int32))) = (0 : Int32) then p3 else p2) := ⟨_, rfl⟩
  have o10_9' : Arv Z T10.heap b5_b9 k5_k9 .long (2 : Int32) [(.long x13), (.long x14)] (.long 0) := by rw [ex13, ex14]; exact o10_9
  obtain ⟨x15, ex15⟩ : ∃ z, z = (if (if (cmpValue (FP.fcmp (sC p3) (sC p2)) .g) < (0 : Int32) then (1 : Int32) else (if (cmpValue (FP.fcmp (sC p3) (sC p2)) .l) = (0 : Int32) then (if p6 < p5 then (1 : Int32) else (0 : Int32)) else (0 : Int32))) = (0 : Int32) then p5 else p6) := ⟨_, rfl⟩
  obtain ⟨x16, ex16⟩ : ∃ z, z = (if (if (cmpValue (FP.fcmp (sC p3) (sC p2)) .g) < (0 : Int32) then (1 : Int32) else (if (cmpValue (FP.fcmp (sC p3) (sC p2)) .l) = (0 : Int32) then (if p6 < p5 then (1 : Int32) else (0 : Int32)) else (0 : Int32))) = (0 : Int32) then p6 else p5) := ⟨_, rfl⟩
  have o10_11' : Arv Z T10.heap b5_b13 k5_k13 .int (2 : Int32) [(.int x15), (.int x16)] (.int 0) := by rw [ex15, ex16]; exact o10_11
  have z4 := Nat.le_trans Z0 (Nat.le_trans (Nat.le_trans (Nat.le_trans s0 s1) s2) s3)
  obtain ⟨_, T17, L17, X17, hQ17, st17⟩ := own_virtual X10 hx hZ hown (y := y_3) (z := y_3) o10_0 (w_29 hw) (w_30 hw) (notFace_of_selects (args := #[]) (mvT hZ (w_32 hw))) (w_32 hw) (w_31 hw) (w_7 hw) (w_33 hw) (rm34 l Z a0 hw [] b4 b5_b5 x11 x12 k5_k5 T10.heap n0 z4 o10_5 o10_1 o10_4 o10_7') rfl (Ls := #[.val (.int p1), .val (.long p2), .second, .val (.long p3), .second, .val (.long p4), .second, .val (.int p5), .val (.int p6), .val (.int 2), .val (.int (p1 >>> ((2 : Int32) &&& 31))), .val (.float (sC p2)), .val (.float (sC p3)), .val (.float (sC p4)), .val (.ref b4), .val (.int 1)]) (by rw [hml]; rfl) (argsL := []) (rest := []) (lenOf pd_3 rfl) (hb hby at_116) (W := 0)
  obtain ⟨rfl, Nq17, e17⟩ := hQ17
  have N17 := Fr.app N10 Nq17
  obtain ⟨_, T18, L18, X18, hQ18, st18⟩ := own_callS X17 hx hZ hown (y := y_8) (w_56 hw) (w_57 hw) (w_58 hw) (w_59 hw) (rm36 l Z a0 hw [] (sC p2) (sC p3) (sC p4) T10.heap n0 z4) e17 (Ls := #[.val (.int p1), .val (.long p2), .second, .val (.long p3), .second, .val (.long p4), .second, .val (.int p5), .val (.int p6), .val (.int 2), .val (.int (p1 >>> ((2 : Int32) &&& 31))), .val (.float (sC p2)), .val (.float (sC p3)), .val (.float (sC p4)), .val (.ref b4), .val (.int 1)]) (by rw [hml]; rfl) (argsL := [(.int 2), (.int 2), (.float (sC p2)), (.float (sC p3)), (.float (sC p4))]) (rest := [(.float x11)]) (lenOf pd_7 rfl) (hb hby at_128) (W := 1)
  obtain ⟨rfl, Nq18, e18⟩ := hQ18
  have N18 := Fr.app N17 Nq18
  obtain ⟨x19, ex19⟩ : ∃ z, z = (if (cmpValue (FP.fcmp (sC p2) (sC p3)) .g) < (0 : Int32) then (sC p2) else (sC p3)) := ⟨_, rfl⟩
  have cd20 : (cmpValue (FP.fcmp (if (if (cmpValue (FP.fcmp (sC p3) (sC p2)) .g) < (0 : Int32) then (1 : Int32) else (if (cmpValue (FP.fcmp (sC p3) (sC p2)) .l) = (0 : Int32) then (if p6 < p5 then (1 : Int32) else (0 : Int32)) else (0 : Int32))) = (0 : Int32) then (sC p2) else (sC p3)) (if (cmpValue (FP.fcmp (sC p2) (sC p3)) .g) < (0 : Int32) then (sC p2) else (sC p3))) .l) = (0 : Int32) := (by rw []; exact own_fin_2 (sC p2) (sC p3) (sC p4) p5 p6 (p1 >>> ((2 : Int32) &&& 31)) (own_nn32 p2) (own_nn32 p3) (own_nn32 p4))
  obtain ⟨_, T21, L21, X21, hQ21, st21⟩ := own_virtual X18 hx hZ hown (y := y_7) (z := y_7) o10_0 (w_38 hw) (w_39 hw) (notFace_of_selects (args := #[]) (mvT hZ (w_41 hw))) (w_41 hw) (w_40 hw) (w_7 hw) (w_42 hw) (rm42 l Z a0 hw [] b4 p4 (p1 >>> ((2 : Int32) &&& 31)) b5_b5 x11 x12 k5_k5 b5_b13 x15 x16 k5_k13 b5_b9 x13 x14 k5_k9 T10.heap n0 z4 o10_5 o10_1 o10_4 o10_7' o10_2 o10_11' g_b5_b5 o10_3 ne_b4_b5_b5 o10_9' o5_17 g_b5_b9 ne_b4_b5_b9 o5_16 o5_15 g_b5_b13 o10_6 o10_8 o10_10 o10_0 ne_b4_b5_b13 o10_6 o10_8 o10_9' o10_10) e18 (Ls := #[.val (.int p1), .val (.long p2), .second, .val (.long p3), .second, .val (.long p4), .second, .val (.int p5), .val (.int p6), .val (.int 2), .val (.int (p1 >>> ((2 : Int32) &&& 31))), .val (.float (sC p2)), .val (.float (sC p3)), .val (.float (sC p4)), .val (.ref b4), .val (.int 1)]) (by rw [hml]; rfl) (argsL := [(.long p4), (.int (p1 >>> ((2 : Int32) &&& 31)))]) (rest := []) (lenOf pd_6 rfl) (hb hby at_148) (W := 0)
  obtain ⟨rfl, Nq21, K21, o21_0, o21_1, o21_2, o21_3, o21_4, o21_5⟩ := hQ21
  have N21 := Fr.app N18 Nq21
  have s4 := K21.1
  obtain ⟨x22, ex22⟩ : ∃ z, z = (if (if (cmpValue (FP.fcmp x11 (sC p4)) .g) < (0 : Int32) then (1 : Int32) else (if (cmpValue (FP.fcmp x11 (sC p4)) .l) = (0 : Int32) then (if x15 < (p1 >>> ((2 : Int32) &&& 31)) then (1 : Int32) else (0 : Int32)) else (0 : Int32))) = (0 : Int32) then x11 else (if (if (cmpValue (FP.fcmp x12 (sC p4)) .g) < (0 : Int32) then (1 : Int32) else (if (cmpValue (FP.fcmp x12 (sC p4)) .l) = (0 : Int32) then (if x16 < (p1 >>> ((2 : Int32) &&& 31)) then (1 : Int32) else (0 : Int32)) else (0 : Int32))) = (0 : Int32) then (sC p4) else x12)) := ⟨_, rfl⟩
  obtain ⟨x23, ex23⟩ : ∃ z, z = (if (if (cmpValue (FP.fcmp x11 (sC p4)) .g) < (0 : Int32) then (1 : Int32) else (if (cmpValue (FP.fcmp x11 (sC p4)) .l) = (0 : Int32) then (if x15 < (p1 >>> ((2 : Int32) &&& 31)) then (1 : Int32) else (0 : Int32)) else (0 : Int32))) = (0 : Int32) then x12 else (if (if (cmpValue (FP.fcmp x12 (sC p4)) .g) < (0 : Int32) then (1 : Int32) else (if (cmpValue (FP.fcmp x12 (sC p4)) .l) = (0 : Int32) then (if x16 < (p1 >>> ((2 : Int32) &&& 31)) then (1 : Int32) else (0 : Int32)) else (0 : Int32))) = (0 : Int32) then x12 else (sC p4))) := ⟨_, rfl⟩
  have o21_1' : Arv Z T21.heap b5_b5 k5_k5 .float (2 : Int32) [(.float x22), (.float x23)] (.float 0) := by rw [ex22, ex23]; exact o21_1
  obtain ⟨x24, ex24⟩ : ∃ z, z = (if (if (cmpValue (FP.fcmp x11 (sC p4)) .g) < (0 : Int32) then (1 : Int32) else (if (cmpValue (FP.fcmp x11 (sC p4)) .l) = (0 : Int32) then (if x15 < (p1 >>> ((2 : Int32) &&& 31)) then (1 : Int32) else (0 : Int32)) else (0 : Int32))) = (0 : Int32) then x13 else (if (if (cmpValue (FP.fcmp x12 (sC p4)) .g) < (0 : Int32) then (1 : Int32) else (if (cmpValue (FP.fcmp x12 (sC p4)) .l) = (0 : Int32) then (if x16 < (p1 >>> ((2 : Int32) &&& 31)) then (1 : Int32) else (0 : Int32)) else (0 : Int32))) = (0 : Int32) then p4 else x14)) := ⟨_, rfl⟩
  obtain ⟨x25, ex25⟩ : ∃ z, z = (if (if (cmpValue (FP.fcmp x11 (sC p4)) .g) < (0 : Int32) then (1 : Int32) else (if (cmpValue (FP.fcmp x11 (sC p4)) .l) = (0 : Int32) then (if x15 < (p1 >>> ((2 : Int32) &&& 31)) then (1 : Int32) else (0 : Int32)) else (0 : Int32))) = (0 : Int32) then x14 else (if (if (cmpValue (FP.fcmp x12 (sC p4)) .g) < (0 : Int32) then (1 : Int32) else (if (cmpValue (FP.fcmp x12 (sC p4)) .l) = (0 : Int32) then (if x16 < (p1 >>> ((2 : Int32) &&& 31)) then (1 : Int32) else (0 : Int32)) else (0 : Int32))) = (0 : Int32) then x14 else p4)) := ⟨_, rfl⟩
  have o21_3' : Arv Z T21.heap b5_b9 k5_k9 .long (2 : Int32) [(.long x24), (.long x25)] (.long 0) := by rw [ex24, ex25]; exact o21_3
  obtain ⟨x26, ex26⟩ : ∃ z, z = (if (if (cmpValue (FP.fcmp x11 (sC p4)) .g) < (0 : Int32) then (1 : Int32) else (if (cmpValue (FP.fcmp x11 (sC p4)) .l) = (0 : Int32) then (if x15 < (p1 >>> ((2 : Int32) &&& 31)) then (1 : Int32) else (0 : Int32)) else (0 : Int32))) = (0 : Int32) then x15 else (if (if (cmpValue (FP.fcmp x12 (sC p4)) .g) < (0 : Int32) then (1 : Int32) else (if (cmpValue (FP.fcmp x12 (sC p4)) .l) = (0 : Int32) then (if x16 < (p1 >>> ((2 : Int32) &&& 31)) then (1 : Int32) else (0 : Int32)) else (0 : Int32))) = (0 : Int32) then (p1 >>> ((2 : Int32) &&& 31)) else x16)) := ⟨_, rfl⟩
  obtain ⟨x27, ex27⟩ : ∃ z, z = (if (if (cmpValue (FP.fcmp x11 (sC p4)) .g) < (0 : Int32) then (1 : Int32) else (if (cmpValue (FP.fcmp x11 (sC p4)) .l) = (0 : Int32) then (if x15 < (p1 >>> ((2 : Int32) &&& 31)) then (1 : Int32) else (0 : Int32)) else (0 : Int32))) = (0 : Int32) then x16 else (if (if (cmpValue (FP.fcmp x12 (sC p4)) .g) < (0 : Int32) then (1 : Int32) else (if (cmpValue (FP.fcmp x12 (sC p4)) .l) = (0 : Int32) then (if x16 < (p1 >>> ((2 : Int32) &&& 31)) then (1 : Int32) else (0 : Int32)) else (0 : Int32))) = (0 : Int32) then x16 else (p1 >>> ((2 : Int32) &&& 31)))) := ⟨_, rfl⟩
  have o21_5' : Arv Z T21.heap b5_b13 k5_k13 .int (2 : Int32) [(.int x26), (.int x27)] (.int 0) := by rw [ex26, ex27]; exact o21_5
  have Ex28 := (o10_0.keep K21)
  have Fl29 := (o10_5.keep K21 (ninS ne_b4_b5_b5 (ninS ne_b4_b5_b9 (ninS ne_b4_b5_b13 nin0))))
  have Fl30 := (o10_1.keep K21 (ninS ne_b4_b5_b5 (ninS ne_b4_b5_b9 (ninS ne_b4_b5_b13 nin0))))
  have Fl31 := (o10_4.keep K21 (ninS ne_b4_b5_b5 (ninS ne_b4_b5_b9 (ninS ne_b4_b5_b13 nin0))))
  have z5 := Nat.le_trans Z0 (Nat.le_trans (Nat.le_trans (Nat.le_trans (Nat.le_trans s0 s1) s2) s3) s4)
  obtain ⟨_, T32, L32, X32, hQ32, st32⟩ := own_virtual X21 hx hZ hown (y := y_3) (z := y_3) Ex28 (w_29 hw) (w_30 hw) (notFace_of_selects (args := #[]) (mvT hZ (w_32 hw))) (w_32 hw) (w_31 hw) (w_7 hw) (w_33 hw) (rm34 l Z a0 hw [] b4 b5_b5 x22 x23 k5_k5 T21.heap n0 z5 Fl29 Fl30 Fl31 o21_1') rfl (Ls := #[.val (.int p1), .val (.long p2), .second, .val (.long p3), .second, .val (.long p4), .second, .val (.int p5), .val (.int p6), .val (.int 2), .val (.int (p1 >>> ((2 : Int32) &&& 31))), .val (.float (sC p2)), .val (.float (sC p3)), .val (.float (sC p4)), .val (.ref b4), .val (.int 1)]) (by rw [hml]; rfl) (argsL := []) (rest := []) (lenOf pd_3 rfl) (hb hby at_158) (W := 0)
  obtain ⟨rfl, Nq32, e32⟩ := hQ32
  have N32 := Fr.app N21 Nq32
  obtain ⟨_, T33, L33, X33, hQ33, st33⟩ := own_callS X32 hx hZ hown (y := y_8) (w_56 hw) (w_57 hw) (w_58 hw) (w_59 hw) (rm44 l Z a0 hw [] (sC p2) (sC p3) (sC p4) T21.heap n0 z5) e32 (Ls := #[.val (.int p1), .val (.long p2), .second, .val (.long p3), .second, .val (.long p4), .second, .val (.int p5), .val (.int p6), .val (.int 2), .val (.int (p1 >>> ((2 : Int32) &&& 31))), .val (.float (sC p2)), .val (.float (sC p3)), .val (.float (sC p4)), .val (.ref b4), .val (.int 1)]) (by rw [hml]; rfl) (argsL := [(.int 2), (.int 3), (.float (sC p2)), (.float (sC p3)), (.float (sC p4))]) (rest := [(.float x22)]) (lenOf pd_7 rfl) (hb hby at_170) (W := 1)
  obtain ⟨rfl, Nq33, e33⟩ := hQ33
  have N33 := Fr.app N32 Nq33
  obtain ⟨x34, ex34⟩ : ∃ z, z = (if (cmpValue (FP.fcmp (sC p2) (sC p3)) .g) < (0 : Int32) then (if (cmpValue (FP.fcmp (sC p3) (sC p4)) .g) < (0 : Int32) then (sC p3) else (if (cmpValue (FP.fcmp (sC p2) (sC p4)) .g) < (0 : Int32) then (sC p4) else (sC p2))) else (if (cmpValue (FP.fcmp (sC p2) (sC p4)) .g) < (0 : Int32) then (sC p2) else (if (cmpValue (FP.fcmp (sC p3) (sC p4)) .g) < (0 : Int32) then (sC p4) else (sC p3)))) := ⟨_, rfl⟩
  have cd35 : (cmpValue (FP.fcmp (if (if (cmpValue (FP.fcmp (if (if (cmpValue (FP.fcmp (sC p3) (sC p2)) .g) < (0 : Int32) then (1 : Int32) else (if (cmpValue (FP.fcmp (sC p3) (sC p2)) .l) = (0 : Int32) then (if p6 < p5 then (1 : Int32) else (0 : Int32)) else (0 : Int32))) = (0 : Int32) then (sC p2) else (sC p3)) (sC p4)) .g) < (0 : Int32) then (1 : Int32) else (if (cmpValue (FP.fcmp (if (if (cmpValue (FP.fcmp (sC p3) (sC p2)) .g) < (0 : Int32) then (1 : Int32) else (if (cmpValue (FP.fcmp (sC p3) (sC p2)) .l) = (0 : Int32) then (if p6 < p5 then (1 : Int32) else (0 : Int32)) else (0 : Int32))) = (0 : Int32) then (sC p2) else (sC p3)) (sC p4)) .l) = (0 : Int32) then (if (if (if (cmpValue (FP.fcmp (sC p3) (sC p2)) .g) < (0 : Int32) then (1 : Int32) else (if (cmpValue (FP.fcmp (sC p3) (sC p2)) .l) = (0 : Int32) then (if p6 < p5 then (1 : Int32) else (0 : Int32)) else (0 : Int32))) = (0 : Int32) then p5 else p6) < (p1 >>> ((2 : Int32) &&& 31)) then (1 : Int32) else (0 : Int32)) else (0 : Int32))) = (0 : Int32) then (if (if (cmpValue (FP.fcmp (sC p3) (sC p2)) .g) < (0 : Int32) then (1 : Int32) else (if (cmpValue (FP.fcmp (sC p3) (sC p2)) .l) = (0 : Int32) then (if p6 < p5 then (1 : Int32) else (0 : Int32)) else (0 : Int32))) = (0 : Int32) then (sC p2) else (sC p3)) else (if (if (cmpValue (FP.fcmp (if (if (cmpValue (FP.fcmp (sC p3) (sC p2)) .g) < (0 : Int32) then (1 : Int32) else (if (cmpValue (FP.fcmp (sC p3) (sC p2)) .l) = (0 : Int32) then (if p6 < p5 then (1 : Int32) else (0 : Int32)) else (0 : Int32))) = (0 : Int32) then (sC p3) else (sC p2)) (sC p4)) .g) < (0 : Int32) then (1 : Int32) else (if (cmpValue (FP.fcmp (if (if (cmpValue (FP.fcmp (sC p3) (sC p2)) .g) < (0 : Int32) then (1 : Int32) else (if (cmpValue (FP.fcmp (sC p3) (sC p2)) .l) = (0 : Int32) then (if p6 < p5 then (1 : Int32) else (0 : Int32)) else (0 : Int32))) = (0 : Int32) then (sC p3) else (sC p2)) (sC p4)) .l) = (0 : Int32) then (if (if (if (cmpValue (FP.fcmp (sC p3) (sC p2)) .g) < (0 : Int32) then (1 : Int32) else (if (cmpValue (FP.fcmp (sC p3) (sC p2)) .l) = (0 : Int32) then (if p6 < p5 then (1 : Int32) else (0 : Int32)) else (0 : Int32))) = (0 : Int32) then p6 else p5) < (p1 >>> ((2 : Int32) &&& 31)) then (1 : Int32) else (0 : Int32)) else (0 : Int32))) = (0 : Int32) then (sC p4) else (if (if (cmpValue (FP.fcmp (sC p3) (sC p2)) .g) < (0 : Int32) then (1 : Int32) else (if (cmpValue (FP.fcmp (sC p3) (sC p2)) .l) = (0 : Int32) then (if p6 < p5 then (1 : Int32) else (0 : Int32)) else (0 : Int32))) = (0 : Int32) then (sC p3) else (sC p2)))) (if (cmpValue (FP.fcmp (sC p2) (sC p3)) .g) < (0 : Int32) then (if (cmpValue (FP.fcmp (sC p3) (sC p4)) .g) < (0 : Int32) then (sC p3) else (if (cmpValue (FP.fcmp (sC p2) (sC p4)) .g) < (0 : Int32) then (sC p4) else (sC p2))) else (if (cmpValue (FP.fcmp (sC p2) (sC p4)) .g) < (0 : Int32) then (sC p2) else (if (cmpValue (FP.fcmp (sC p3) (sC p4)) .g) < (0 : Int32) then (sC p4) else (sC p3))))) .l) = (0 : Int32) := (by rw []; exact own_fin_3 (sC p2) (sC p3) (sC p4) p5 p6 (p1 >>> ((2 : Int32) &&& 31)) (own_nn32 p2) (own_nn32 p3) (own_nn32 p4))
  refine ⟨T33, _, _, _, (some (.int 1)), X33, nofun, by decide, by decide, ?_, fun fs hr => ?_⟩
  · show Q0 n0 _ T33.heap _
    rw [e33]
    subst ex34
    subst ex27
    subst ex26
    subst ex25
    subst ex24
    subst ex23
    subst ex22
    subst ex19
    subst ex16
    subst ex15
    subst ex14
    subst ex13
    subst ex12
    subst ex11
    exact ⟨rfl, N33⟩
  · refine XS.iloadN X0.here hx rfl (hb hby at_0) rfl ?_
    refine XS.iconst X0.here hx rfl (hb hby at_1) ?_
    refine XS.iand X0.here hx rfl (hb hby at_2) rfl ?_
    show Steps p.tables e below (s₁.setTop (mkF m 3 #[.val (.int p1), .val (.long p2), .second, .val (.long p3), .second, .val (.long p4), .second, .val (.int p5), .val (.int p6), .unset, .unset, .unset, .unset, .unset, .unset, .unset] [(.int (p1 &&& (3 : Int32)))])) _
    rw [hk]
    refine XS.iconst X0.here hx rfl (hb hby at_3) ?_
    refine XS.iadd X0.here hx rfl (hb hby at_4) rfl ?_
    refine XS.istore X0.here hx rfl (hb hby at_5) rfl (l' := #[.val (.int p1), .val (.long p2), .second, .val (.long p3), .second, .val (.long p4), .second, .val (.int p5), .val (.int p6), .val (.int 2), .unset, .unset, .unset, .unset, .unset, .unset]) rfl ?_
    refine XS.iloadN X0.here hx rfl (hb hby at_7) rfl ?_
    refine XS.iconst X0.here hx rfl (hb hby at_8) ?_
    refine XS.ishr X0.here hx rfl (hb hby at_9) rfl ?_
    refine XS.istore X0.here hx rfl (hb hby at_10) rfl (l' := #[.val (.int p1), .val (.long p2), .second, .val (.long p3), .second, .val (.long p4), .second, .val (.int p5), .val (.int p6), .val (.int 2), .val (.int (p1 >>> ((2 : Int32) &&& 31))), .unset, .unset, .unset, .unset, .unset]) rfl ?_
    refine XS.lloadN X0.here hx rfl (hb hby at_12) rfl ?_
    refine st1 _ ?_
    refine XS.fstore X1.here hx rfl (hb hby at_16) rfl (l' := #[.val (.int p1), .val (.long p2), .second, .val (.long p3), .second, .val (.long p4), .second, .val (.int p5), .val (.int p6), .val (.int 2), .val (.int (p1 >>> ((2 : Int32) &&& 31))), .val (.float (sC p2)), .unset, .unset, .unset, .unset]) rfl ?_
    refine XS.lloadN X1.here hx rfl (hb hby at_18) rfl ?_
    refine st2 _ ?_
    refine XS.fstore X2.here hx rfl (hb hby at_22) rfl (l' := #[.val (.int p1), .val (.long p2), .second, .val (.long p3), .second, .val (.long p4), .second, .val (.int p5), .val (.int p6), .val (.int 2), .val (.int (p1 >>> ((2 : Int32) &&& 31))), .val (.float (sC p2)), .val (.float (sC p3)), .unset, .unset, .unset]) rfl ?_
    refine XS.lload X2.here hx rfl (hb hby at_24) rfl ?_
    refine st3 _ ?_
    refine XS.fstore X3.here hx rfl (hb hby at_29) rfl (l' := #[.val (.int p1), .val (.long p2), .second, .val (.long p3), .second, .val (.long p4), .second, .val (.int p5), .val (.int p6), .val (.int 2), .val (.int (p1 >>> ((2 : Int32) &&& 31))), .val (.float (sC p2)), .val (.float (sC p3)), .val (.float (sC p4)), .unset, .unset]) rfl ?_
    refine st4 _ ?_
    refine XS.dup X4.here hx rfl (hb hby at_34) rfl rfl ?_
    refine XS.iload X4.here hx rfl (hb hby at_35) rfl ?_
    refine st5 _ ?_
    refine XS.astore X5.here hx rfl (hb hby at_40) rfl rfl (l' := #[.val (.int p1), .val (.long p2), .second, .val (.long p3), .second, .val (.long p4), .second, .val (.int p5), .val (.int p6), .val (.int 2), .val (.int (p1 >>> ((2 : Int32) &&& 31))), .val (.float (sC p2)), .val (.float (sC p3)), .val (.float (sC p4)), .val (.ref b4), .unset]) rfl ?_
    refine XS.aload X5.here hx rfl (hb hby at_42) rfl rfl ?_
    refine st6 _ ?_
    refine X6.ldcFloatC hx hown (mvT hZ (w_37 hw)) (g := (mkF m 47 #[.val (.int p1), .val (.long p2), .second, .val (.long p3), .second, .val (.long p4), .second, .val (.int p5), .val (.int p6), .val (.int 2), .val (.int (p1 >>> ((2 : Int32) &&& 31))), .val (.float (sC p2)), .val (.float (sC p3)), .val (.float (sC p4)), .val (.ref b4), .unset] [(.float 4286578688)])) rfl (hb hby at_47) _ ?_
    refine XS.fcmpS X6.here hx rfl (hb hby at_49) rfl (by decide +kernel : (cmpValue (FP.fcmp (4286578688 : UInt32) (4286578688 : UInt32)) .l) = (0 : Int32)) ?_
    refine XS.ifNo X6.here hx rfl (hb hby at_50) rfl ((if0 _ _).trans (teq ((by decide : (0 : Int32) = (0 : Int32)) : (0 : Int32) = (0 : Int32))).2) ?_
    refine XS.iconst X6.here hx rfl (hb hby at_53) ?_
    refine XS.goto X6.here hx rfl (pc0 := 54) (pc' := 58) rfl (hb hby at_54) (by decide) (by decide) ?_
    refine XS.istore X6.here hx rfl (hb hby at_58) rfl (l' := #[.val (.int p1), .val (.long p2), .second, .val (.long p3), .second, .val (.long p4), .second, .val (.int p5), .val (.int p6), .val (.int 2), .val (.int (p1 >>> ((2 : Int32) &&& 31))), .val (.float (sC p2)), .val (.float (sC p3)), .val (.float (sC p4)), .val (.ref b4), .val (.int 1)]) rfl ?_
    refine XS.aload X6.here hx rfl (hb hby at_60) rfl rfl ?_
    refine XS.lloadN X6.here hx rfl (hb hby at_62) rfl ?_
    refine XS.iload X6.here hx rfl (hb hby at_63) rfl ?_
    refine st7 _ ?_
    refine XS.iload X7.here hx rfl (hb hby at_68) rfl ?_
    refine XS.ifNo X7.here hx rfl (hb hby at_70) rfl ((if0 _ _).trans (feq ((by decide : ¬ ((1 : Int32) = (0 : Int32))) : ¬ ((1 : Int32) = (0 : Int32)))).1) ?_
    refine XS.aload X7.here hx rfl (hb hby at_73) rfl rfl ?_
    refine st8 _ ?_
    refine XS.iload X8.here hx rfl (hb hby at_78) rfl ?_
    refine XS.iconst X8.here hx rfl (hb hby at_80) ?_
    refine XS.fload X8.here hx rfl (hb hby at_81) rfl ?_
    refine XS.fload X8.here hx rfl (hb hby at_83) rfl ?_
    refine XS.fload X8.here hx rfl (hb hby at_85) rfl ?_
    refine st9 _ ?_
    refine XS.fcmpS X9.here hx rfl (hb hby at_90) rfl (by decide +kernel : (cmpValue (FP.fcmp (4286578688 : UInt32) (4286578688 : UInt32)) .l) = (0 : Int32)) ?_
    refine XS.ifNo X9.here hx rfl (hb hby at_91) rfl ((if0 _ _).trans (teq ((by decide : (0 : Int32) = (0 : Int32)) : (0 : Int32) = (0 : Int32))).2) ?_
    refine XS.iconst X9.here hx rfl (hb hby at_94) ?_
    refine XS.goto X9.here hx rfl (pc0 := 95) (pc' := 99) rfl (hb hby at_95) (by decide) (by decide) ?_
    refine XS.istore X9.here hx rfl (hb hby at_99) rfl (l' := #[.val (.int p1), .val (.long p2), .second, .val (.long p3), .second, .val (.long p4), .second, .val (.int p5), .val (.int p6), .val (.int 2), .val (.int (p1 >>> ((2 : Int32) &&& 31))), .val (.float (sC p2)), .val (.float (sC p3)), .val (.float (sC p4)), .val (.ref b4), .val (.int 1)]) rfl ?_
    refine XS.aload X9.here hx rfl (hb hby at_101) rfl rfl ?_
    refine XS.lloadN X9.here hx rfl (hb hby at_103) rfl ?_
    refine XS.iload X9.here hx rfl (hb hby at_104) rfl ?_
    refine st10 _ ?_
    refine XS.iload X10.here hx rfl (hb hby at_109) rfl ?_
    refine XS.ifNo X10.here hx rfl (hb hby at_111) rfl ((if0 _ _).trans (feq ((by decide : ¬ ((1 : Int32) = (0 : Int32))) : ¬ ((1 : Int32) = (0 : Int32)))).1) ?_
    refine XS.aload X10.here hx rfl (hb hby at_114) rfl rfl ?_
    refine st17 _ ?_
    refine XS.iload X17.here hx rfl (hb hby at_119) rfl ?_
    refine XS.iconst X17.here hx rfl (hb hby at_121) ?_
    refine XS.fload X17.here hx rfl (hb hby at_122) rfl ?_
    refine XS.fload X17.here hx rfl (hb hby at_124) rfl ?_
    refine XS.fload X17.here hx rfl (hb hby at_126) rfl ?_
    refine st18 _ ?_
    show Steps p.tables e below (T18.setTop (mkF m 131 #[.val (.int p1), .val (.long p2), .second, .val (.long p3), .second, .val (.long p4), .second, .val (.int p5), .val (.int p6), .val (.int 2), .val (.int (p1 >>> ((2 : Int32) &&& 31))), .val (.float (sC p2)), .val (.float (sC p3)), .val (.float (sC p4)), .val (.ref b4), .val (.int 1)] [(.float (if (cmpValue (FP.fcmp (sC p2) (sC p3)) .g) < (0 : Int32) then (sC p2) else (sC p3))), (.float x11)])) _
    rw [← ex19]
    refine XS.fcmpS X18.here hx rfl (hb hby at_131) rfl rfl ?_
    refine XS.ifNo X18.here hx rfl (hb hby at_132) rfl ((if0 _ _).trans (teq ((by rw [ex19, ex11]; exact cd20) : (cmpValue (FP.fcmp x11 x19) .l) = (0 : Int32))).2) ?_
    refine XS.iconst X18.here hx rfl (hb hby at_135) ?_
    refine XS.goto X18.here hx rfl (pc0 := 136) (pc' := 140) rfl (hb hby at_136) (by decide) (by decide) ?_
    refine XS.istore X18.here hx rfl (hb hby at_140) rfl (l' := #[.val (.int p1), .val (.long p2), .second, .val (.long p3), .second, .val (.long p4), .second, .val (.int p5), .val (.int p6), .val (.int 2), .val (.int (p1 >>> ((2 : Int32) &&& 31))), .val (.float (sC p2)), .val (.float (sC p3)), .val (.float (sC p4)), .val (.ref b4), .val (.int 1)]) rfl ?_
    refine XS.aload X18.here hx rfl (hb hby at_142) rfl rfl ?_
    refine XS.lload X18.here hx rfl (hb hby at_144) rfl ?_
    refine XS.iload X18.here hx rfl (hb hby at_146) rfl ?_
    refine st21 _ ?_
    refine XS.iload X21.here hx rfl (hb hby at_151) rfl ?_
    refine XS.ifNo X21.here hx rfl (hb hby at_153) rfl ((if0 _ _).trans (feq ((by decide : ¬ ((1 : Int32) = (0 : Int32))) : ¬ ((1 : Int32) = (0 : Int32)))).1) ?_
    refine XS.aload X21.here hx rfl (hb hby at_156) rfl rfl ?_
    refine st32 _ ?_
    refine XS.iload X32.here hx rfl (hb hby at_161) rfl ?_
    refine XS.iconst X32.here hx rfl (hb hby at_163) ?_
    refine XS.fload X32.here hx rfl (hb hby at_164) rfl ?_
    refine XS.fload X32.here hx rfl (hb hby at_166) rfl ?_
    refine XS.fload X32.here hx rfl (hb hby at_168) rfl ?_
    refine st33 _ ?_
    show Steps p.tables e below (T33.setTop (mkF m 173 #[.val (.int p1), .val (.long p2), .second, .val (.long p3), .second, .val (.long p4), .second, .val (.int p5), .val (.int p6), .val (.int 2), .val (.int (p1 >>> ((2 : Int32) &&& 31))), .val (.float (sC p2)), .val (.float (sC p3)), .val (.float (sC p4)), .val (.ref b4), .val (.int 1)] [(.float (if (cmpValue (FP.fcmp (sC p2) (sC p3)) .g) < (0 : Int32) then (if (cmpValue (FP.fcmp (sC p3) (sC p4)) .g) < (0 : Int32) then (sC p3) else (if (cmpValue (FP.fcmp (sC p2) (sC p4)) .g) < (0 : Int32) then (sC p4) else (sC p2))) else (if (cmpValue (FP.fcmp (sC p2) (sC p4)) .g) < (0 : Int32) then (sC p2) else (if (cmpValue (FP.fcmp (sC p3) (sC p4)) .g) < (0 : Int32) then (sC p4) else (sC p3))))), (.float x22)])) _
    rw [← ex34]
    refine XS.fcmpS X33.here hx rfl (hb hby at_173) rfl rfl ?_
    refine XS.ifNo X33.here hx rfl (hb hby at_174) rfl ((if0 _ _).trans (teq ((by rw [ex34, ex22, ex16, ex15, ex12, ex11]; exact cd35) : (cmpValue (FP.fcmp x22 x34) .l) = (0 : Int32))).2) ?_
    refine XS.iconst X33.here hx rfl (hb hby at_177) ?_
    refine XS.goto X33.here hx rfl (pc0 := 178) (pc' := 182) rfl (hb hby at_178) (by decide) (by decide) ?_
    refine XS.istore X33.here hx rfl (hb hby at_182) rfl (l' := #[.val (.int p1), .val (.long p2), .second, .val (.long p3), .second, .val (.long p4), .second, .val (.int p5), .val (.int p6), .val (.int 2), .val (.int (p1 >>> ((2 : Int32) &&& 31))), .val (.float (sC p2)), .val (.float (sC p3)), .val (.float (sC p4)), .val (.ref b4), .val (.int 1)]) rfl ?_
    refine XS.iload X33.here hx rfl (hb hby at_184) rfl ?_
    exact retN X33 hx (t := .boolean) hret (by simp) (hb hby at_186) hr
theorem ef_27abc6  (m : MethodId) : entryFrame m #[(.int 3), (.int 1024)] 2 = mkF m 0 #[.val (.int 3), .val (.int 1024)] [] := by first | (simp [entryFrame, mkF, argsToLocals, Value.category]; done) | rfl
-- java/lang/Math.min(II)I
abbrev Rm45 : Room := { frames := 0, cells := 0, slots := 0, locals := 0 }
def Q45 (Z : State)  (h0 : Heap) (n0 : Nat) (v : Option Value) (h : Heap) (L : List Loc) : Prop := v = some (.int 3) ∧ Fr n0 L ∧ h = h0
-- ef_27abc6
theorem rm45 (l : Launch) (Z : State) (a0 : Array Value) (hw : HW a0 Z) (ws : List Jvm.Cond)  (h0 : Heap) (n0 : Nat) (Z0 : n0 ≤ h0.size) :
    OwnMet l Z y_1 jdk_29_method_69_code 2 (some .int) ws Rm45 #[(.int 3), (.int 1024)] h0 (Q45 Z  h0 n0) := by
  refine own_body (Jvm.Free.JP.mathPlain rfl (by decide +kernel)) (ef_27abc6) ?_
  intro p e s m below meth c s₁ hx hby hml hown hnm hret hZ X0 e0
  have N0 := Fr.nil n0
  refine ⟨s₁, _, _, _, (some (.int 3)), X0, nofun, by decide, by decide, ?_, fun fs hr => ?_⟩
  · rw [e0]
    exact ⟨rfl, N0, rfl⟩
  · refine XS.iloadN X0.here hx rfl (hb hby d4_0) rfl ?_
    refine XS.iloadN X0.here hx rfl (hb hby d4_1) rfl ?_
    refine XS.icmpNo X0.here hx rfl (hb hby d4_2) rfl (flt ((by decide : ¬ ((1024 : Int32) < (3 : Int32))) : ¬ ((1024 : Int32) < (3 : Int32)))).2.2.1 ?_
    refine XS.iloadN X0.here hx rfl (hb hby d4_5) rfl ?_
    refine XS.goto X0.here hx rfl (pc0 := 6) (pc' := 10) rfl (hb hby d4_6) (by decide) (by decide) ?_
    exact retI X0 hx hret (hb hby d4_10) hr
theorem ef_444dbb (a1 : Addr) (m : MethodId) : entryFrame m #[(.ref a1), (.int 3)] 3 = mkF m 0 #[.val (.ref a1), .val (.int 3), .unset] [] := by first | (simp [entryFrame, mkF, argsToLocals, Value.category]; done) | rfl
-- com/example/senret/senret/TopSentences.<init>(I)V
abbrev Rm46 : Room := { frames := 1, cells := 3, slots := 9, locals := 13 }
def Q46 (Z : State) (a1 : Addr) (h0 : Heap) (n0 : Nat) (v : Option Value) (h : Heap) (L : List Loc) : Prop := ∃ b13 : Addr, ∃ k13 : ClassId, ∃ b9 : Addr, ∃ k9 : ClassId, ∃ b5 : Addr, ∃ k5 : ClassId, v = none ∧ Fr n0 L ∧ Keep h0 h [a1] ∧ Exa Z h a1 kT ∧ Fld Z h a1 kT "depth" "I" (.int 3) ∧ Fld Z h a1 kT "ordinals" "[I" (.ref b13) ∧ Fld Z h a1 kT "scores" "[J" (.ref b9) ∧ Fld Z h a1 kT "scoresAsRead" "[F" (.ref b5) ∧ Fld Z h a1 kT "size" "I" (.int 0) ∧ h0.size ≤ b13 ∧ Exa Z h b13 "[I" ∧ Arv Z h b13 k13 .int (3 : Int32) [(.int 0), (.int 0), (.int 0)] (.int 0) ∧ h0.size ≤ b9 ∧ Exa Z h b9 "[J" ∧ Arv Z h b9 k9 .long (3 : Int32) [(.long 0), (.long 0), (.long 0)] (.long 0) ∧ h0.size ≤ b5 ∧ Exa Z h b5 "[F" ∧ Arv Z h b5 k5 .float (3 : Int32) [(.float 0), (.float 0), (.float 0)] (.float 0) ∧ b13 ≠ b9 ∧ b13 ≠ b5 ∧ b9 ≠ b5
-- ef_444dbb
theorem rm46 (l : Launch) (Z : State) (a0 : Array Value) (hw : HW a0 Z) (ws : List Jvm.Cond) (a1 : Addr) (h0 : Heap) (n0 : Nat) (Z0 : n0 ≤ h0.size) (F_depth_a1 : Fld Z h0 a1 kT "depth" "I" (.int 0)) (E_a1 : Exa Z h0 a1 kT) (g_a1 : n0 ≤ a1) (F_scoresAsRead_a1 : Fld Z h0 a1 kT "scoresAsRead" "[F" .null) (F_scores_a1 : Fld Z h0 a1 kT "scores" "[J" .null) (F_ordinals_a1 : Fld Z h0 a1 kT "ordinals" "[I" .null) (F_size_a1 : Fld Z h0 a1 kT "size" "I" (.int 0)) :
    OwnMet l Z y_2 prog_25_method_1_code 3 none ws Rm46 #[(.ref a1), (.int 3)] h0 (Q46 Z a1 h0 n0) := by
  refine own_body (plainFor_of_name pn_1) (ef_444dbb a1) ?_
  intro p e s m below meth c s₁ hx hby hml hown hnm hret hZ X0 e0
  have N0 := Fr.nil n0
  obtain ⟨T2, X2, e2, st2⟩ := initO X0 hx hZ hown (w_11 hw) (w_12 hw) (w_13 hw) e0 (g := (mkF m 1 #[.val (.ref a1), .val (.int 3), .unset] [(.ref a1)])) rfl (by rw [hml]; rfl) rfl (hb hby d2_1) (by decide) (W := 0) (by show 2 * 0 + _ ≤ _; exact Nat.le_of_eq rfl) (by decide)
  obtain ⟨T3, h3, X3, e3, W3, st3⟩ := putF X2 hx hZ hown (host := "") (Or.inl (w_14 hw)) Via.refl e2 F_depth_a1 E_a1 (Or.inr ⟨(w_15 hw), rfl, hnm⟩) (w_6 hw) (ty := .int) (by decide) rfl rfl (g := (mkF m 6 #[.val (.ref a1), .val (.int 3), .unset] [(.int 3), (.ref a1)])) rfl rfl (hb hby d2_6)
  have s0 := (Keep.of_wr W3).1
  have N3 := Fr.snoc X3 N0 g_a1
  have Fw3 : Fld Z h3 a1 kT "depth" "I" (.int 3) := F_depth_a1.same W3
  have z1 := Nat.le_trans Z0 s0
  obtain ⟨_, T4, L4, X4, hQ4, st4⟩ := own_callS X3 hx hZ hown (y := y_1) (w_16 hw) (w_17 hw) (w_18 hw) (w_19 hw) (rm45 l Z a0 hw []  h3 n0 z1) e3 (Ls := #[.val (.ref a1), .val (.int 3), .unset]) (by rw [hml]; rfl) (argsL := [(.int 3), (.int 1024)]) (rest := []) (lenOf pd_1 rfl) (hb hby d2_13) (W := 0)
  obtain ⟨rfl, Nq4, e4⟩ := hQ4
  have N4 := Fr.app N3 Nq4
  obtain ⟨T5, h5, k5, X5, e5, E5, A5, B5, st5⟩ := newPE (aty := .float) X4 hx hZ (w_20 hw) e4 (g := (mkF m 19 #[.val (.ref a1), .val (.int 3), .val (.int 3)] [(.int 3), (.ref a1)])) rfl (hb hby d2_19) rfl (by decide) (cap := 3) (by decide) (by decide) (by decide) (by decide) (ad := "[F") (by decide)
  obtain ⟨b5, g5⟩ : ∃ z, z = h3.size := ⟨_, rfl⟩
  rw [← g5] at A5 B5 st5
  have s1 := E5.1
  have Vn5 : Arv Z h5 b5 k5 .float (3 : Int32) [(.float 0), (.float 0), (.float 0)] (.float 0) := (Arv.new A5 (by decide)).pad (pad_rep [] (.float 0) 3)
  have Ex6 := ((E_a1.wr W3).ext E5)
  have Fl7 := ((F_scoresAsRead_a1.other W3 (Or.inr (slot_ne (Or.inl (w_22 hw)) (Or.inr (w_15 hw)) (by decide) (t := (.array .float)) (t' := .int) (by decide) (by decide)))).ext E5)
  obtain ⟨T8, h8, X8, e8, W8, st8⟩ := putF X5 hx hZ hown (host := "") (Or.inl (w_21 hw)) Via.refl e5 Fl7 Ex6 (Or.inl (w_22 hw)) (w_6 hw) (ty := (.array .float)) (by decide) rfl rfl (g := (mkF m 21 #[.val (.ref a1), .val (.int 3), .val (.int 3)] [(.ref b5), (.ref a1)])) rfl rfl (hb hby d2_21)
  have s2 := (Keep.of_wr W8).1
  have N8 := Fr.snoc X8 N4 g_a1
  have Fw8 : Fld Z h8 a1 kT "scoresAsRead" "[F" (.ref b5) := Fl7.same W8
  obtain ⟨T9, h9, k9, X9, e9, E9, A9, B9, st9⟩ := newPE (aty := .long) X8 hx hZ (w_23 hw) e8 (g := (mkF m 26 #[.val (.ref a1), .val (.int 3), .val (.int 3)] [(.int 3), (.ref a1)])) rfl (hb hby d2_26) rfl (by decide) (cap := 3) (by decide) (by decide) (by decide) (by decide) (ad := "[J") (by decide)
  obtain ⟨b9, g9⟩ : ∃ z, z = h8.size := ⟨_, rfl⟩
  rw [← g9] at A9 B9 st9
  have s3 := E9.1
  have Vn9 : Arv Z h9 b9 k9 .long (3 : Int32) [(.long 0), (.long 0), (.long 0)] (.long 0) := (Arv.new A9 (by decide)).pad (pad_rep [] (.long 0) 3)
  have Ex10 := ((Ex6.wr W8).ext E9)
  have Fl11 := ((((F_scores_a1.other W3 (Or.inr (slot_ne (Or.inl (w_25 hw)) (Or.inr (w_15 hw)) (by decide) (t := (.array .long)) (t' := .int) (by decide) (by decide)))).ext E5).other W8 (Or.inr (slot_ne (Or.inl (w_25 hw)) (Or.inl (w_22 hw)) (by decide) (t := (.array .long)) (t' := (.array .float)) (by decide) (by decide)))).ext E9)
  obtain ⟨T12, h12, X12, e12, W12, st12⟩ := putF X9 hx hZ hown (host := "") (Or.inl (w_24 hw)) Via.refl e9 Fl11 Ex10 (Or.inl (w_25 hw)) (w_6 hw) (ty := (.array .long)) (by decide) rfl rfl (g := (mkF m 28 #[.val (.ref a1), .val (.int 3), .val (.int 3)] [(.ref b9), (.ref a1)])) rfl rfl (hb hby d2_28)
  have s4 := (Keep.of_wr W12).1
  have N12 := Fr.snoc X12 N8 g_a1
  have Fw12 : Fld Z h12 a1 kT "scores" "[J" (.ref b9) := Fl11.same W12
  obtain ⟨T13, h13, k13, X13, e13, E13, A13, B13, st13⟩ := newPE (aty := .int) X12 hx hZ (w_26 hw) e12 (g := (mkF m 33 #[.val (.ref a1), .val (.int 3), .val (.int 3)] [(.int 3), (.ref a1)])) rfl (hb hby d2_33) rfl (by decide) (cap := 3) (by decide) (by decide) (by decide) (by decide) (ad := "[I") (by decide)
  obtain ⟨b13, g13⟩ : ∃ z, z = h12.size := ⟨_, rfl⟩
  rw [← g13] at A13 B13 st13
  have s5 := E13.1
  have Vn13 : Arv Z h13 b13 k13 .int (3 : Int32) [(.int 0), (.int 0), (.int 0)] (.int 0) := (Arv.new A13 (by decide)).pad (pad_rep [] (.int 0) 3)
  have Ex14 := ((Ex10.wr W12).ext E13)
  have Fl15 := ((((((F_ordinals_a1.other W3 (Or.inr (slot_ne (Or.inl (w_28 hw)) (Or.inr (w_15 hw)) (by decide) (t := (.array .int)) (t' := .int) (by decide) (by decide)))).ext E5).other W8 (Or.inr (slot_ne (Or.inl (w_28 hw)) (Or.inl (w_22 hw)) (by decide) (t := (.array .int)) (t' := (.array .float)) (by decide) (by decide)))).ext E9).other W12 (Or.inr (slot_ne (Or.inl (w_28 hw)) (Or.inl (w_25 hw)) (by decide) (t := (.array .int)) (t' := (.array .long)) (by decide) (by decide)))).ext E13)
  obtain ⟨T16, h16, X16, e16, W16, st16⟩ := putF X13 hx hZ hown (host := "") (Or.inl (w_27 hw)) Via.refl e13 Fl15 Ex14 (Or.inl (w_28 hw)) (w_6 hw) (ty := (.array .int)) (by decide) rfl rfl (g := (mkF m 35 #[.val (.ref a1), .val (.int 3), .val (.int 3)] [(.ref b13), (.ref a1)])) rfl rfl (hb hby d2_35)
  have s6 := (Keep.of_wr W16).1
  have N16 := Fr.snoc X16 N12 g_a1
  have Fw16 : Fld Z h16 a1 kT "ordinals" "[I" (.ref b13) := Fl15.same W16
  have Ex17 := (Ex14.wr W16)
  have Fl18 := ((((((Fw3.ext E5).other W8 (Or.inr (slot_ne (Or.inr (w_15 hw)) (Or.inl (w_22 hw)) (by decide) (t := .int) (t' := (.array .float)) (by decide) (by decide)))).ext E9).other W12 (Or.inr (slot_ne (Or.inr (w_15 hw)) (Or.inl (w_25 hw)) (by decide) (t := .int) (t' := (.array .long)) (by decide) (by decide)))).ext E13).other W16 (Or.inr (slot_ne (Or.inr (w_15 hw)) (Or.inl (w_28 hw)) (by decide) (t := .int) (t' := (.array .int)) (by decide) (by decide))))
  have Fl19 := ((Fw12.ext E13).other W16 (Or.inr (slot_ne (Or.inl (w_25 hw)) (Or.inl (w_28 hw)) (by decide) (t := (.array .long)) (t' := (.array .int)) (by decide) (by decide))))
  have Fl20 := ((((Fw8.ext E9).other W12 (Or.inr (slot_ne (Or.inl (w_22 hw)) (Or.inl (w_25 hw)) (by decide) (t := (.array .float)) (t' := (.array .long)) (by decide) (by decide)))).ext E13).other W16 (Or.inr (slot_ne (Or.inl (w_22 hw)) (Or.inl (w_28 hw)) (by decide) (t := (.array .float)) (t' := (.array .int)) (by decide) (by decide))))
  have Fl21 := (((((((F_size_a1.other W3 (Or.inr (slot_ne (Or.inl (w_35 hw)) (Or.inr (w_15 hw)) (by decide) (t := .int) (t' := .int) (by decide) (by decide)))).ext E5).other W8 (Or.inr (slot_ne (Or.inl (w_35 hw)) (Or.inl (w_22 hw)) (by decide) (t := .int) (t' := (.array .float)) (by decide) (by decide)))).ext E9).other W12 (Or.inr (slot_ne (Or.inl (w_35 hw)) (Or.inl (w_25 hw)) (by decide) (t := .int) (t' := (.array .long)) (by decide) (by decide)))).ext E13).other W16 (Or.inr (slot_ne (Or.inl (w_35 hw)) (Or.inl (w_28 hw)) (by decide) (t := .int) (t' := (.array .int)) (by decide) (by decide))))
  have sz_b13 : h0.size ≤ b13 := Nat.le_trans (Nat.le_trans (Nat.le_trans (Nat.le_trans (Nat.le_trans s0 s1) s2) s3) s4) (Nat.le_of_eq g13.symm)
  have Ex22 := (B13.wr W16)
  have ne_a1_b13 := Nat.ne_of_lt (Nat.lt_of_lt_of_le Fw12.lt (Nat.le_of_eq g13.symm))
  have Va23 := (Vn13.other W16 (Ne.symm ne_a1_b13))
  have sz_b9 : h0.size ≤ b9 := Nat.le_trans (Nat.le_trans (Nat.le_trans s0 s1) s2) (Nat.le_of_eq g9.symm)
  have Ex24 := (((B9.wr W12).ext E13).wr W16)
  have ne_a1_b9 := Nat.ne_of_lt (Nat.lt_of_lt_of_le Fw8.lt (Nat.le_of_eq g9.symm))
  have Va25 := (((Vn9.other W12 (Ne.symm ne_a1_b9)).ext E13).other W16 (Ne.symm ne_a1_b9))
  have sz_b5 : h0.size ≤ b5 := Nat.le_trans s0 (Nat.le_of_eq g5.symm)
  have Ex26 := (((((B5.wr W8).ext E9).wr W12).ext E13).wr W16)
  have ne_a1_b5 := Nat.ne_of_lt (Nat.lt_of_lt_of_le Fw3.lt (Nat.le_of_eq g5.symm))
  have Va27 := (((((Vn5.other W8 (Ne.symm ne_a1_b5)).ext E9).other W12 (Ne.symm ne_a1_b5)).ext E13).other W16 (Ne.symm ne_a1_b5))
  have ne_b9_b13 := Nat.ne_of_lt (Nat.lt_of_lt_of_le (Nat.lt_of_lt_of_le Vn9.lt s4) (Nat.le_of_eq g13.symm))
  have ne_b5_b13 := Nat.ne_of_lt (Nat.lt_of_lt_of_le (Nat.lt_of_lt_of_le Vn5.lt (Nat.le_trans (Nat.le_trans s2 s3) s4)) (Nat.le_of_eq g13.symm))
  have ne_b5_b9 := Nat.ne_of_lt (Nat.lt_of_lt_of_le (Nat.lt_of_lt_of_le Vn5.lt s2) (Nat.le_of_eq g9.symm))
  have Kp0 : Keep h0 h3 [a1] := (Keep.refl h0 [a1]).wr W3 (Or.inl (List.mem_of_getElem? (i := 0) rfl))
  have Kp1 : Keep h0 h5 [a1] := Kp0.ext E5
  have Kp2 : Keep h0 h8 [a1] := Kp1.wr W8 (Or.inl (List.mem_of_getElem? (i := 0) rfl))
  have Kp3 : Keep h0 h9 [a1] := Kp2.ext E9
  have Kp4 : Keep h0 h12 [a1] := Kp3.wr W12 (Or.inl (List.mem_of_getElem? (i := 0) rfl))
  have Kp5 : Keep h0 h13 [a1] := Kp4.ext E13
  have Kp6 : Keep h0 h16 [a1] := Kp5.wr W16 (Or.inl (List.mem_of_getElem? (i := 0) rfl))
  refine ⟨T16, _, _, _, none, X16, (fun _ => rfl), by decide, by decide, ?_, fun fs hr => ?_⟩
  · rw [e16]
    exact ⟨b13, k13, b9, k9, b5, k5, rfl, N16, Kp6, Ex17, Fl18, Fw16, Fl19, Fl20, Fl21, sz_b13, Ex22, Va23, sz_b9, Ex24, Va25, sz_b5, Ex26, Va27, (Ne.symm ne_b9_b13), (Ne.symm ne_b5_b13), (Ne.symm ne_b5_b9)⟩
  · refine XS.aloadN X0.here hx rfl (hb hby d2_0) rfl rfl ?_
    refine st2 _ ?_
    refine XS.aloadN X2.here hx rfl (hb hby d2_4) rfl rfl ?_
    refine XS.iloadN X2.here hx rfl (hb hby d2_5) rfl ?_
    refine st3 _ ?_
    refine XS.iloadN X3.here hx rfl (hb hby d2_9) rfl ?_
    refine XS.sipush X3.here hx rfl (hb hby d2_10) ?_
    refine st4 _ ?_
    refine XS.istoreN X4.here hx rfl (hb hby d2_16) rfl (l' := #[.val (.ref a1), .val (.int 3), .val (.int 3)]) rfl ?_
    refine XS.aloadN X4.here hx rfl (hb hby d2_17) rfl rfl ?_
    refine XS.iloadN X4.here hx rfl (hb hby d2_18) rfl ?_
    refine st5 _ ?_
    refine st8 _ ?_
    refine XS.aloadN X8.here hx rfl (hb hby d2_24) rfl rfl ?_
    refine XS.iloadN X8.here hx rfl (hb hby d2_25) rfl ?_
    refine st9 _ ?_
    refine st12 _ ?_
    refine XS.aloadN X12.here hx rfl (hb hby d2_31) rfl rfl ?_
    refine XS.iloadN X12.here hx rfl (hb hby d2_32) rfl ?_
    refine st13 _ ?_
    refine st16 _ ?_
    exact X16.returnOut hx hret (hb hby d2_38) hr
-- com/example/senret/senret/TopSentences.lowestAdmitted()F
abbrev Rm47 : Room := { frames := 0, cells := 0, slots := 0, locals := 0 }
def Q47 (Z : State) (a1 : Addr) (h0 : Heap) (n0 : Nat) (v : Option Value) (h : Heap) (L : List Loc) : Prop := v = some (.float 4286578688) ∧ Fr n0 L ∧ h = h0
-- ef_26f21a
theorem rm47 (l : Launch) (Z : State) (a0 : Array Value) (hw : HW a0 Z) (ws : List Jvm.Cond) (a1 : Addr) (h0 : Heap) (n0 : Nat) (Z0 : n0 ≤ h0.size) (F_size_a1 : Fld Z h0 a1 kT "size" "I" (.int 0)) (F_depth_a1 : Fld Z h0 a1 kT "depth" "I" (.int 3)) :
    OwnMet l Z y_3 prog_25_method_3_code 1 (some .float) ws Rm47 #[(.ref a1)] h0 (Q47 Z a1 h0 n0) := by
  refine own_body (plainFor_of_name pn_1) (ef_26f21a a1) ?_
  intro p e s m below meth c s₁ hx hby hml hown hnm hret hZ X0 e0
  have N0 := Fr.nil n0
  obtain ⟨T2, X2, e2, st2⟩ := getF X0 hx hZ hown (host := "") (Or.inl (w_34 hw)) Via.refl e0 F_size_a1 (g := (mkF m 1 #[.val (.ref a1)] [(.ref a1)])) rfl rfl (hb hby d5_1)
  obtain ⟨T3, X3, e3, st3⟩ := getF X2 hx hZ hown (host := "") (Or.inl (w_14 hw)) Via.refl e2 F_depth_a1 (g := (mkF m 5 #[.val (.ref a1)] [(.ref a1), (.int 0)])) rfl rfl (hb hby d5_5)
  refine ⟨T3, _, _, _, (some (.float 4286578688)), X3, nofun, by decide, by decide, ?_, fun fs hr => ?_⟩
  · rw [e3]
    exact ⟨rfl, N0, rfl⟩
  · refine XS.aloadN X0.here hx rfl (hb hby d5_0) rfl rfl ?_
    refine st2 _ ?_
    refine XS.aloadN X2.here hx rfl (hb hby d5_4) rfl rfl ?_
    refine st3 _ ?_
    refine XS.icmpNo X3.here hx rfl (hb hby d5_8) rfl (tlt ((by decide : (0 : Int32) < (3 : Int32)) : (0 : Int32) < (3 : Int32))).2.1 ?_
    refine X3.ldcFloatC hx hown (mvT hZ (w_36 hw)) (g := (mkF m 11 #[.val (.ref a1)] [])) rfl (hb hby d5_11) _ ?_
    refine XS.goto X3.here hx rfl (pc0 := 13) (pc' := 22) rfl (hb hby d5_13) (by decide) (by decide) ?_
    exact retOut X3 hx hret rfl (Or.inr (Or.inr (Or.inr (Or.inl ⟨rfl, rfl, _, rfl⟩)))) (hb hby d5_22) hr
-- com/example/senret/senret/TopSentences.grow()V
abbrev Rm48 : Room := { frames := 0, cells := 0, slots := 0, locals := 0 }
def Q48 (Z : State) (a1 : Addr) (a3 : Addr) (k5 : ClassId) (h0 : Heap) (n0 : Nat) (v : Option Value) (h : Heap) (L : List Loc) : Prop := v = none ∧ Fr n0 L ∧ h = h0
-- ef_692380
theorem rm48 (l : Launch) (Z : State) (a0 : Array Value) (hw : HW a0 Z) (ws : List Jvm.Cond) (a1 : Addr) (a3 : Addr) (k5 : ClassId) (h0 : Heap) (n0 : Nat) (Z0 : n0 ≤ h0.size) (F_size_a1 : Fld Z h0 a1 kT "size" "I" (.int 0)) (F_scores_a1 : Fld Z h0 a1 kT "scores" "[J" (.ref a3)) (V_a3 : Arv Z h0 a3 k5 .long (3 : Int32) [(.long 0), (.long 0), (.long 0)] (.long 0)) :
    OwnMet l Z y_4 prog_25_method_7_code 2 none ws Rm48 #[(.ref a1)] h0 (Q48 Z a1 a3 k5 h0 n0) := by
  refine own_body (plainFor_of_name pn_1) (ef_692380 a1) ?_
  intro p e s m below meth c s₁ hx hby hml hown hnm hret hZ X0 e0
  have N0 := Fr.nil n0
  obtain ⟨T2, X2, e2, st2⟩ := getF X0 hx hZ hown (host := "") (Or.inl (w_34 hw)) Via.refl e0 F_size_a1 (g := (mkF m 1 #[.val (.ref a1), .unset] [(.ref a1)])) rfl rfl (hb hby d7_1)
  obtain ⟨T4, X4, e4, st4⟩ := getF X2 hx hZ hown (host := "") (Or.inl (w_24 hw)) Via.refl e2 F_scores_a1 (g := (mkF m 5 #[.val (.ref a1), .unset] [(.ref a1), (.int 0)])) rfl rfl (hb hby d7_5)
  obtain ⟨cl6, Ar6, q6, S6, M6, Hs6, G6⟩ := id V_a3
  refine ⟨T4, _, _, _, none, X4, (fun _ => rfl), by decide, by decide, ?_, fun fs hr => ?_⟩
  · rw [e4]
    exact ⟨rfl, N0, rfl⟩
  · refine XS.aloadN X0.here hx rfl (hb hby d7_0) rfl rfl ?_
    refine st2 _ ?_
    refine XS.aloadN X2.here hx rfl (hb hby d7_4) rfl rfl ?_
    refine st4 _ ?_
    refine X4.arraylength hx (by rw [e4]; exact Ar6.1) (State.isArrayOf_alike hZ.alike Ar6.2.1) (g := (mkF m 8 #[.val (.ref a1), .unset] [(.ref a3), (.int 0)])) rfl rfl (hb hby d7_8) _ ?_
    show Steps p.tables e below (T4.setTop (mkF m 9 #[.val (.ref a1), .unset] [(.int cl6.slots.size.toInt32), (.int 0)])) _
    rw [len_of S6 M6]
    refine XS.icmpYes X4.here hx rfl (pc0 := 9) (pc' := 68) rfl (hb hby d7_9) rfl (feq ((by decide : ¬ ((0 : Int32) = (3 : Int32))) : ¬ ((0 : Int32) = (3 : Int32)))).2 (by decide) (by decide) ?_
    exact X4.returnOut hx hret (hb hby d7_68) hr
-- com/example/senret/senret/TopSentences.put(IFJI)V
abbrev Rm49 : Room := { frames := 0, cells := 0, slots := 0, locals := 0 }
def Q49 (Z : State) (a1 : Addr) (f2 : UInt32) (q3 : Int64) (p4 : Int32) (a5 : Addr) (k7 : ClassId) (a11 : Addr) (k14 : ClassId) (a19 : Addr) (k22 : ClassId) (h0 : Heap) (n0 : Nat) (v : Option Value) (h : Heap) (L : List Loc) : Prop := v = none ∧ Fr n0 L ∧ Keep h0 h [a5, a11, a19] ∧ Exa Z h a5 "[F" ∧ Arv Z h a5 k7 .float (3 : Int32) [(.float f2), (.float 0), (.float 0)] (.float 0) ∧ Exa Z h a11 "[J" ∧ Arv Z h a11 k14 .long (3 : Int32) [(.long q3), (.long 0), (.long 0)] (.long 0) ∧ Exa Z h a19 "[I" ∧ Arv Z h a19 k22 .int (3 : Int32) [(.int p4), (.int 0), (.int 0)] (.int 0)
-- ef_bf04c5
theorem rm49 (l : Launch) (Z : State) (a0 : Array Value) (hw : HW a0 Z) (ws : List Jvm.Cond) (a1 : Addr) (f2 : UInt32) (q3 : Int64) (p4 : Int32) (a5 : Addr) (k7 : ClassId) (a11 : Addr) (k14 : ClassId) (a19 : Addr) (k22 : ClassId) (h0 : Heap) (n0 : Nat) (Z0 : n0 ≤ h0.size) (F_scoresAsRead_a1 : Fld Z h0 a1 kT "scoresAsRead" "[F" (.ref a5)) (V_a5 : Arv Z h0 a5 k7 .float (3 : Int32) [(.float 0), (.float 0), (.float 0)] (.float 0)) (g_a5 : n0 ≤ a5) (F_scores_a1 : Fld Z h0 a1 kT "scores" "[J" (.ref a11)) (ne_a1_a5 : a1 ≠ a5) (V_a11 : Arv Z h0 a11 k14 .long (3 : Int32) [(.long 0), (.long 0), (.long 0)] (.long 0)) (ne_a11_a5 : a11 ≠ a5) (g_a11 : n0 ≤ a11) (F_ordinals_a1 : Fld Z h0 a1 kT "ordinals" "[I" (.ref a19)) (ne_a1_a11 : a1 ≠ a11) (V_a19 : Arv Z h0 a19 k22 .int (3 : Int32) [(.int 0), (.int 0), (.int 0)] (.int 0)) (ne_a19_a5 : a19 ≠ a5) (ne_a19_a11 : a19 ≠ a11) (g_a19 : n0 ≤ a19) (E_a5 : Exa Z h0 a5 "[F") (E_a11 : Exa Z h0 a11 "[J") (E_a19 : Exa Z h0 a19 "[I") :
    OwnMet l Z y_5 prog_25_method_11_code 6 none ws Rm49 #[(.ref a1), (.int 0), (.float f2), (.long q3), (.int p4)] h0 (Q49 Z a1 f2 q3 p4 a5 k7 a11 k14 a19 k22 h0 n0) := by
  refine own_body (plainFor_of_name pn_1) (ef_bf04c5 a1 f2 q3 p4) ?_
  intro p e s m below meth c s₁ hx hby hml hown hnm hret hZ X0 e0
  have N0 := Fr.nil n0
  obtain ⟨T6, X6, e6, st6⟩ := getF X0 hx hZ hown (host := "") (Or.inl (w_21 hw)) Via.refl e0 F_scoresAsRead_a1 (g := (mkF m 1 #[.val (.ref a1), .val (.int 0), .val (.float f2), .val (.long q3), .second, .val (.int p4)] [(.ref a1)])) rfl rfl (hb hby d9_1)
  obtain ⟨cl8, Ar8, q8, S8, M8, Hs8, G8⟩ := id V_a5
  have hin9 : ¬ ((0 : Int32) < 0 ∨ cl8.slots.size ≤ ((0 : Int32)).toNatClampNeg) := inb_of S8 ⟨(by decide : ¬ ((0 : Int32) < (0 : Int32))), (by decide : (0 : Int32) < (3 : Int32))⟩
  obtain ⟨T10, h10, X10, e10, W10, st10⟩ := stF X6 hx hZ e6 Ar8 (j := (0 : Int32)) hin9 (g := (mkF m 6 #[.val (.ref a1), .val (.int 0), .val (.float f2), .val (.long q3), .second, .val (.int p4)] [(.float f2), (.int 0), (.ref a5)])) rfl rfl (hb hby d9_6)
  have s0 := (Keep.of_wr W10).1
  have N10 := Fr.snoc X10 N0 g_a5
  have Vs10 : Arv Z h10 a5 k7 .float (3 : Int32) [(.float f2), (.float 0), (.float 0)] (.float 0) := Arv.set Ar8 q8 S8 M8 Hs8 G8 rfl W10 0 rfl (Nat.le_of_ble_eq_true rfl)
  have Fl12 := (F_scores_a1.other W10 (Or.inl ne_a1_a5))
  obtain ⟨T13, X13, e13, st13⟩ := getF X10 hx hZ hown (host := "") (Or.inl (w_24 hw)) Via.refl e10 Fl12 (g := (mkF m 8 #[.val (.ref a1), .val (.int 0), .val (.float f2), .val (.long q3), .second, .val (.int p4)] [(.ref a1)])) rfl rfl (hb hby d9_8)
  have Va15 := (V_a11.other W10 ne_a11_a5)
  obtain ⟨cl16, Ar16, q16, S16, M16, Hs16, G16⟩ := id Va15
  have hin17 : ¬ ((0 : Int32) < 0 ∨ cl16.slots.size ≤ ((0 : Int32)).toNatClampNeg) := inb_of S16 ⟨(by decide : ¬ ((0 : Int32) < (0 : Int32))), (by decide : (0 : Int32) < (3 : Int32))⟩
  obtain ⟨T18, h18, X18, e18, W18, st18⟩ := stJ X13 hx hZ e13 Ar16 (j := (0 : Int32)) hin17 (g := (mkF m 13 #[.val (.ref a1), .val (.int 0), .val (.float f2), .val (.long q3), .second, .val (.int p4)] [(.long q3), (.int 0), (.ref a11)])) rfl rfl (hb hby d9_13)
  have s1 := (Keep.of_wr W18).1
  have N18 := Fr.snoc X18 N10 g_a11
  have Vs18 : Arv Z h18 a11 k14 .long (3 : Int32) [(.long q3), (.long 0), (.long 0)] (.long 0) := Arv.set Ar16 q16 S16 M16 Hs16 G16 rfl W18 0 rfl (Nat.le_of_ble_eq_true rfl)
  have Fl20 := ((F_ordinals_a1.other W10 (Or.inl ne_a1_a5)).other W18 (Or.inl ne_a1_a11))
  obtain ⟨T21, X21, e21, st21⟩ := getF X18 hx hZ hown (host := "") (Or.inl (w_27 hw)) Via.refl e18 Fl20 (g := (mkF m 15 #[.val (.ref a1), .val (.int 0), .val (.float f2), .val (.long q3), .second, .val (.int p4)] [(.ref a1)])) rfl rfl (hb hby d9_15)
  have Va23 := ((V_a19.other W10 ne_a19_a5).other W18 ne_a19_a11)
  obtain ⟨cl24, Ar24, q24, S24, M24, Hs24, G24⟩ := id Va23
  have hin25 : ¬ ((0 : Int32) < 0 ∨ cl24.slots.size ≤ ((0 : Int32)).toNatClampNeg) := inb_of S24 ⟨(by decide : ¬ ((0 : Int32) < (0 : Int32))), (by decide : (0 : Int32) < (3 : Int32))⟩
  obtain ⟨T26, h26, X26, e26, W26, st26⟩ := stI X21 hx hZ e21 Ar24 (j := (0 : Int32)) hin25 (g := (mkF m 21 #[.val (.ref a1), .val (.int 0), .val (.float f2), .val (.long q3), .second, .val (.int p4)] [(.int p4), (.int 0), (.ref a19)])) rfl rfl (hb hby d9_21)
  have s2 := (Keep.of_wr W26).1
  have N26 := Fr.snoc X26 N18 g_a19
  have Vs26 : Arv Z h26 a19 k22 .int (3 : Int32) [(.int p4), (.int 0), (.int 0)] (.int 0) := Arv.set Ar24 q24 S24 M24 Hs24 G24 rfl W26 0 rfl (Nat.le_of_ble_eq_true rfl)
  have Ex27 := (((E_a5.wr W10).wr W18).wr W26)
  have Va28 := ((Vs10.other W18 (Ne.symm ne_a11_a5)).other W26 (Ne.symm ne_a19_a5))
  have Ex29 := (((E_a11.wr W10).wr W18).wr W26)
  have Va30 := (Vs18.other W26 (Ne.symm ne_a19_a11))
  have Ex31 := (((E_a19.wr W10).wr W18).wr W26)
  have Kp0 : Keep h0 h10 [a5, a11, a19] := (Keep.refl h0 [a5, a11, a19]).wr W10 (Or.inl (List.mem_of_getElem? (i := 0) rfl))
  have Kp1 : Keep h0 h18 [a5, a11, a19] := Kp0.wr W18 (Or.inl (List.mem_of_getElem? (i := 1) rfl))
  have Kp2 : Keep h0 h26 [a5, a11, a19] := Kp1.wr W26 (Or.inl (List.mem_of_getElem? (i := 2) rfl))
  refine ⟨T26, _, _, _, none, X26, (fun _ => rfl), by decide, by decide, ?_, fun fs hr => ?_⟩
  · rw [e26]
    exact ⟨rfl, N26, Kp2, Ex27, Va28, Ex29, Va30, Ex31, Vs26⟩
  · refine XS.aloadN X0.here hx rfl (hb hby d9_0) rfl rfl ?_
    refine st6 _ ?_
    refine XS.iloadN X6.here hx rfl (hb hby d9_4) rfl ?_
    refine XS.floadN X6.here hx rfl (hb hby d9_5) rfl ?_
    refine st10 _ ?_
    refine XS.aloadN X10.here hx rfl (hb hby d9_7) rfl rfl ?_
    refine st13 _ ?_
    refine XS.iloadN X13.here hx rfl (hb hby d9_11) rfl ?_
    refine XS.lloadN X13.here hx rfl (hb hby d9_12) rfl ?_
    refine st18 _ ?_
    refine XS.aloadN X18.here hx rfl (hb hby d9_14) rfl rfl ?_
    refine st21 _ ?_
    refine XS.iloadN X21.here hx rfl (hb hby d9_18) rfl ?_
    refine XS.iload X21.here hx rfl (hb hby d9_19) rfl ?_
    refine st26 _ ?_
    exact X26.returnOut hx hret (hb hby d9_22) hr
-- com/example/senret/senret/TopSentences.siftUp(IFJI)V
abbrev Rm50 : Room := { frames := 1, cells := 0, slots := 0, locals := 17 }
def Q50 (Z : State) (a1 : Addr) (f2 : UInt32) (q3 : Int64) (p4 : Int32) (a5 : Addr) (k6 : ClassId) (a7 : Addr) (k8 : ClassId) (a9 : Addr) (k10 : ClassId) (h0 : Heap) (n0 : Nat) (v : Option Value) (h : Heap) (L : List Loc) : Prop := v = none ∧ Fr n0 L ∧ Keep h0 h [a5, a7, a9] ∧ Exa Z h a5 "[F" ∧ Arv Z h a5 k6 .float (3 : Int32) [(.float f2), (.float 0), (.float 0)] (.float 0) ∧ Exa Z h a7 "[J" ∧ Arv Z h a7 k8 .long (3 : Int32) [(.long q3), (.long 0), (.long 0)] (.long 0) ∧ Exa Z h a9 "[I" ∧ Arv Z h a9 k10 .int (3 : Int32) [(.int p4), (.int 0), (.int 0)] (.int 0)
-- ef_b865c2
theorem rm50 (l : Launch) (Z : State) (a0 : Array Value) (hw : HW a0 Z) (ws : List Jvm.Cond) (a1 : Addr) (f2 : UInt32) (q3 : Int64) (p4 : Int32) (a5 : Addr) (k6 : ClassId) (a7 : Addr) (k8 : ClassId) (a9 : Addr) (k10 : ClassId) (h0 : Heap) (n0 : Nat) (Z0 : n0 ≤ h0.size) (F_scoresAsRead_a1 : Fld Z h0 a1 kT "scoresAsRead" "[F" (.ref a5)) (V_a5 : Arv Z h0 a5 k6 .float (3 : Int32) [(.float 0), (.float 0), (.float 0)] (.float 0)) (g_a5 : n0 ≤ a5) (F_scores_a1 : Fld Z h0 a1 kT "scores" "[J" (.ref a7)) (ne_a1_a5 : a1 ≠ a5) (V_a7 : Arv Z h0 a7 k8 .long (3 : Int32) [(.long 0), (.long 0), (.long 0)] (.long 0)) (ne_a7_a5 : a7 ≠ a5) (g_a7 : n0 ≤ a7) (F_ordinals_a1 : Fld Z h0 a1 kT "ordinals" "[I" (.ref a9)) (ne_a1_a7 : a1 ≠ a7) (V_a9 : Arv Z h0 a9 k10 .int (3 : Int32) [(.int 0), (.int 0), (.int 0)] (.int 0)) (ne_a9_a5 : a9 ≠ a5) (ne_a9_a7 : a9 ≠ a7) (g_a9 : n0 ≤ a9) (E_a5 : Exa Z h0 a5 "[F") (E_a7 : Exa Z h0 a7 "[J") (E_a9 : Exa Z h0 a9 "[I") (E_a1 : Exa Z h0 a1 kT) :
    OwnMet l Z y_6 prog_25_method_8_code 8 none ws Rm50 #[(.ref a1), (.int 0), (.float f2), (.long q3), (.int p4)] h0 (Q50 Z a1 f2 q3 p4 a5 k6 a7 k8 a9 k10 h0 n0) := by
  refine own_body (plainFor_of_name pn_1) (ef_b865c2 a1 f2 q3 p4) ?_
  intro p e s m below meth c s₁ hx hby hml hown hnm hret hZ X0 e0
  have N0 := Fr.nil n0
  obtain ⟨_, T11, L11, X11, hQ11, st11⟩ := own_private X0 hx hZ hown (y := y_5) E_a1 (w_52 hw) (w_53 hw) (Jvm.Kit.selects_private (by decide) (mvT hZ (w_6 hw)) (mvP hZ (w_54 hw)) (mvT hZ (w_53 hw))) (w_54 hw) (w_7 hw) (w_55 hw) (rm49 l Z a0 hw [] a1 f2 q3 p4 a5 k6 a7 k8 a9 k10 h0 n0 Z0 F_scoresAsRead_a1 V_a5 g_a5 F_scores_a1 ne_a1_a5 V_a7 ne_a7_a5 g_a7 F_ordinals_a1 ne_a1_a7 V_a9 ne_a9_a5 ne_a9_a7 g_a9 E_a5 E_a7 E_a9) e0 (Ls := #[.val (.ref a1), .val (.int 0), .val (.float f2), .val (.long q3), .second, .val (.int p4), .val (.int 0), .unset]) (by rw [hml]; rfl) (argsL := [(.int 0), (.float f2), (.long q3), (.int p4)]) (rest := []) (lenOf pd_5 rfl) (hb hby d8_64) (W := 0)
  obtain ⟨rfl, Nq11, K11, o11_0, o11_1, o11_2, o11_3, o11_4, o11_5⟩ := hQ11
  have N11 := Fr.app N0 Nq11
  have s0 := K11.1
  have Kp0 : Keep h0 T11.heap [a5, a7, a9] := (Keep.refl h0 [a5, a7, a9]).trans K11 (allS (Or.inl (List.mem_of_getElem? (i := 0) rfl)) (allS (Or.inl (List.mem_of_getElem? (i := 1) rfl)) (allS (Or.inl (List.mem_of_getElem? (i := 2) rfl)) all0)))
  refine ⟨T11, _, _, _, none, X11, (fun _ => rfl), by decide, by decide, ?_, fun fs hr => ?_⟩
  · exact ⟨rfl, N11, Kp0, o11_0, o11_1, o11_2, o11_3, o11_4, o11_5⟩
  · refine XS.iloadN X0.here hx rfl (hb hby d8_0) rfl ?_
    refine XS.istore X0.here hx rfl (hb hby d8_1) rfl (l' := #[.val (.ref a1), .val (.int 0), .val (.float f2), .val (.long q3), .second, .val (.int p4), .val (.int 0), .unset]) rfl ?_
    refine XS.iload X0.here hx rfl (hb hby d8_3) rfl ?_
    refine XS.ifYes X0.here hx rfl (pc0 := 5) (pc' := 57) rfl (hb hby d8_5) rfl ((if0 _ _).trans (flt ((by decide : ¬ ((0 : Int32) < (0 : Int32))) : ¬ ((0 : Int32) < (0 : Int32)))).2.2.2) (by decide) (by decide) ?_
    refine XS.aloadN X0.here hx rfl (hb hby d8_57) rfl rfl ?_
    refine XS.iload X0.here hx rfl (hb hby d8_58) rfl ?_
    refine XS.floadN X0.here hx rfl (hb hby d8_60) rfl ?_
    refine XS.lloadN X0.here hx rfl (hb hby d8_61) rfl ?_
    refine XS.iload X0.here hx rfl (hb hby d8_62) rfl ?_
    refine st11 _ ?_
    exact X11.returnOut hx hret (hb hby d8_67) hr
-- com/example/senret/senret/TopSentences.offer(JI)V
abbrev Rm51 : Room := { frames := 2, cells := 0, slots := 0, locals := 36 }
def Q51 (Z : State) (a1 : Addr) (q2 : Int64) (p3 : Int32) (a7 : Addr) (k8 : ClassId) (a13 : Addr) (k16 : ClassId) (a20 : Addr) (k22 : ClassId) (h0 : Heap) (n0 : Nat) (v : Option Value) (h : Heap) (L : List Loc) : Prop := v = none ∧ Fr n0 L ∧ Keep h0 h [a1, a13, a7, a20] ∧ Exa Z h a1 kT ∧ Fld Z h a1 kT "depth" "I" (.int 3) ∧ Fld Z h a1 kT "ordinals" "[I" (.ref a20) ∧ Fld Z h a1 kT "scores" "[J" (.ref a7) ∧ Fld Z h a1 kT "scoresAsRead" "[F" (.ref a13) ∧ Fld Z h a1 kT "size" "I" (.int 1) ∧ Exa Z h a13 "[F" ∧ Arv Z h a13 k16 .float (3 : Int32) [(.float (sC q2)), (.float 0), (.float 0)] (.float 0) ∧ Exa Z h a7 "[J" ∧ Arv Z h a7 k8 .long (3 : Int32) [(.long q2), (.long 0), (.long 0)] (.long 0) ∧ Exa Z h a20 "[I" ∧ Arv Z h a20 k22 .int (3 : Int32) [(.int p3), (.int 0), (.int 0)] (.int 0)
-- ef_8cdad2
theorem rm51 (l : Launch) (Z : State) (a0 : Array Value) (hw : HW a0 Z) (ws : List Jvm.Cond) (a1 : Addr) (q2 : Int64) (p3 : Int32) (a7 : Addr) (k8 : ClassId) (a13 : Addr) (k16 : ClassId) (a20 : Addr) (k22 : ClassId) (h0 : Heap) (n0 : Nat) (Z0 : n0 ≤ h0.size) (F_size_a1 : Fld Z h0 a1 kT "size" "I" (.int 0)) (F_depth_a1 : Fld Z h0 a1 kT "depth" "I" (.int 3)) (F_scores_a1 : Fld Z h0 a1 kT "scores" "[J" (.ref a7)) (V_a7 : Arv Z h0 a7 k8 .long (3 : Int32) [(.long 0), (.long 0), (.long 0)] (.long 0)) (E_a1 : Exa Z h0 a1 kT) (g_a1 : n0 ≤ a1) (F_scoresAsRead_a1 : Fld Z h0 a1 kT "scoresAsRead" "[F" (.ref a13)) (V_a13 : Arv Z h0 a13 k16 .float (3 : Int32) [(.float 0), (.float 0), (.float 0)] (.float 0)) (ne_a13_a1 : a13 ≠ a1) (g_a13 : n0 ≤ a13) (ne_a7_a1 : a7 ≠ a1) (ne_a7_a13 : a7 ≠ a13) (g_a7 : n0 ≤ a7) (F_ordinals_a1 : Fld Z h0 a1 kT "ordinals" "[I" (.ref a20)) (V_a20 : Arv Z h0 a20 k22 .int (3 : Int32) [(.int 0), (.int 0), (.int 0)] (.int 0)) (ne_a20_a1 : a20 ≠ a1) (ne_a20_a13 : a20 ≠ a13) (ne_a20_a7 : a20 ≠ a7) (g_a20 : n0 ≤ a20) (E_a13 : Exa Z h0 a13 "[F") (E_a7 : Exa Z h0 a7 "[J") (E_a20 : Exa Z h0 a20 "[I") :
    OwnMet l Z y_7 prog_25_method_4_code 5 none ws Rm51 #[(.ref a1), (.long q2), (.int p3)] h0 (Q51 Z a1 q2 p3 a7 k8 a13 k16 a20 k22 h0 n0) := by
  refine own_body (plainFor_of_name pn_1) (ef_8cdad2 a1 q2 p3) ?_
  intro p e s m below meth c s₁ hx hby hml hown hnm hret hZ X0 e0
  have N0 := Fr.nil n0
  obtain ⟨_, T4, L4, X4, hQ4, st4⟩ := own_callS X0 hx hZ hown (y := y_0) (w_43 hw) (w_1 hw) (w_2 hw) (w_3 hw) (rm1 l Z a0 hw [] q2 h0 n0 Z0) e0 (Ls := #[.val (.ref a1), .val (.long q2), .second, .val (.int p3), .unset]) (by rw [hml]; rfl) (argsL := [(.long q2)]) (rest := []) (lenOf pd_0 rfl) (hb hby d6_1) (W := 0)
  obtain ⟨rfl, Nq4, e4⟩ := hQ4
  have N4 := Fr.app N0 Nq4
  obtain ⟨T5, X5, e5, st5⟩ := getF X4 hx hZ hown (host := "") (Or.inl (w_34 hw)) Via.refl e4 F_size_a1 (g := (mkF m 7 #[.val (.ref a1), .val (.long q2), .second, .val (.int p3), .val (.float (sC q2))] [(.ref a1)])) rfl rfl (hb hby d6_7)
  obtain ⟨T6, X6, e6, st6⟩ := getF X5 hx hZ hown (host := "") (Or.inl (w_14 hw)) Via.refl e5 F_depth_a1 (g := (mkF m 11 #[.val (.ref a1), .val (.long q2), .second, .val (.int p3), .val (.float (sC q2))] [(.ref a1), (.int 0)])) rfl rfl (hb hby d6_11)
  obtain ⟨_, T9, L9, X9, hQ9, st9⟩ := own_private X6 hx hZ hown (y := y_4) E_a1 (w_44 hw) (w_45 hw) (Jvm.Kit.selects_private (by decide) (mvT hZ (w_6 hw)) (mvP hZ (w_46 hw)) (mvT hZ (w_45 hw))) (w_46 hw) (w_7 hw) (w_47 hw) (rm48 l Z a0 hw [] a1 a7 k8 h0 n0 Z0 F_size_a1 F_scores_a1 V_a7) e6 (Ls := #[.val (.ref a1), .val (.long q2), .second, .val (.int p3), .val (.float (sC q2))]) (by rw [hml]; rfl) (argsL := []) (rest := []) (lenOf pd_4 rfl) (hb hby d6_18) (W := 0)
  obtain ⟨rfl, Nq9, e9⟩ := hQ9
  have N9 := Fr.app N4 Nq9
  obtain ⟨T10, X10, e10, st10⟩ := getF X9 hx hZ hown (host := "") (Or.inl (w_34 hw)) Via.refl e9 F_size_a1 (g := (mkF m 23 #[.val (.ref a1), .val (.long q2), .second, .val (.int p3), .val (.float (sC q2))] [(.ref a1), (.ref a1)])) rfl rfl (hb hby d6_23)
  obtain ⟨T11, h11, X11, e11, W11, st11⟩ := putF X10 hx hZ hown (host := "") (Or.inl (w_34 hw)) Via.refl e10 F_size_a1 E_a1 (Or.inl (w_35 hw)) (w_6 hw) (ty := .int) (by decide) rfl rfl (g := (mkF m 28 #[.val (.ref a1), .val (.long q2), .second, .val (.int p3), .val (.float (sC q2))] [(.int 1), (.ref a1)])) rfl rfl (hb hby d6_28)
  have s0 := (Keep.of_wr W11).1
  have N11 := Fr.snoc X11 N9 g_a1
  have Fw11 : Fld Z h11 a1 kT "size" "I" (.int 1) := F_size_a1.same W11
  obtain ⟨T12, X12, e12, st12⟩ := getF X11 hx hZ hown (host := "") (Or.inl (w_34 hw)) Via.refl e11 Fw11 (g := (mkF m 33 #[.val (.ref a1), .val (.long q2), .second, .val (.int p3), .val (.float (sC q2))] [(.ref a1), (.ref a1)])) rfl rfl (hb hby d6_33)
  have Ex14 := (E_a1.wr W11)
  have Fl15 := (F_scoresAsRead_a1.other W11 (Or.inr (slot_ne (Or.inl (w_22 hw)) (Or.inl (w_35 hw)) (by decide) (t := (.array .float)) (t' := .int) (by decide) (by decide))))
  have Va17 := (V_a13.other W11 ne_a13_a1)
  have Fl18 := (F_scores_a1.other W11 (Or.inr (slot_ne (Or.inl (w_25 hw)) (Or.inl (w_35 hw)) (by decide) (t := (.array .long)) (t' := .int) (by decide) (by decide))))
  have Va19 := (V_a7.other W11 ne_a7_a1)
  have Fl21 := (F_ordinals_a1.other W11 (Or.inr (slot_ne (Or.inl (w_28 hw)) (Or.inl (w_35 hw)) (by decide) (t := (.array .int)) (t' := .int) (by decide) (by decide))))
  have Va23 := (V_a20.other W11 ne_a20_a1)
  have Ex24 := (E_a13.wr W11)
  have Ex25 := (E_a7.wr W11)
  have Ex26 := (E_a20.wr W11)
  have z1 := Nat.le_trans Z0 s0
  obtain ⟨_, T27, L27, X27, hQ27, st27⟩ := own_private X12 hx hZ hown (y := y_6) Ex14 (w_48 hw) (w_49 hw) (Jvm.Kit.selects_private (by decide) (mvT hZ (w_6 hw)) (mvP hZ (w_50 hw)) (mvT hZ (w_49 hw))) (w_50 hw) (w_7 hw) (w_51 hw) (rm50 l Z a0 hw [] a1 (sC q2) q2 p3 a13 k16 a7 k8 a20 k22 h11 n0 z1 Fl15 Va17 g_a13 Fl18 (Ne.symm ne_a13_a1) Va19 ne_a7_a13 g_a7 Fl21 (Ne.symm ne_a7_a1) Va23 ne_a20_a13 ne_a20_a7 g_a20 Ex24 Ex25 Ex26 Ex14) e12 (Ls := #[.val (.ref a1), .val (.long q2), .second, .val (.int p3), .val (.float (sC q2))]) (by rw [hml]; rfl) (argsL := [(.int 0), (.float (sC q2)), (.long q2), (.int p3)]) (rest := []) (lenOf pd_5 rfl) (hb hby d6_42) (W := 0)
  obtain ⟨rfl, Nq27, K27, o27_0, o27_1, o27_2, o27_3, o27_4, o27_5⟩ := hQ27
  have N27 := Fr.app N11 Nq27
  have s1 := K27.1
  have Ex28 := (Ex14.keep K27)
  have Fl29 := ((F_depth_a1.other W11 (Or.inr (slot_ne (Or.inr (w_15 hw)) (Or.inl (w_35 hw)) (by decide) (t := .int) (t' := .int) (by decide) (by decide)))).keep K27 (ninS (Ne.symm ne_a13_a1) (ninS (Ne.symm ne_a7_a1) (ninS (Ne.symm ne_a20_a1) nin0))))
  have Fl30 := (Fl21.keep K27 (ninS (Ne.symm ne_a13_a1) (ninS (Ne.symm ne_a7_a1) (ninS (Ne.symm ne_a20_a1) nin0))))
  have Fl31 := (Fl18.keep K27 (ninS (Ne.symm ne_a13_a1) (ninS (Ne.symm ne_a7_a1) (ninS (Ne.symm ne_a20_a1) nin0))))
  have Fl32 := (Fl15.keep K27 (ninS (Ne.symm ne_a13_a1) (ninS (Ne.symm ne_a7_a1) (ninS (Ne.symm ne_a20_a1) nin0))))
  have Fl33 := (Fw11.keep K27 (ninS (Ne.symm ne_a13_a1) (ninS (Ne.symm ne_a7_a1) (ninS (Ne.symm ne_a20_a1) nin0))))
  have Kp0 : Keep h0 h11 [a1, a13, a7, a20] := (Keep.refl h0 [a1, a13, a7, a20]).wr W11 (Or.inl (List.mem_of_getElem? (i := 0) rfl))
  have Kp1 : Keep h0 T27.heap [a1, a13, a7, a20] := Kp0.trans K27 (allS (Or.inl (List.mem_of_getElem? (i := 1) rfl)) (allS (Or.inl (List.mem_of_getElem? (i := 2) rfl)) (allS (Or.inl (List.mem_of_getElem? (i := 3) rfl)) all0)))
  refine ⟨T27, _, _, _, none, X27, (fun _ => rfl), by decide, by decide, ?_, fun fs hr => ?_⟩
  · exact ⟨rfl, N27, Kp1, Ex28, Fl29, Fl30, Fl31, Fl32, Fl33, o27_0, o27_1, o27_2, o27_3, o27_4, o27_5⟩
  · refine XS.lloadN X0.here hx rfl (hb hby d6_0) rfl ?_
    refine st4 _ ?_
    refine XS.fstore X4.here hx rfl (hb hby d6_4) rfl (l' := #[.val (.ref a1), .val (.long q2), .second, .val (.int p3), .val (.float (sC q2))]) rfl ?_
    refine XS.aloadN X4.here hx rfl (hb hby d6_6) rfl rfl ?_
    refine st5 _ ?_
    refine XS.aloadN X5.here hx rfl (hb hby d6_10) rfl rfl ?_
    refine st6 _ ?_
    refine XS.icmpNo X6.here hx rfl (hb hby d6_14) rfl (tlt ((by decide : (0 : Int32) < (3 : Int32)) : (0 : Int32) < (3 : Int32))).2.1 ?_
    refine XS.aloadN X6.here hx rfl (hb hby d6_17) rfl rfl ?_
    refine st9 _ ?_
    refine XS.aloadN X9.here hx rfl (hb hby d6_21) rfl rfl ?_
    refine XS.dup X9.here hx rfl (hb hby d6_22) rfl rfl ?_
    refine st10 _ ?_
    refine XS.iconst X10.here hx rfl (hb hby d6_26) ?_
    refine XS.iadd X10.here hx rfl (hb hby d6_27) rfl ?_
    refine st11 _ ?_
    refine XS.aloadN X11.here hx rfl (hb hby d6_31) rfl rfl ?_
    refine XS.aloadN X11.here hx rfl (hb hby d6_32) rfl rfl ?_
    refine st12 _ ?_
    refine XS.iconst X12.here hx rfl (hb hby d6_36) ?_
    refine XS.isub X12.here hx rfl (hb hby d6_37) rfl ?_
    refine XS.fload X12.here hx rfl (hb hby d6_38) rfl ?_
    refine XS.lloadN X12.here hx rfl (hb hby d6_40) rfl ?_
    refine XS.iloadN X12.here hx rfl (hb hby d6_41) rfl ?_
    refine st27 _ ?_
    refine XS.goto X27.here hx rfl (pc0 := 45) (pc' := 77) rfl (hb hby d6_45) (by decide) (by decide) ?_
    exact X27.returnOut hx hret (hb hby d6_77) hr
-- com/example/senret/senret/TopSentences.lowestAdmitted()F
abbrev Rm52 : Room := { frames := 0, cells := 0, slots := 0, locals := 0 }
def Q52 (Z : State) (a1 : Addr) (h0 : Heap) (n0 : Nat) (v : Option Value) (h : Heap) (L : List Loc) : Prop := v = some (.float 4286578688) ∧ Fr n0 L ∧ h = h0
-- ef_26f21a
theorem rm52 (l : Launch) (Z : State) (a0 : Array Value) (hw : HW a0 Z) (ws : List Jvm.Cond) (a1 : Addr) (h0 : Heap) (n0 : Nat) (Z0 : n0 ≤ h0.size) (F_size_a1 : Fld Z h0 a1 kT "size" "I" (.int 1)) (F_depth_a1 : Fld Z h0 a1 kT "depth" "I" (.int 3)) :
    OwnMet l Z y_3 prog_25_method_3_code 1 (some .float) ws Rm52 #[(.ref a1)] h0 (Q52 Z a1 h0 n0) := by
  refine own_body (plainFor_of_name pn_1) (ef_26f21a a1) ?_
  intro p e s m below meth c s₁ hx hby hml hown hnm hret hZ X0 e0
  have N0 := Fr.nil n0
  obtain ⟨T2, X2, e2, st2⟩ := getF X0 hx hZ hown (host := "") (Or.inl (w_34 hw)) Via.refl e0 F_size_a1 (g := (mkF m 1 #[.val (.ref a1)] [(.ref a1)])) rfl rfl (hb hby d5_1)
  obtain ⟨T3, X3, e3, st3⟩ := getF X2 hx hZ hown (host := "") (Or.inl (w_14 hw)) Via.refl e2 F_depth_a1 (g := (mkF m 5 #[.val (.ref a1)] [(.ref a1), (.int 1)])) rfl rfl (hb hby d5_5)
  refine ⟨T3, _, _, _, (some (.float 4286578688)), X3, nofun, by decide, by decide, ?_, fun fs hr => ?_⟩
  · rw [e3]
    exact ⟨rfl, N0, rfl⟩
  · refine XS.aloadN X0.here hx rfl (hb hby d5_0) rfl rfl ?_
    refine st2 _ ?_
    refine XS.aloadN X2.here hx rfl (hb hby d5_4) rfl rfl ?_
    refine st3 _ ?_
    refine XS.icmpNo X3.here hx rfl (hb hby d5_8) rfl (tlt ((by decide : (1 : Int32) < (3 : Int32)) : (1 : Int32) < (3 : Int32))).2.1 ?_
    refine X3.ldcFloatC hx hown (mvT hZ (w_36 hw)) (g := (mkF m 11 #[.val (.ref a1)] [])) rfl (hb hby d5_11) _ ?_
    refine XS.goto X3.here hx rfl (pc0 := 13) (pc' := 22) rfl (hb hby d5_13) (by decide) (by decide) ?_
    exact retOut X3 hx hret rfl (Or.inr (Or.inr (Or.inr (Or.inl ⟨rfl, rfl, _, rfl⟩)))) (hb hby d5_22) hr
theorem ef_1ec366 (f1 : UInt32) (f2 : UInt32) (f3 : UInt32) (m : MethodId) : entryFrame m #[(.int 3), (.int 1), (.float f1), (.float f2), (.float f3)] 5 = mkF m 0 #[.val (.int 3), .val (.int 1), .val (.float f1), .val (.float f2), .val (.float f3)] [] := by first | (simp [entryFrame, mkF, argsToLocals, Value.category]; done) | rfl
-- com/example/senret/senret/TopSentencesLowestAdmittedPinLaw.expected(IIFFF)F
abbrev Rm53 : Room := { frames := 0, cells := 0, slots := 0, locals := 0 }
def Q53 (Z : State) (f1 : UInt32) (f2 : UInt32) (f3 : UInt32) (h0 : Heap) (n0 : Nat) (v : Option Value) (h : Heap) (L : List Loc) : Prop := v = some (.float 4286578688) ∧ Fr n0 L ∧ h = h0
-- ef_1ec366
theorem rm53 (l : Launch) (Z : State) (a0 : Array Value) (hw : HW a0 Z) (ws : List Jvm.Cond) (f1 : UInt32) (f2 : UInt32) (f3 : UInt32) (h0 : Heap) (n0 : Nat) (Z0 : n0 ≤ h0.size) :
    OwnMet l Z y_8 method_3_code 5 (some .float) ws Rm53 #[(.int 3), (.int 1), (.float f1), (.float f2), (.float f3)] h0 (Q53 Z f1 f2 f3 h0 n0) := by
  refine own_body (plainFor_of_name pn_2) (ef_1ec366 f1 f2 f3) ?_
  intro p e s m below meth c s₁ hx hby hml hown hnm hret hZ X0 e0
  have N0 := Fr.nil n0
  refine ⟨s₁, _, _, _, (some (.float 4286578688)), X0, nofun, by decide, by decide, ?_, fun fs hr => ?_⟩
  · rw [e0]
    exact ⟨rfl, N0, rfl⟩
  · refine XS.iloadN X0.here hx rfl (hb hby d10_0) rfl ?_
    refine XS.iloadN X0.here hx rfl (hb hby d10_1) rfl ?_
    refine XS.icmpNo X0.here hx rfl (hb hby d10_2) rfl (tlt ((by decide : (1 : Int32) < (3 : Int32)) : (1 : Int32) < (3 : Int32))).2.1 ?_
    refine X0.ldcFloatC hx hown (mvT hZ (w_37 hw)) (g := (mkF m 5 #[.val (.int 3), .val (.int 1), .val (.float f1), .val (.float f2), .val (.float f3)] [])) rfl (hb hby d10_5) _ ?_
    exact retOut X0 hx hret rfl (Or.inr (Or.inr (Or.inr (Or.inl ⟨rfl, rfl, _, rfl⟩)))) (hb hby d10_7) hr
-- com/example/senret/senret/TopSentences.grow()V
abbrev Rm54 : Room := { frames := 0, cells := 0, slots := 0, locals := 0 }
def Q54 (Z : State) (a1 : Addr) (a3 : Addr) (q5 : Int64) (k6 : ClassId) (h0 : Heap) (n0 : Nat) (v : Option Value) (h : Heap) (L : List Loc) : Prop := v = none ∧ Fr n0 L ∧ h = h0
-- ef_692380
theorem rm54 (l : Launch) (Z : State) (a0 : Array Value) (hw : HW a0 Z) (ws : List Jvm.Cond) (a1 : Addr) (a3 : Addr) (q5 : Int64) (k6 : ClassId) (h0 : Heap) (n0 : Nat) (Z0 : n0 ≤ h0.size) (F_size_a1 : Fld Z h0 a1 kT "size" "I" (.int 1)) (F_scores_a1 : Fld Z h0 a1 kT "scores" "[J" (.ref a3)) (V_a3 : Arv Z h0 a3 k6 .long (3 : Int32) [(.long q5), (.long 0), (.long 0)] (.long 0)) :
    OwnMet l Z y_4 prog_25_method_7_code 2 none ws Rm54 #[(.ref a1)] h0 (Q54 Z a1 a3 q5 k6 h0 n0) := by
  refine own_body (plainFor_of_name pn_1) (ef_692380 a1) ?_
  intro p e s m below meth c s₁ hx hby hml hown hnm hret hZ X0 e0
  have N0 := Fr.nil n0
  obtain ⟨T2, X2, e2, st2⟩ := getF X0 hx hZ hown (host := "") (Or.inl (w_34 hw)) Via.refl e0 F_size_a1 (g := (mkF m 1 #[.val (.ref a1), .unset] [(.ref a1)])) rfl rfl (hb hby d7_1)
  obtain ⟨T4, X4, e4, st4⟩ := getF X2 hx hZ hown (host := "") (Or.inl (w_24 hw)) Via.refl e2 F_scores_a1 (g := (mkF m 5 #[.val (.ref a1), .unset] [(.ref a1), (.int 1)])) rfl rfl (hb hby d7_5)
  obtain ⟨cl7, Ar7, q7, S7, M7, Hs7, G7⟩ := id V_a3
  refine ⟨T4, _, _, _, none, X4, (fun _ => rfl), by decide, by decide, ?_, fun fs hr => ?_⟩
  · rw [e4]
    exact ⟨rfl, N0, rfl⟩
  · refine XS.aloadN X0.here hx rfl (hb hby d7_0) rfl rfl ?_
    refine st2 _ ?_
    refine XS.aloadN X2.here hx rfl (hb hby d7_4) rfl rfl ?_
    refine st4 _ ?_
    refine X4.arraylength hx (by rw [e4]; exact Ar7.1) (State.isArrayOf_alike hZ.alike Ar7.2.1) (g := (mkF m 8 #[.val (.ref a1), .unset] [(.ref a3), (.int 1)])) rfl rfl (hb hby d7_8) _ ?_
    show Steps p.tables e below (T4.setTop (mkF m 9 #[.val (.ref a1), .unset] [(.int cl7.slots.size.toInt32), (.int 1)])) _
    rw [len_of S7 M7]
    refine XS.icmpYes X4.here hx rfl (pc0 := 9) (pc' := 68) rfl (hb hby d7_9) rfl (feq ((by decide : ¬ ((1 : Int32) = (3 : Int32))) : ¬ ((1 : Int32) = (3 : Int32)))).2 (by decide) (by decide) ?_
    exact X4.returnOut hx hret (hb hby d7_68) hr
-- com/example/senret/senret/TopSentences.put(IFJI)V
abbrev Rm55 : Room := { frames := 0, cells := 0, slots := 0, locals := 0 }
def Q55 (Z : State) (a1 : Addr) (f2 : UInt32) (q3 : Int64) (p4 : Int32) (a5 : Addr) (f7 : UInt32) (k8 : ClassId) (a12 : Addr) (q15 : Int64) (k16 : ClassId) (a21 : Addr) (p24 : Int32) (k25 : ClassId) (h0 : Heap) (n0 : Nat) (v : Option Value) (h : Heap) (L : List Loc) : Prop := v = none ∧ Fr n0 L ∧ Keep h0 h [a5, a12, a21] ∧ Exa Z h a5 "[F" ∧ Arv Z h a5 k8 .float (3 : Int32) [(.float f7), (.float f2), (.float 0)] (.float 0) ∧ Exa Z h a12 "[J" ∧ Arv Z h a12 k16 .long (3 : Int32) [(.long q15), (.long q3), (.long 0)] (.long 0) ∧ Exa Z h a21 "[I" ∧ Arv Z h a21 k25 .int (3 : Int32) [(.int p24), (.int p4), (.int 0)] (.int 0)
-- ef_ea78cb
theorem rm55 (l : Launch) (Z : State) (a0 : Array Value) (hw : HW a0 Z) (ws : List Jvm.Cond) (a1 : Addr) (f2 : UInt32) (q3 : Int64) (p4 : Int32) (a5 : Addr) (f7 : UInt32) (k8 : ClassId) (a12 : Addr) (q15 : Int64) (k16 : ClassId) (a21 : Addr) (p24 : Int32) (k25 : ClassId) (h0 : Heap) (n0 : Nat) (Z0 : n0 ≤ h0.size) (F_scoresAsRead_a1 : Fld Z h0 a1 kT "scoresAsRead" "[F" (.ref a5)) (V_a5 : Arv Z h0 a5 k8 .float (3 : Int32) [(.float f7), (.float 0), (.float 0)] (.float 0)) (g_a5 : n0 ≤ a5) (F_scores_a1 : Fld Z h0 a1 kT "scores" "[J" (.ref a12)) (ne_a1_a5 : a1 ≠ a5) (V_a12 : Arv Z h0 a12 k16 .long (3 : Int32) [(.long q15), (.long 0), (.long 0)] (.long 0)) (ne_a12_a5 : a12 ≠ a5) (g_a12 : n0 ≤ a12) (F_ordinals_a1 : Fld Z h0 a1 kT "ordinals" "[I" (.ref a21)) (ne_a1_a12 : a1 ≠ a12) (V_a21 : Arv Z h0 a21 k25 .int (3 : Int32) [(.int p24), (.int 0), (.int 0)] (.int 0)) (ne_a21_a5 : a21 ≠ a5) (ne_a21_a12 : a21 ≠ a12) (g_a21 : n0 ≤ a21) (E_a5 : Exa Z h0 a5 "[F") (E_a12 : Exa Z h0 a12 "[J") (E_a21 : Exa Z h0 a21 "[I") :
    OwnMet l Z y_5 prog_25_method_11_code 6 none ws Rm55 #[(.ref a1), (.int 1), (.float f2), (.long q3), (.int p4)] h0 (Q55 Z a1 f2 q3 p4 a5 f7 k8 a12 q15 k16 a21 p24 k25 h0 n0) := by
  refine own_body (plainFor_of_name pn_1) (ef_ea78cb a1 f2 q3 p4) ?_
  intro p e s m below meth c s₁ hx hby hml hown hnm hret hZ X0 e0
  have N0 := Fr.nil n0
  obtain ⟨T6, X6, e6, st6⟩ := getF X0 hx hZ hown (host := "") (Or.inl (w_21 hw)) Via.refl e0 F_scoresAsRead_a1 (g := (mkF m 1 #[.val (.ref a1), .val (.int 1), .val (.float f2), .val (.long q3), .second, .val (.int p4)] [(.ref a1)])) rfl rfl (hb hby d9_1)
  obtain ⟨cl9, Ar9, q9, S9, M9, Hs9, G9⟩ := id V_a5
  have hin10 : ¬ ((1 : Int32) < 0 ∨ cl9.slots.size ≤ ((1 : Int32)).toNatClampNeg) := inb_of S9 ⟨(by decide : ¬ ((1 : Int32) < (0 : Int32))), (by decide : (1 : Int32) < (3 : Int32))⟩
  obtain ⟨T11, h11, X11, e11, W11, st11⟩ := stF X6 hx hZ e6 Ar9 (j := (1 : Int32)) hin10 (g := (mkF m 6 #[.val (.ref a1), .val (.int 1), .val (.float f2), .val (.long q3), .second, .val (.int p4)] [(.float f2), (.int 1), (.ref a5)])) rfl rfl (hb hby d9_6)
  have s0 := (Keep.of_wr W11).1
  have N11 := Fr.snoc X11 N0 g_a5
  have Vs11 : Arv Z h11 a5 k8 .float (3 : Int32) [(.float f7), (.float f2), (.float 0)] (.float 0) := Arv.set Ar9 q9 S9 M9 Hs9 G9 rfl W11 1 rfl (Nat.le_of_ble_eq_true rfl)
  have Fl13 := (F_scores_a1.other W11 (Or.inl ne_a1_a5))
  obtain ⟨T14, X14, e14, st14⟩ := getF X11 hx hZ hown (host := "") (Or.inl (w_24 hw)) Via.refl e11 Fl13 (g := (mkF m 8 #[.val (.ref a1), .val (.int 1), .val (.float f2), .val (.long q3), .second, .val (.int p4)] [(.ref a1)])) rfl rfl (hb hby d9_8)
  have Va17 := (V_a12.other W11 ne_a12_a5)
  obtain ⟨cl18, Ar18, q18, S18, M18, Hs18, G18⟩ := id Va17
  have hin19 : ¬ ((1 : Int32) < 0 ∨ cl18.slots.size ≤ ((1 : Int32)).toNatClampNeg) := inb_of S18 ⟨(by decide : ¬ ((1 : Int32) < (0 : Int32))), (by decide : (1 : Int32) < (3 : Int32))⟩
  obtain ⟨T20, h20, X20, e20, W20, st20⟩ := stJ X14 hx hZ e14 Ar18 (j := (1 : Int32)) hin19 (g := (mkF m 13 #[.val (.ref a1), .val (.int 1), .val (.float f2), .val (.long q3), .second, .val (.int p4)] [(.long q3), (.int 1), (.ref a12)])) rfl rfl (hb hby d9_13)
  have s1 := (Keep.of_wr W20).1
  have N20 := Fr.snoc X20 N11 g_a12
  have Vs20 : Arv Z h20 a12 k16 .long (3 : Int32) [(.long q15), (.long q3), (.long 0)] (.long 0) := Arv.set Ar18 q18 S18 M18 Hs18 G18 rfl W20 1 rfl (Nat.le_of_ble_eq_true rfl)
  have Fl22 := ((F_ordinals_a1.other W11 (Or.inl ne_a1_a5)).other W20 (Or.inl ne_a1_a12))
  obtain ⟨T23, X23, e23, st23⟩ := getF X20 hx hZ hown (host := "") (Or.inl (w_27 hw)) Via.refl e20 Fl22 (g := (mkF m 15 #[.val (.ref a1), .val (.int 1), .val (.float f2), .val (.long q3), .second, .val (.int p4)] [(.ref a1)])) rfl rfl (hb hby d9_15)
  have Va26 := ((V_a21.other W11 ne_a21_a5).other W20 ne_a21_a12)
  obtain ⟨cl27, Ar27, q27, S27, M27, Hs27, G27⟩ := id Va26
  have hin28 : ¬ ((1 : Int32) < 0 ∨ cl27.slots.size ≤ ((1 : Int32)).toNatClampNeg) := inb_of S27 ⟨(by decide : ¬ ((1 : Int32) < (0 : Int32))), (by decide : (1 : Int32) < (3 : Int32))⟩
  obtain ⟨T29, h29, X29, e29, W29, st29⟩ := stI X23 hx hZ e23 Ar27 (j := (1 : Int32)) hin28 (g := (mkF m 21 #[.val (.ref a1), .val (.int 1), .val (.float f2), .val (.long q3), .second, .val (.int p4)] [(.int p4), (.int 1), (.ref a21)])) rfl rfl (hb hby d9_21)
  have s2 := (Keep.of_wr W29).1
  have N29 := Fr.snoc X29 N20 g_a21
  have Vs29 : Arv Z h29 a21 k25 .int (3 : Int32) [(.int p24), (.int p4), (.int 0)] (.int 0) := Arv.set Ar27 q27 S27 M27 Hs27 G27 rfl W29 1 rfl (Nat.le_of_ble_eq_true rfl)
  have Ex30 := (((E_a5.wr W11).wr W20).wr W29)
  have Va31 := ((Vs11.other W20 (Ne.symm ne_a12_a5)).other W29 (Ne.symm ne_a21_a5))
  have Ex32 := (((E_a12.wr W11).wr W20).wr W29)
  have Va33 := (Vs20.other W29 (Ne.symm ne_a21_a12))
  have Ex34 := (((E_a21.wr W11).wr W20).wr W29)
  have Kp0 : Keep h0 h11 [a5, a12, a21] := (Keep.refl h0 [a5, a12, a21]).wr W11 (Or.inl (List.mem_of_getElem? (i := 0) rfl))
  have Kp1 : Keep h0 h20 [a5, a12, a21] := Kp0.wr W20 (Or.inl (List.mem_of_getElem? (i := 1) rfl))
  have Kp2 : Keep h0 h29 [a5, a12, a21] := Kp1.wr W29 (Or.inl (List.mem_of_getElem? (i := 2) rfl))
  refine ⟨T29, _, _, _, none, X29, (fun _ => rfl), by decide, by decide, ?_, fun fs hr => ?_⟩
  · rw [e29]
    exact ⟨rfl, N29, Kp2, Ex30, Va31, Ex32, Va33, Ex34, Vs29⟩
  · refine XS.aloadN X0.here hx rfl (hb hby d9_0) rfl rfl ?_
    refine st6 _ ?_
    refine XS.iloadN X6.here hx rfl (hb hby d9_4) rfl ?_
    refine XS.floadN X6.here hx rfl (hb hby d9_5) rfl ?_
    refine st11 _ ?_
    refine XS.aloadN X11.here hx rfl (hb hby d9_7) rfl rfl ?_
    refine st14 _ ?_
    refine XS.iloadN X14.here hx rfl (hb hby d9_11) rfl ?_
    refine XS.lloadN X14.here hx rfl (hb hby d9_12) rfl ?_
    refine st20 _ ?_
    refine XS.aloadN X20.here hx rfl (hb hby d9_14) rfl rfl ?_
    refine st23 _ ?_
    refine XS.iloadN X23.here hx rfl (hb hby d9_18) rfl ?_
    refine XS.iload X23.here hx rfl (hb hby d9_19) rfl ?_
    refine st29 _ ?_
    exact X29.returnOut hx hret (hb hby d9_22) hr
-- com/example/senret/senret/TopSentences.put(IFJI)V
abbrev Rm56 : Room := { frames := 0, cells := 0, slots := 0, locals := 0 }
def Q56 (Z : State) (a1 : Addr) (f2 : UInt32) (q3 : Int64) (p4 : Int32) (a5 : Addr) (k7 : ClassId) (a11 : Addr) (k14 : ClassId) (a19 : Addr) (k22 : ClassId) (h0 : Heap) (n0 : Nat) (v : Option Value) (h : Heap) (L : List Loc) : Prop := v = none ∧ Fr n0 L ∧ Keep h0 h [a5, a11, a19] ∧ Exa Z h a5 "[F" ∧ Arv Z h a5 k7 .float (3 : Int32) [(.float f2), (.float f2), (.float 0)] (.float 0) ∧ Exa Z h a11 "[J" ∧ Arv Z h a11 k14 .long (3 : Int32) [(.long q3), (.long q3), (.long 0)] (.long 0) ∧ Exa Z h a19 "[I" ∧ Arv Z h a19 k22 .int (3 : Int32) [(.int p4), (.int p4), (.int 0)] (.int 0)
-- ef_ea78cb
theorem rm56 (l : Launch) (Z : State) (a0 : Array Value) (hw : HW a0 Z) (ws : List Jvm.Cond) (a1 : Addr) (f2 : UInt32) (q3 : Int64) (p4 : Int32) (a5 : Addr) (k7 : ClassId) (a11 : Addr) (k14 : ClassId) (a19 : Addr) (k22 : ClassId) (h0 : Heap) (n0 : Nat) (Z0 : n0 ≤ h0.size) (F_scoresAsRead_a1 : Fld Z h0 a1 kT "scoresAsRead" "[F" (.ref a5)) (V_a5 : Arv Z h0 a5 k7 .float (3 : Int32) [(.float f2), (.float 0), (.float 0)] (.float 0)) (g_a5 : n0 ≤ a5) (F_scores_a1 : Fld Z h0 a1 kT "scores" "[J" (.ref a11)) (ne_a1_a5 : a1 ≠ a5) (V_a11 : Arv Z h0 a11 k14 .long (3 : Int32) [(.long q3), (.long 0), (.long 0)] (.long 0)) (ne_a11_a5 : a11 ≠ a5) (g_a11 : n0 ≤ a11) (F_ordinals_a1 : Fld Z h0 a1 kT "ordinals" "[I" (.ref a19)) (ne_a1_a11 : a1 ≠ a11) (V_a19 : Arv Z h0 a19 k22 .int (3 : Int32) [(.int p4), (.int 0), (.int 0)] (.int 0)) (ne_a19_a5 : a19 ≠ a5) (ne_a19_a11 : a19 ≠ a11) (g_a19 : n0 ≤ a19) (E_a5 : Exa Z h0 a5 "[F") (E_a11 : Exa Z h0 a11 "[J") (E_a19 : Exa Z h0 a19 "[I") :
    OwnMet l Z y_5 prog_25_method_11_code 6 none ws Rm56 #[(.ref a1), (.int 1), (.float f2), (.long q3), (.int p4)] h0 (Q56 Z a1 f2 q3 p4 a5 k7 a11 k14 a19 k22 h0 n0) := by
  refine own_body (plainFor_of_name pn_1) (ef_ea78cb a1 f2 q3 p4) ?_
  intro p e s m below meth c s₁ hx hby hml hown hnm hret hZ X0 e0
  have N0 := Fr.nil n0
  obtain ⟨T6, X6, e6, st6⟩ := getF X0 hx hZ hown (host := "") (Or.inl (w_21 hw)) Via.refl e0 F_scoresAsRead_a1 (g := (mkF m 1 #[.val (.ref a1), .val (.int 1), .val (.float f2), .val (.long q3), .second, .val (.int p4)] [(.ref a1)])) rfl rfl (hb hby d9_1)
  obtain ⟨cl8, Ar8, q8, S8, M8, Hs8, G8⟩ := id V_a5
  have hin9 : ¬ ((1 : Int32) < 0 ∨ cl8.slots.size ≤ ((1 : Int32)).toNatClampNeg) := inb_of S8 ⟨(by decide : ¬ ((1 : Int32) < (0 : Int32))), (by decide : (1 : Int32) < (3 : Int32))⟩
  obtain ⟨T10, h10, X10, e10, W10, st10⟩ := stF X6 hx hZ e6 Ar8 (j := (1 : Int32)) hin9 (g := (mkF m 6 #[.val (.ref a1), .val (.int 1), .val (.float f2), .val (.long q3), .second, .val (.int p4)] [(.float f2), (.int 1), (.ref a5)])) rfl rfl (hb hby d9_6)
  have s0 := (Keep.of_wr W10).1
  have N10 := Fr.snoc X10 N0 g_a5
  have Vs10 : Arv Z h10 a5 k7 .float (3 : Int32) [(.float f2), (.float f2), (.float 0)] (.float 0) := Arv.set Ar8 q8 S8 M8 Hs8 G8 rfl W10 1 rfl (Nat.le_of_ble_eq_true rfl)
  have Fl12 := (F_scores_a1.other W10 (Or.inl ne_a1_a5))
  obtain ⟨T13, X13, e13, st13⟩ := getF X10 hx hZ hown (host := "") (Or.inl (w_24 hw)) Via.refl e10 Fl12 (g := (mkF m 8 #[.val (.ref a1), .val (.int 1), .val (.float f2), .val (.long q3), .second, .val (.int p4)] [(.ref a1)])) rfl rfl (hb hby d9_8)
  have Va15 := (V_a11.other W10 ne_a11_a5)
  obtain ⟨cl16, Ar16, q16, S16, M16, Hs16, G16⟩ := id Va15
  have hin17 : ¬ ((1 : Int32) < 0 ∨ cl16.slots.size ≤ ((1 : Int32)).toNatClampNeg) := inb_of S16 ⟨(by decide : ¬ ((1 : Int32) < (0 : Int32))), (by decide : (1 : Int32) < (3 : Int32))⟩
  obtain ⟨T18, h18, X18, e18, W18, st18⟩ := stJ X13 hx hZ e13 Ar16 (j := (1 : Int32)) hin17 (g := (mkF m 13 #[.val (.ref a1), .val (.int 1), .val (.float f2), .val (.long q3), .second, .val (.int p4)] [(.long q3), (.int 1), (.ref a11)])) rfl rfl (hb hby d9_13)
  have s1 := (Keep.of_wr W18).1
  have N18 := Fr.snoc X18 N10 g_a11
  have Vs18 : Arv Z h18 a11 k14 .long (3 : Int32) [(.long q3), (.long q3), (.long 0)] (.long 0) := Arv.set Ar16 q16 S16 M16 Hs16 G16 rfl W18 1 rfl (Nat.le_of_ble_eq_true rfl)
  have Fl20 := ((F_ordinals_a1.other W10 (Or.inl ne_a1_a5)).other W18 (Or.inl ne_a1_a11))
  obtain ⟨T21, X21, e21, st21⟩ := getF X18 hx hZ hown (host := "") (Or.inl (w_27 hw)) Via.refl e18 Fl20 (g := (mkF m 15 #[.val (.ref a1), .val (.int 1), .val (.float f2), .val (.long q3), .second, .val (.int p4)] [(.ref a1)])) rfl rfl (hb hby d9_15)
  have Va23 := ((V_a19.other W10 ne_a19_a5).other W18 ne_a19_a11)
  obtain ⟨cl24, Ar24, q24, S24, M24, Hs24, G24⟩ := id Va23
  have hin25 : ¬ ((1 : Int32) < 0 ∨ cl24.slots.size ≤ ((1 : Int32)).toNatClampNeg) := inb_of S24 ⟨(by decide : ¬ ((1 : Int32) < (0 : Int32))), (by decide : (1 : Int32) < (3 : Int32))⟩
  obtain ⟨T26, h26, X26, e26, W26, st26⟩ := stI X21 hx hZ e21 Ar24 (j := (1 : Int32)) hin25 (g := (mkF m 21 #[.val (.ref a1), .val (.int 1), .val (.float f2), .val (.long q3), .second, .val (.int p4)] [(.int p4), (.int 1), (.ref a19)])) rfl rfl (hb hby d9_21)
  have s2 := (Keep.of_wr W26).1
  have N26 := Fr.snoc X26 N18 g_a19
  have Vs26 : Arv Z h26 a19 k22 .int (3 : Int32) [(.int p4), (.int p4), (.int 0)] (.int 0) := Arv.set Ar24 q24 S24 M24 Hs24 G24 rfl W26 1 rfl (Nat.le_of_ble_eq_true rfl)
  have Ex27 := (((E_a5.wr W10).wr W18).wr W26)
  have Va28 := ((Vs10.other W18 (Ne.symm ne_a11_a5)).other W26 (Ne.symm ne_a19_a5))
  have Ex29 := (((E_a11.wr W10).wr W18).wr W26)
  have Va30 := (Vs18.other W26 (Ne.symm ne_a19_a11))
  have Ex31 := (((E_a19.wr W10).wr W18).wr W26)
  have Kp0 : Keep h0 h10 [a5, a11, a19] := (Keep.refl h0 [a5, a11, a19]).wr W10 (Or.inl (List.mem_of_getElem? (i := 0) rfl))
  have Kp1 : Keep h0 h18 [a5, a11, a19] := Kp0.wr W18 (Or.inl (List.mem_of_getElem? (i := 1) rfl))
  have Kp2 : Keep h0 h26 [a5, a11, a19] := Kp1.wr W26 (Or.inl (List.mem_of_getElem? (i := 2) rfl))
  refine ⟨T26, _, _, _, none, X26, (fun _ => rfl), by decide, by decide, ?_, fun fs hr => ?_⟩
  · rw [e26]
    exact ⟨rfl, N26, Kp2, Ex27, Va28, Ex29, Va30, Ex31, Vs26⟩
  · refine XS.aloadN X0.here hx rfl (hb hby d9_0) rfl rfl ?_
    refine st6 _ ?_
    refine XS.iloadN X6.here hx rfl (hb hby d9_4) rfl ?_
    refine XS.floadN X6.here hx rfl (hb hby d9_5) rfl ?_
    refine st10 _ ?_
    refine XS.aloadN X10.here hx rfl (hb hby d9_7) rfl rfl ?_
    refine st13 _ ?_
    refine XS.iloadN X13.here hx rfl (hb hby d9_11) rfl ?_
    refine XS.lloadN X13.here hx rfl (hb hby d9_12) rfl ?_
    refine st18 _ ?_
    refine XS.aloadN X18.here hx rfl (hb hby d9_14) rfl rfl ?_
    refine st21 _ ?_
    refine XS.iloadN X21.here hx rfl (hb hby d9_18) rfl ?_
    refine XS.iload X21.here hx rfl (hb hby d9_19) rfl ?_
    refine st26 _ ?_
    exact X26.returnOut hx hret (hb hby d9_22) hr
-- com/example/senret/senret/TopSentences.move(II)V
abbrev Rm57 : Room := { frames := 1, cells := 0, slots := 0, locals := 17 }
def Q57 (Z : State) (a1 : Addr) (a2 : Addr) (f4 : UInt32) (k5 : ClassId) (a8 : Addr) (q10 : Int64) (k11 : ClassId) (a14 : Addr) (p16 : Int32) (k17 : ClassId) (h0 : Heap) (n0 : Nat) (v : Option Value) (h : Heap) (L : List Loc) : Prop := v = none ∧ Fr n0 L ∧ Keep h0 h [a2, a8, a14] ∧ Exa Z h a2 "[F" ∧ Arv Z h a2 k5 .float (3 : Int32) [(.float f4), (.float f4), (.float 0)] (.float 0) ∧ Exa Z h a8 "[J" ∧ Arv Z h a8 k11 .long (3 : Int32) [(.long q10), (.long q10), (.long 0)] (.long 0) ∧ Exa Z h a14 "[I" ∧ Arv Z h a14 k17 .int (3 : Int32) [(.int p16), (.int p16), (.int 0)] (.int 0)
-- ef_c4acf6
theorem rm57 (l : Launch) (Z : State) (a0 : Array Value) (hw : HW a0 Z) (ws : List Jvm.Cond) (a1 : Addr) (a2 : Addr) (f4 : UInt32) (k5 : ClassId) (a8 : Addr) (q10 : Int64) (k11 : ClassId) (a14 : Addr) (p16 : Int32) (k17 : ClassId) (h0 : Heap) (n0 : Nat) (Z0 : n0 ≤ h0.size) (F_scoresAsRead_a1 : Fld Z h0 a1 kT "scoresAsRead" "[F" (.ref a2)) (V_a2 : Arv Z h0 a2 k5 .float (3 : Int32) [(.float f4), (.float 0), (.float 0)] (.float 0)) (F_scores_a1 : Fld Z h0 a1 kT "scores" "[J" (.ref a8)) (V_a8 : Arv Z h0 a8 k11 .long (3 : Int32) [(.long q10), (.long 0), (.long 0)] (.long 0)) (F_ordinals_a1 : Fld Z h0 a1 kT "ordinals" "[I" (.ref a14)) (V_a14 : Arv Z h0 a14 k17 .int (3 : Int32) [(.int p16), (.int 0), (.int 0)] (.int 0)) (g_a2 : n0 ≤ a2) (ne_a1_a2 : a1 ≠ a2) (ne_a8_a2 : a8 ≠ a2) (g_a8 : n0 ≤ a8) (ne_a1_a8 : a1 ≠ a8) (ne_a14_a2 : a14 ≠ a2) (ne_a14_a8 : a14 ≠ a8) (g_a14 : n0 ≤ a14) (E_a2 : Exa Z h0 a2 "[F") (E_a8 : Exa Z h0 a8 "[J") (E_a14 : Exa Z h0 a14 "[I") (E_a1 : Exa Z h0 a1 kT) :
    OwnMet l Z y_12 prog_25_method_10_code 3 none ws Rm57 #[(.ref a1), (.int 0), (.int 1)] h0 (Q57 Z a1 a2 f4 k5 a8 q10 k11 a14 p16 k17 h0 n0) := by
  refine own_body (plainFor_of_name pn_1) (ef_c4acf6 a1) ?_
  intro p e s m below meth c s₁ hx hby hml hown hnm hret hZ X0 e0
  have N0 := Fr.nil n0
  obtain ⟨T3, X3, e3, st3⟩ := getF X0 hx hZ hown (host := "") (Or.inl (w_21 hw)) Via.refl e0 F_scoresAsRead_a1 (g := (mkF m 3 #[.val (.ref a1), .val (.int 0), .val (.int 1)] [(.ref a1), (.int 1), (.ref a1)])) rfl rfl (hb hby d13_3)
  obtain ⟨cl6, Ar6, q6, S6, M6, Hs6, G6⟩ := id V_a2
  have hin7 : ¬ ((0 : Int32) < 0 ∨ cl6.slots.size ≤ ((0 : Int32)).toNatClampNeg) := inb_of S6 ⟨(by decide : ¬ ((0 : Int32) < (0 : Int32))), (by decide : (0 : Int32) < (3 : Int32))⟩
  obtain ⟨T9, X9, e9, st9⟩ := getF X3 hx hZ hown (host := "") (Or.inl (w_24 hw)) Via.refl e3 F_scores_a1 (g := (mkF m 9 #[.val (.ref a1), .val (.int 0), .val (.int 1)] [(.ref a1), (.float f4), (.int 1), (.ref a1)])) rfl rfl (hb hby d13_9)
  obtain ⟨cl12, Ar12, q12, S12, M12, Hs12, G12⟩ := id V_a8
  have hin13 : ¬ ((0 : Int32) < 0 ∨ cl12.slots.size ≤ ((0 : Int32)).toNatClampNeg) := inb_of S12 ⟨(by decide : ¬ ((0 : Int32) < (0 : Int32))), (by decide : (0 : Int32) < (3 : Int32))⟩
  obtain ⟨T15, X15, e15, st15⟩ := getF X9 hx hZ hown (host := "") (Or.inl (w_27 hw)) Via.refl e9 F_ordinals_a1 (g := (mkF m 15 #[.val (.ref a1), .val (.int 0), .val (.int 1)] [(.ref a1), (.long q10), (.float f4), (.int 1), (.ref a1)])) rfl rfl (hb hby d13_15)
  obtain ⟨cl18, Ar18, q18, S18, M18, Hs18, G18⟩ := id V_a14
  have hin19 : ¬ ((0 : Int32) < 0 ∨ cl18.slots.size ≤ ((0 : Int32)).toNatClampNeg) := inb_of S18 ⟨(by decide : ¬ ((0 : Int32) < (0 : Int32))), (by decide : (0 : Int32) < (3 : Int32))⟩
  obtain ⟨_, T20, L20, X20, hQ20, st20⟩ := own_private X15 hx hZ hown (y := y_5) E_a1 (w_52 hw) (w_53 hw) (Jvm.Kit.selects_private (by decide) (mvT hZ (w_6 hw)) (mvP hZ (w_54 hw)) (mvT hZ (w_53 hw))) (w_54 hw) (w_7 hw) (w_55 hw) (rm56 l Z a0 hw [] a1 f4 q10 p16 a2 k5 a8 k11 a14 k17 h0 n0 Z0 F_scoresAsRead_a1 V_a2 g_a2 F_scores_a1 ne_a1_a2 V_a8 ne_a8_a2 g_a8 F_ordinals_a1 ne_a1_a8 V_a14 ne_a14_a2 ne_a14_a8 g_a14 E_a2 E_a8 E_a14) e15 (Ls := #[.val (.ref a1), .val (.int 0), .val (.int 1)]) (by rw [hml]; rfl) (argsL := [(.int 1), (.float f4), (.long q10), (.int p16)]) (rest := []) (lenOf pd_5 rfl) (hb hby d13_20) (W := 0)
  obtain ⟨rfl, Nq20, K20, o20_0, o20_1, o20_2, o20_3, o20_4, o20_5⟩ := hQ20
  have N20 := Fr.app N0 Nq20
  have s0 := K20.1
  have Kp0 : Keep h0 T20.heap [a2, a8, a14] := (Keep.refl h0 [a2, a8, a14]).trans K20 (allS (Or.inl (List.mem_of_getElem? (i := 0) rfl)) (allS (Or.inl (List.mem_of_getElem? (i := 1) rfl)) (allS (Or.inl (List.mem_of_getElem? (i := 2) rfl)) all0)))
  refine ⟨T20, _, _, _, none, X20, (fun _ => rfl), by decide, by decide, ?_, fun fs hr => ?_⟩
  · exact ⟨rfl, N20, Kp0, o20_0, o20_1, o20_2, o20_3, o20_4, o20_5⟩
  · refine XS.aloadN X0.here hx rfl (hb hby d13_0) rfl rfl ?_
    refine XS.iloadN X0.here hx rfl (hb hby d13_1) rfl ?_
    refine XS.aloadN X0.here hx rfl (hb hby d13_2) rfl rfl ?_
    refine st3 _ ?_
    refine XS.iloadN X3.here hx rfl (hb hby d13_6) rfl ?_
    refine X3.faload hx (j := (0 : Int32)) (v := (.float f4)) (by rw [e3]; exact Ar6.1) (State.isArrayOf_alike hZ.alike Ar6.2.1) Ar6.2.2 hin7 (Has.at Hs6 hin7 rfl) (g := (mkF m 7 #[.val (.ref a1), .val (.int 0), .val (.int 1)] [(.int 0), (.ref a2), (.int 1), (.ref a1)])) rfl rfl (hb hby d13_7) _ ?_
    refine XS.aloadN X3.here hx rfl (hb hby d13_8) rfl rfl ?_
    refine st9 _ ?_
    refine XS.iloadN X9.here hx rfl (hb hby d13_12) rfl ?_
    refine X9.laload hx (j := (0 : Int32)) (v := (.long q10)) (by rw [e9]; exact Ar12.1) (State.isArrayOf_alike hZ.alike Ar12.2.1) Ar12.2.2 hin13 (Has.at Hs12 hin13 rfl) (g := (mkF m 13 #[.val (.ref a1), .val (.int 0), .val (.int 1)] [(.int 0), (.ref a8), (.float f4), (.int 1), (.ref a1)])) rfl rfl (hb hby d13_13) _ ?_
    refine XS.aloadN X9.here hx rfl (hb hby d13_14) rfl rfl ?_
    refine st15 _ ?_
    refine XS.iloadN X15.here hx rfl (hb hby d13_18) rfl ?_
    refine X15.iaload hx (j := (0 : Int32)) (v := (.int p16)) (by rw [e15]; exact Ar18.1) (State.isArrayOf_alike hZ.alike Ar18.2.1) Ar18.2.2 hin19 (Has.at Hs18 hin19 rfl) (g := (mkF m 19 #[.val (.ref a1), .val (.int 0), .val (.int 1)] [(.int 0), (.ref a14), (.long q10), (.float f4), (.int 1), (.ref a1)])) rfl rfl (hb hby d13_19) _ ?_
    refine st20 _ ?_
    exact X20.returnOut hx hret (hb hby d13_23) hr
-- com/example/senret/senret/TopSentences.put(IFJI)V
abbrev Rm58 : Room := { frames := 0, cells := 0, slots := 0, locals := 0 }
def Q58 (Z : State) (a1 : Addr) (f2 : UInt32) (q3 : Int64) (p4 : Int32) (a5 : Addr) (f7 : UInt32) (k8 : ClassId) (a12 : Addr) (q15 : Int64) (k16 : ClassId) (a21 : Addr) (p24 : Int32) (k25 : ClassId) (h0 : Heap) (n0 : Nat) (v : Option Value) (h : Heap) (L : List Loc) : Prop := v = none ∧ Fr n0 L ∧ Keep h0 h [a5, a12, a21] ∧ Exa Z h a5 "[F" ∧ Arv Z h a5 k8 .float (3 : Int32) [(.float f2), (.float f7), (.float 0)] (.float 0) ∧ Exa Z h a12 "[J" ∧ Arv Z h a12 k16 .long (3 : Int32) [(.long q3), (.long q15), (.long 0)] (.long 0) ∧ Exa Z h a21 "[I" ∧ Arv Z h a21 k25 .int (3 : Int32) [(.int p4), (.int p24), (.int 0)] (.int 0)
-- ef_bf04c5
theorem rm58 (l : Launch) (Z : State) (a0 : Array Value) (hw : HW a0 Z) (ws : List Jvm.Cond) (a1 : Addr) (f2 : UInt32) (q3 : Int64) (p4 : Int32) (a5 : Addr) (f7 : UInt32) (k8 : ClassId) (a12 : Addr) (q15 : Int64) (k16 : ClassId) (a21 : Addr) (p24 : Int32) (k25 : ClassId) (h0 : Heap) (n0 : Nat) (Z0 : n0 ≤ h0.size) (F_scoresAsRead_a1 : Fld Z h0 a1 kT "scoresAsRead" "[F" (.ref a5)) (V_a5 : Arv Z h0 a5 k8 .float (3 : Int32) [(.float f7), (.float f7), (.float 0)] (.float 0)) (g_a5 : n0 ≤ a5) (F_scores_a1 : Fld Z h0 a1 kT "scores" "[J" (.ref a12)) (ne_a1_a5 : a1 ≠ a5) (V_a12 : Arv Z h0 a12 k16 .long (3 : Int32) [(.long q15), (.long q15), (.long 0)] (.long 0)) (ne_a12_a5 : a12 ≠ a5) (g_a12 : n0 ≤ a12) (F_ordinals_a1 : Fld Z h0 a1 kT "ordinals" "[I" (.ref a21)) (ne_a1_a12 : a1 ≠ a12) (V_a21 : Arv Z h0 a21 k25 .int (3 : Int32) [(.int p24), (.int p24), (.int 0)] (.int 0)) (ne_a21_a5 : a21 ≠ a5) (ne_a21_a12 : a21 ≠ a12) (g_a21 : n0 ≤ a21) (E_a5 : Exa Z h0 a5 "[F") (E_a12 : Exa Z h0 a12 "[J") (E_a21 : Exa Z h0 a21 "[I") :
    OwnMet l Z y_5 prog_25_method_11_code 6 none ws Rm58 #[(.ref a1), (.int 0), (.float f2), (.long q3), (.int p4)] h0 (Q58 Z a1 f2 q3 p4 a5 f7 k8 a12 q15 k16 a21 p24 k25 h0 n0) := by
  refine own_body (plainFor_of_name pn_1) (ef_bf04c5 a1 f2 q3 p4) ?_
  intro p e s m below meth c s₁ hx hby hml hown hnm hret hZ X0 e0
  have N0 := Fr.nil n0
  obtain ⟨T6, X6, e6, st6⟩ := getF X0 hx hZ hown (host := "") (Or.inl (w_21 hw)) Via.refl e0 F_scoresAsRead_a1 (g := (mkF m 1 #[.val (.ref a1), .val (.int 0), .val (.float f2), .val (.long q3), .second, .val (.int p4)] [(.ref a1)])) rfl rfl (hb hby d9_1)
  obtain ⟨cl9, Ar9, q9, S9, M9, Hs9, G9⟩ := id V_a5
  have hin10 : ¬ ((0 : Int32) < 0 ∨ cl9.slots.size ≤ ((0 : Int32)).toNatClampNeg) := inb_of S9 ⟨(by decide : ¬ ((0 : Int32) < (0 : Int32))), (by decide : (0 : Int32) < (3 : Int32))⟩
  obtain ⟨T11, h11, X11, e11, W11, st11⟩ := stF X6 hx hZ e6 Ar9 (j := (0 : Int32)) hin10 (g := (mkF m 6 #[.val (.ref a1), .val (.int 0), .val (.float f2), .val (.long q3), .second, .val (.int p4)] [(.float f2), (.int 0), (.ref a5)])) rfl rfl (hb hby d9_6)
  have s0 := (Keep.of_wr W11).1
  have N11 := Fr.snoc X11 N0 g_a5
  have Vs11 : Arv Z h11 a5 k8 .float (3 : Int32) [(.float f2), (.float f7), (.float 0)] (.float 0) := Arv.set Ar9 q9 S9 M9 Hs9 G9 rfl W11 0 rfl (Nat.le_of_ble_eq_true rfl)
  have Fl13 := (F_scores_a1.other W11 (Or.inl ne_a1_a5))
  obtain ⟨T14, X14, e14, st14⟩ := getF X11 hx hZ hown (host := "") (Or.inl (w_24 hw)) Via.refl e11 Fl13 (g := (mkF m 8 #[.val (.ref a1), .val (.int 0), .val (.float f2), .val (.long q3), .second, .val (.int p4)] [(.ref a1)])) rfl rfl (hb hby d9_8)
  have Va17 := (V_a12.other W11 ne_a12_a5)
  obtain ⟨cl18, Ar18, q18, S18, M18, Hs18, G18⟩ := id Va17
  have hin19 : ¬ ((0 : Int32) < 0 ∨ cl18.slots.size ≤ ((0 : Int32)).toNatClampNeg) := inb_of S18 ⟨(by decide : ¬ ((0 : Int32) < (0 : Int32))), (by decide : (0 : Int32) < (3 : Int32))⟩
  obtain ⟨T20, h20, X20, e20, W20, st20⟩ := stJ X14 hx hZ e14 Ar18 (j := (0 : Int32)) hin19 (g := (mkF m 13 #[.val (.ref a1), .val (.int 0), .val (.float f2), .val (.long q3), .second, .val (.int p4)] [(.long q3), (.int 0), (.ref a12)])) rfl rfl (hb hby d9_13)
  have s1 := (Keep.of_wr W20).1
  have N20 := Fr.snoc X20 N11 g_a12
  have Vs20 : Arv Z h20 a12 k16 .long (3 : Int32) [(.long q3), (.long q15), (.long 0)] (.long 0) := Arv.set Ar18 q18 S18 M18 Hs18 G18 rfl W20 0 rfl (Nat.le_of_ble_eq_true rfl)
  have Fl22 := ((F_ordinals_a1.other W11 (Or.inl ne_a1_a5)).other W20 (Or.inl ne_a1_a12))
  obtain ⟨T23, X23, e23, st23⟩ := getF X20 hx hZ hown (host := "") (Or.inl (w_27 hw)) Via.refl e20 Fl22 (g := (mkF m 15 #[.val (.ref a1), .val (.int 0), .val (.float f2), .val (.long q3), .second, .val (.int p4)] [(.ref a1)])) rfl rfl (hb hby d9_15)
  have Va26 := ((V_a21.other W11 ne_a21_a5).other W20 ne_a21_a12)
  obtain ⟨cl27, Ar27, q27, S27, M27, Hs27, G27⟩ := id Va26
  have hin28 : ¬ ((0 : Int32) < 0 ∨ cl27.slots.size ≤ ((0 : Int32)).toNatClampNeg) := inb_of S27 ⟨(by decide : ¬ ((0 : Int32) < (0 : Int32))), (by decide : (0 : Int32) < (3 : Int32))⟩
  obtain ⟨T29, h29, X29, e29, W29, st29⟩ := stI X23 hx hZ e23 Ar27 (j := (0 : Int32)) hin28 (g := (mkF m 21 #[.val (.ref a1), .val (.int 0), .val (.float f2), .val (.long q3), .second, .val (.int p4)] [(.int p4), (.int 0), (.ref a21)])) rfl rfl (hb hby d9_21)
  have s2 := (Keep.of_wr W29).1
  have N29 := Fr.snoc X29 N20 g_a21
  have Vs29 : Arv Z h29 a21 k25 .int (3 : Int32) [(.int p4), (.int p24), (.int 0)] (.int 0) := Arv.set Ar27 q27 S27 M27 Hs27 G27 rfl W29 0 rfl (Nat.le_of_ble_eq_true rfl)
  have Ex30 := (((E_a5.wr W11).wr W20).wr W29)
  have Va31 := ((Vs11.other W20 (Ne.symm ne_a12_a5)).other W29 (Ne.symm ne_a21_a5))
  have Ex32 := (((E_a12.wr W11).wr W20).wr W29)
  have Va33 := (Vs20.other W29 (Ne.symm ne_a21_a12))
  have Ex34 := (((E_a21.wr W11).wr W20).wr W29)
  have Kp0 : Keep h0 h11 [a5, a12, a21] := (Keep.refl h0 [a5, a12, a21]).wr W11 (Or.inl (List.mem_of_getElem? (i := 0) rfl))
  have Kp1 : Keep h0 h20 [a5, a12, a21] := Kp0.wr W20 (Or.inl (List.mem_of_getElem? (i := 1) rfl))
  have Kp2 : Keep h0 h29 [a5, a12, a21] := Kp1.wr W29 (Or.inl (List.mem_of_getElem? (i := 2) rfl))
  refine ⟨T29, _, _, _, none, X29, (fun _ => rfl), by decide, by decide, ?_, fun fs hr => ?_⟩
  · rw [e29]
    exact ⟨rfl, N29, Kp2, Ex30, Va31, Ex32, Va33, Ex34, Vs29⟩
  · refine XS.aloadN X0.here hx rfl (hb hby d9_0) rfl rfl ?_
    refine st6 _ ?_
    refine XS.iloadN X6.here hx rfl (hb hby d9_4) rfl ?_
    refine XS.floadN X6.here hx rfl (hb hby d9_5) rfl ?_
    refine st11 _ ?_
    refine XS.aloadN X11.here hx rfl (hb hby d9_7) rfl rfl ?_
    refine st14 _ ?_
    refine XS.iloadN X14.here hx rfl (hb hby d9_11) rfl ?_
    refine XS.lloadN X14.here hx rfl (hb hby d9_12) rfl ?_
    refine st20 _ ?_
    refine XS.aloadN X20.here hx rfl (hb hby d9_14) rfl rfl ?_
    refine st23 _ ?_
    refine XS.iloadN X23.here hx rfl (hb hby d9_18) rfl ?_
    refine XS.iload X23.here hx rfl (hb hby d9_19) rfl ?_
    refine st29 _ ?_
    exact X29.returnOut hx hret (hb hby d9_22) hr
-- com/example/senret/senret/TopSentences.siftUp(IFJI)V
abbrev Rm59 : Room := { frames := 2, cells := 0, slots := 0, locals := 31 }
def Q59 (Z : State) (a1 : Addr) (f2 : UInt32) (q3 : Int64) (p4 : Int32) (a5 : Addr) (f7 : UInt32) (k8 : ClassId) (a11 : Addr) (p13 : Int32) (k14 : ClassId) (a27 : Addr) (q28 : Int64) (k29 : ClassId) (h0 : Heap) (n0 : Nat) (v : Option Value) (h : Heap) (L : List Loc) : Prop := v = none ∧ Fr n0 L ∧ Keep h0 h [a5, a27, a11] ∧ Exa Z h a5 "[F" ∧ Arv Z h a5 k8 .float (3 : Int32) [(.float (if (if (cmpValue (FP.fcmp f2 f7) .g) < (0 : Int32) then (1 : Int32) else (if (cmpValue (FP.fcmp f2 f7) .l) = (0 : Int32) then (if p4 < p13 then (1 : Int32) else (0 : Int32)) else (0 : Int32))) = (0 : Int32) then f7 else f2)), (.float (if (if (cmpValue (FP.fcmp f2 f7) .g) < (0 : Int32) then (1 : Int32) else (if (cmpValue (FP.fcmp f2 f7) .l) = (0 : Int32) then (if p4 < p13 then (1 : Int32) else (0 : Int32)) else (0 : Int32))) = (0 : Int32) then f2 else f7)), (.float 0)] (.float 0) ∧ Exa Z h a27 "[J" ∧ Arv Z h a27 k29 .long (3 : Int32) [(.long (if (if (cmpValue (FP.fcmp f2 f7) .g) < (0 : Int32) then (1 : Int32) else (if (cmpValue (FP.fcmp f2 f7) .l) = (0 : Int32) then (if p4 < p13 then (1 : Int32) else (0 : Int32)) else (0 : Int32))) = (0 : Int32) then q28 else q3)), (.long (if (if (cmpValue (FP.fcmp f2 f7) .g) < (0 : Int32) then (1 : Int32) else (if (cmpValue (FP.fcmp f2 f7) .l) = (0 : Int32) then (if p4 < p13 then (1 : Int32) else (0 : Int32)) else (0 : Int32))) = (0 : Int32) then q3 else q28)), (.long 0)] (.long 0) ∧ Exa Z h a11 "[I" ∧ Arv Z h a11 k14 .int (3 : Int32) [(.int (if (if (cmpValue (FP.fcmp f2 f7) .g) < (0 : Int32) then (1 : Int32) else (if (cmpValue (FP.fcmp f2 f7) .l) = (0 : Int32) then (if p4 < p13 then (1 : Int32) else (0 : Int32)) else (0 : Int32))) = (0 : Int32) then p13 else p4)), (.int (if (if (cmpValue (FP.fcmp f2 f7) .g) < (0 : Int32) then (1 : Int32) else (if (cmpValue (FP.fcmp f2 f7) .l) = (0 : Int32) then (if p4 < p13 then (1 : Int32) else (0 : Int32)) else (0 : Int32))) = (0 : Int32) then p4 else p13)), (.int 0)] (.int 0)
-- ef_281084
theorem rm59_0 (l : Launch) (Z : State) (a0 : Array Value) (hw : HW a0 Z) (ws : List Jvm.Cond) (a1 : Addr) (f2 : UInt32) (q3 : Int64) (p4 : Int32) (a5 : Addr) (f7 : UInt32) (k8 : ClassId) (a11 : Addr) (p13 : Int32) (k14 : ClassId) (a27 : Addr) (q28 : Int64) (k29 : ClassId) (h0 : Heap) (n0 : Nat) (Z0 : n0 ≤ h0.size) (F_scoresAsRead_a1 : Fld Z h0 a1 kT "scoresAsRead" "[F" (.ref a5)) (V_a5 : Arv Z h0 a5 k8 .float (3 : Int32) [(.float f7), (.float 0), (.float 0)] (.float 0)) (F_ordinals_a1 : Fld Z h0 a1 kT "ordinals" "[I" (.ref a11)) (V_a11 : Arv Z h0 a11 k14 .int (3 : Int32) [(.int p13), (.int 0), (.int 0)] (.int 0)) (g_a5 : n0 ≤ a5) (F_scores_a1 : Fld Z h0 a1 kT "scores" "[J" (.ref a27)) (ne_a1_a5 : a1 ≠ a5) (V_a27 : Arv Z h0 a27 k29 .long (3 : Int32) [(.long q28), (.long 0), (.long 0)] (.long 0)) (ne_a27_a5 : a27 ≠ a5) (g_a27 : n0 ≤ a27) (ne_a1_a27 : a1 ≠ a27) (ne_a11_a5 : a11 ≠ a5) (ne_a11_a27 : a11 ≠ a27) (g_a11 : n0 ≤ a11) (E_a5 : Exa Z h0 a5 "[F") (E_a27 : Exa Z h0 a27 "[J") (E_a11 : Exa Z h0 a11 "[I") (E_a1 : Exa Z h0 a1 kT) (ne_a1_a11 : a1 ≠ a11) (cc1 : (if (cmpValue (FP.fcmp f2 f7) .g) < (0 : Int32) then (1 : Int32) else (if (cmpValue (FP.fcmp f2 f7) .l) = (0 : Int32) then (if p4 < p13 then (1 : Int32) else (0 : Int32)) else (0 : Int32))) = (0 : Int32)) :
    OwnMet l Z y_6 prog_25_method_8_code 8 none ws Rm59 #[(.ref a1), (.int 1), (.float f2), (.long q3), (.int p4)] h0 (Q59 Z a1 f2 q3 p4 a5 f7 k8 a11 p13 k14 a27 q28 k29 h0 n0) := by
  refine own_body (plainFor_of_name pn_1) (ef_281084 a1 f2 q3 p4) ?_
  intro p e s m below meth c s₁ hx hby hml hown hnm hret hZ X0 e0
  have N0 := Fr.nil n0
  obtain ⟨T19, X19, e19, st19⟩ := getF X0 hx hZ hown (host := "") (Or.inl (w_21 hw)) Via.refl e0 F_scoresAsRead_a1 (g := (mkF m 20 #[.val (.ref a1), .val (.int 1), .val (.float f2), .val (.long q3), .second, .val (.int p4), .val (.int 1), .val (.int 0)] [(.ref a1), (.int p4), (.float f2)])) rfl rfl (hb hby d8_20)
  obtain ⟨cl20, Ar20, q20, S20, M20, Hs20, G20⟩ := id V_a5
  have hin21 : ¬ ((0 : Int32) < 0 ∨ cl20.slots.size ≤ ((0 : Int32)).toNatClampNeg) := inb_of S20 ⟨(by decide : ¬ ((0 : Int32) < (0 : Int32))), (by decide : (0 : Int32) < (3 : Int32))⟩
  obtain ⟨T22, X22, e22, st22⟩ := getF X19 hx hZ hown (host := "") (Or.inl (w_27 hw)) Via.refl e19 F_ordinals_a1 (g := (mkF m 27 #[.val (.ref a1), .val (.int 1), .val (.float f2), .val (.long q3), .second, .val (.int p4), .val (.int 1), .val (.int 0)] [(.ref a1), (.float f7), (.int p4), (.float f2)])) rfl rfl (hb hby d8_27)
  obtain ⟨cl23, Ar23, q23, S23, M23, Hs23, G23⟩ := id V_a11
  have hin24 : ¬ ((0 : Int32) < 0 ∨ cl23.slots.size ≤ ((0 : Int32)).toNatClampNeg) := inb_of S23 ⟨(by decide : ¬ ((0 : Int32) < (0 : Int32))), (by decide : (0 : Int32) < (3 : Int32))⟩
  obtain ⟨_, T25, L25, X25, hQ25, st25⟩ := own_callS X22 hx hZ hown (y := y_9) (w_60 hw) (w_61 hw) (w_7 hw) (w_62 hw) (rm11 l Z a0 hw [] f2 p4 f7 p13 h0 n0 Z0) e22 (Ls := #[.val (.ref a1), .val (.int 1), .val (.float f2), .val (.long q3), .second, .val (.int p4), .val (.int 1), .val (.int 0)]) (by rw [hml]; rfl) (argsL := [(.float f2), (.int p4), (.float f7), (.int p13)]) (rest := []) (lenOf pd_8 rfl) (hb hby d8_33) (W := 0)
  obtain ⟨rfl, Nq25, e25⟩ := hQ25
  have N25 := Fr.app N0 Nq25
  obtain ⟨x26, ex26⟩ : ∃ z, z = (if (cmpValue (FP.fcmp f2 f7) .g) < (0 : Int32) then (1 : Int32) else (if (cmpValue (FP.fcmp f2 f7) .l) = (0 : Int32) then (if p4 < p13 then (1 : Int32) else (0 : Int32)) else (0 : Int32))) := ⟨_, rfl⟩
  obtain ⟨_, T30, L30, X30, hQ30, st30⟩ := own_private X25 hx hZ hown (y := y_5) E_a1 (w_52 hw) (w_53 hw) (Jvm.Kit.selects_private (by decide) (mvT hZ (w_6 hw)) (mvP hZ (w_54 hw)) (mvT hZ (w_53 hw))) (w_54 hw) (w_7 hw) (w_55 hw) (rm55 l Z a0 hw [] a1 f2 q3 p4 a5 f7 k8 a27 q28 k29 a11 p13 k14 h0 n0 Z0 F_scoresAsRead_a1 V_a5 g_a5 F_scores_a1 ne_a1_a5 V_a27 ne_a27_a5 g_a27 F_ordinals_a1 ne_a1_a27 V_a11 ne_a11_a5 ne_a11_a27 g_a11 E_a5 E_a27 E_a11) e25 (Ls := #[.val (.ref a1), .val (.int 1), .val (.float f2), .val (.long q3), .second, .val (.int p4), .val (.int 1), .val (.int 0)]) (by rw [hml]; rfl) (argsL := [(.int 1), (.float f2), (.long q3), (.int p4)]) (rest := []) (lenOf pd_5 rfl) (hb hby d8_64) (W := 0)
  obtain ⟨rfl, Nq30, K30, o30_0, o30_1, o30_2, o30_3, o30_4, o30_5⟩ := hQ30
  have N30 := Fr.app N25 Nq30
  have s0 := K30.1
  have Kp0 : Keep h0 T30.heap [a5, a27, a11] := (Keep.refl h0 [a5, a27, a11]).trans K30 (allS (Or.inl (List.mem_of_getElem? (i := 0) rfl)) (allS (Or.inl (List.mem_of_getElem? (i := 1) rfl)) (allS (Or.inl (List.mem_of_getElem? (i := 2) rfl)) all0)))
  refine ⟨T30, _, _, _, none, X30, (fun _ => rfl), by decide, by decide, ?_, fun fs hr => ?_⟩
  · subst ex26
    unfold Q59
    rw [show (if (if (cmpValue (FP.fcmp f2 f7) .g) < (0 : Int32) then (1 : Int32) else (if (cmpValue (FP.fcmp f2 f7) .l) = (0 : Int32) then (if p4 < p13 then (1 : Int32) else (0 : Int32)) else (0 : Int32))) = (0 : Int32) then f7 else f2) = f7 from by rw [if_pos cc1]]
    rw [show (if (if (cmpValue (FP.fcmp f2 f7) .g) < (0 : Int32) then (1 : Int32) else (if (cmpValue (FP.fcmp f2 f7) .l) = (0 : Int32) then (if p4 < p13 then (1 : Int32) else (0 : Int32)) else (0 : Int32))) = (0 : Int32) then f2 else f7) = f2 from by rw [if_pos cc1]]
    rw [show (if (if (cmpValue (FP.fcmp f2 f7) .g) < (0 : Int32) then (1 : Int32) else (if (cmpValue (FP.fcmp f2 f7) .l) = (0 : Int32) then (if p4 < p13 then (1 : Int32) else (0 : Int32)) else (0 : Int32))) = (0 : Int32) then q28 else q3) = q28 from by rw [if_pos cc1]]
    rw [show (if (if (cmpValue (FP.fcmp f2 f7) .g) < (0 : Int32) then (1 : Int32) else (if (cmpValue (FP.fcmp f2 f7) .l) = (0 : Int32) then (if p4 < p13 then (1 : Int32) else (0 : Int32)) else (0 : Int32))) = (0 : Int32) then q3 else q28) = q3 from by rw [if_pos cc1]]
    rw [show (if (if (cmpValue (FP.fcmp f2 f7) .g) < (0 : Int32) then (1 : Int32) else (if (cmpValue (FP.fcmp f2 f7) .l) = (0 : Int32) then (if p4 < p13 then (1 : Int32) else (0 : Int32)) else (0 : Int32))) = (0 : Int32) then p13 else p4) = p13 from by rw [if_pos cc1]]
    rw [show (if (if (cmpValue (FP.fcmp f2 f7) .g) < (0 : Int32) then (1 : Int32) else (if (cmpValue (FP.fcmp f2 f7) .l) = (0 : Int32) then (if p4 < p13 then (1 : Int32) else (0 : Int32)) else (0 : Int32))) = (0 : Int32) then p4 else p13) = p4 from by rw [if_pos cc1]]
    exact ⟨rfl, N30, Kp0, o30_0, o30_1, o30_2, o30_3, o30_4, o30_5⟩
  · refine XS.iloadN X0.here hx rfl (hb hby d8_0) rfl ?_
    refine XS.istore X0.here hx rfl (hb hby d8_1) rfl (l' := #[.val (.ref a1), .val (.int 1), .val (.float f2), .val (.long q3), .second, .val (.int p4), .val (.int 1), .unset]) rfl ?_
    refine XS.iload X0.here hx rfl (hb hby d8_3) rfl ?_
    refine XS.ifNo X0.here hx rfl (hb hby d8_5) rfl ((if0 _ _).trans (tlt ((by decide : (0 : Int32) < (1 : Int32)) : (0 : Int32) < (1 : Int32))).2.2.2) ?_
    refine XS.iload X0.here hx rfl (hb hby d8_8) rfl ?_
    refine XS.iconst X0.here hx rfl (hb hby d8_10) ?_
    refine XS.isub X0.here hx rfl (hb hby d8_11) rfl ?_
    refine XS.iconst X0.here hx rfl (hb hby d8_12) ?_
    refine XS.idiv X0.here hx rfl (hb hby d8_13) rfl (by decide : ¬ ((2 : Int32) = (0 : Int32))) ?_
    refine XS.istore X0.here hx rfl (hb hby d8_14) rfl (l' := #[.val (.ref a1), .val (.int 1), .val (.float f2), .val (.long q3), .second, .val (.int p4), .val (.int 1), .val (.int 0)]) rfl ?_
    refine XS.floadN X0.here hx rfl (hb hby d8_16) rfl ?_
    refine XS.iload X0.here hx rfl (hb hby d8_17) rfl ?_
    refine XS.aloadN X0.here hx rfl (hb hby d8_19) rfl rfl ?_
    refine st19 _ ?_
    refine XS.iload X19.here hx rfl (hb hby d8_23) rfl ?_
    refine X19.faload hx (j := (0 : Int32)) (v := (.float f7)) (by rw [e19]; exact Ar20.1) (State.isArrayOf_alike hZ.alike Ar20.2.1) Ar20.2.2 hin21 (Has.at Hs20 hin21 rfl) (g := (mkF m 25 #[.val (.ref a1), .val (.int 1), .val (.float f2), .val (.long q3), .second, .val (.int p4), .val (.int 1), .val (.int 0)] [(.int 0), (.ref a5), (.int p4), (.float f2)])) rfl rfl (hb hby d8_25) _ ?_
    refine XS.aloadN X19.here hx rfl (hb hby d8_26) rfl rfl ?_
    refine st22 _ ?_
    refine XS.iload X22.here hx rfl (hb hby d8_30) rfl ?_
    refine X22.iaload hx (j := (0 : Int32)) (v := (.int p13)) (by rw [e22]; exact Ar23.1) (State.isArrayOf_alike hZ.alike Ar23.2.1) Ar23.2.2 hin24 (Has.at Hs23 hin24 rfl) (g := (mkF m 32 #[.val (.ref a1), .val (.int 1), .val (.float f2), .val (.long q3), .second, .val (.int p4), .val (.int 1), .val (.int 0)] [(.int 0), (.ref a11), (.float f7), (.int p4), (.float f2)])) rfl rfl (hb hby d8_32) _ ?_
    refine st25 _ ?_
    show Steps p.tables e below (T25.setTop (mkF m 36 #[.val (.ref a1), .val (.int 1), .val (.float f2), .val (.long q3), .second, .val (.int p4), .val (.int 1), .val (.int 0)] [(.int (if (cmpValue (FP.fcmp f2 f7) .g) < (0 : Int32) then (1 : Int32) else (if (cmpValue (FP.fcmp f2 f7) .l) = (0 : Int32) then (if p4 < p13 then (1 : Int32) else (0 : Int32)) else (0 : Int32))))])) _
    rw [← ex26]
    refine XS.ifNo X25.here hx rfl (hb hby d8_36) rfl ((if0 _ _).trans (teq ((by rw [ex26]; exact cc1) : x26 = (0 : Int32))).2) ?_
    refine XS.goto X25.here hx rfl (pc0 := 39) (pc' := 57) rfl (hb hby d8_39) (by decide) (by decide) ?_
    refine XS.aloadN X25.here hx rfl (hb hby d8_57) rfl rfl ?_
    refine XS.iload X25.here hx rfl (hb hby d8_58) rfl ?_
    refine XS.floadN X25.here hx rfl (hb hby d8_60) rfl ?_
    refine XS.lloadN X25.here hx rfl (hb hby d8_61) rfl ?_
    refine XS.iload X25.here hx rfl (hb hby d8_62) rfl ?_
    refine st30 _ ?_
    exact X30.returnOut hx hret (hb hby d8_67) hr
theorem rm59_1 (l : Launch) (Z : State) (a0 : Array Value) (hw : HW a0 Z) (ws : List Jvm.Cond) (a1 : Addr) (f2 : UInt32) (q3 : Int64) (p4 : Int32) (a5 : Addr) (f7 : UInt32) (k8 : ClassId) (a11 : Addr) (p13 : Int32) (k14 : ClassId) (a27 : Addr) (q28 : Int64) (k29 : ClassId) (h0 : Heap) (n0 : Nat) (Z0 : n0 ≤ h0.size) (F_scoresAsRead_a1 : Fld Z h0 a1 kT "scoresAsRead" "[F" (.ref a5)) (V_a5 : Arv Z h0 a5 k8 .float (3 : Int32) [(.float f7), (.float 0), (.float 0)] (.float 0)) (F_ordinals_a1 : Fld Z h0 a1 kT "ordinals" "[I" (.ref a11)) (V_a11 : Arv Z h0 a11 k14 .int (3 : Int32) [(.int p13), (.int 0), (.int 0)] (.int 0)) (g_a5 : n0 ≤ a5) (F_scores_a1 : Fld Z h0 a1 kT "scores" "[J" (.ref a27)) (ne_a1_a5 : a1 ≠ a5) (V_a27 : Arv Z h0 a27 k29 .long (3 : Int32) [(.long q28), (.long 0), (.long 0)] (.long 0)) (ne_a27_a5 : a27 ≠ a5) (g_a27 : n0 ≤ a27) (ne_a1_a27 : a1 ≠ a27) (ne_a11_a5 : a11 ≠ a5) (ne_a11_a27 : a11 ≠ a27) (g_a11 : n0 ≤ a11) (E_a5 : Exa Z h0 a5 "[F") (E_a27 : Exa Z h0 a27 "[J") (E_a11 : Exa Z h0 a11 "[I") (E_a1 : Exa Z h0 a1 kT) (ne_a1_a11 : a1 ≠ a11) (cc1 : ¬ ((if (cmpValue (FP.fcmp f2 f7) .g) < (0 : Int32) then (1 : Int32) else (if (cmpValue (FP.fcmp f2 f7) .l) = (0 : Int32) then (if p4 < p13 then (1 : Int32) else (0 : Int32)) else (0 : Int32))) = (0 : Int32))) :
    OwnMet l Z y_6 prog_25_method_8_code 8 none ws Rm59 #[(.ref a1), (.int 1), (.float f2), (.long q3), (.int p4)] h0 (Q59 Z a1 f2 q3 p4 a5 f7 k8 a11 p13 k14 a27 q28 k29 h0 n0) := by
  refine own_body (plainFor_of_name pn_1) (ef_281084 a1 f2 q3 p4) ?_
  intro p e s m below meth c s₁ hx hby hml hown hnm hret hZ X0 e0
  have N0 := Fr.nil n0
  obtain ⟨T31, X31, e31, st31⟩ := getF X0 hx hZ hown (host := "") (Or.inl (w_21 hw)) Via.refl e0 F_scoresAsRead_a1 (g := (mkF m 20 #[.val (.ref a1), .val (.int 1), .val (.float f2), .val (.long q3), .second, .val (.int p4), .val (.int 1), .val (.int 0)] [(.ref a1), (.int p4), (.float f2)])) rfl rfl (hb hby d8_20)
  obtain ⟨cl32, Ar32, q32, S32, M32, Hs32, G32⟩ := id V_a5
  have hin33 : ¬ ((0 : Int32) < 0 ∨ cl32.slots.size ≤ ((0 : Int32)).toNatClampNeg) := inb_of S32 ⟨(by decide : ¬ ((0 : Int32) < (0 : Int32))), (by decide : (0 : Int32) < (3 : Int32))⟩
  obtain ⟨T34, X34, e34, st34⟩ := getF X31 hx hZ hown (host := "") (Or.inl (w_27 hw)) Via.refl e31 F_ordinals_a1 (g := (mkF m 27 #[.val (.ref a1), .val (.int 1), .val (.float f2), .val (.long q3), .second, .val (.int p4), .val (.int 1), .val (.int 0)] [(.ref a1), (.float f7), (.int p4), (.float f2)])) rfl rfl (hb hby d8_27)
  obtain ⟨cl35, Ar35, q35, S35, M35, Hs35, G35⟩ := id V_a11
  have hin36 : ¬ ((0 : Int32) < 0 ∨ cl35.slots.size ≤ ((0 : Int32)).toNatClampNeg) := inb_of S35 ⟨(by decide : ¬ ((0 : Int32) < (0 : Int32))), (by decide : (0 : Int32) < (3 : Int32))⟩
  obtain ⟨_, T37, L37, X37, hQ37, st37⟩ := own_callS X34 hx hZ hown (y := y_9) (w_60 hw) (w_61 hw) (w_7 hw) (w_62 hw) (rm11 l Z a0 hw [] f2 p4 f7 p13 h0 n0 Z0) e34 (Ls := #[.val (.ref a1), .val (.int 1), .val (.float f2), .val (.long q3), .second, .val (.int p4), .val (.int 1), .val (.int 0)]) (by rw [hml]; rfl) (argsL := [(.float f2), (.int p4), (.float f7), (.int p13)]) (rest := []) (lenOf pd_8 rfl) (hb hby d8_33) (W := 0)
  obtain ⟨rfl, Nq37, e37⟩ := hQ37
  have N37 := Fr.app N0 Nq37
  obtain ⟨x38, ex38⟩ : ∃ z, z = (if (cmpValue (FP.fcmp f2 f7) .g) < (0 : Int32) then (1 : Int32) else (if (cmpValue (FP.fcmp f2 f7) .l) = (0 : Int32) then (if p4 < p13 then (1 : Int32) else (0 : Int32)) else (0 : Int32))) := ⟨_, rfl⟩
  obtain ⟨_, T39, L39, X39, hQ39, st39⟩ := own_private X37 hx hZ hown (y := y_12) E_a1 (w_66 hw) (w_67 hw) (Jvm.Kit.selects_private (by decide) (mvT hZ (w_6 hw)) (mvP hZ (w_68 hw)) (mvT hZ (w_67 hw))) (w_68 hw) (w_7 hw) (w_69 hw) (rm57 l Z a0 hw [] a1 a5 f7 k8 a27 q28 k29 a11 p13 k14 h0 n0 Z0 F_scoresAsRead_a1 V_a5 F_scores_a1 V_a27 F_ordinals_a1 V_a11 g_a5 ne_a1_a5 ne_a27_a5 g_a27 ne_a1_a27 ne_a11_a5 ne_a11_a27 g_a11 E_a5 E_a27 E_a11 E_a1) e37 (Ls := #[.val (.ref a1), .val (.int 1), .val (.float f2), .val (.long q3), .second, .val (.int p4), .val (.int 1), .val (.int 0)]) (by rw [hml]; rfl) (argsL := [(.int 0), (.int 1)]) (rest := []) (lenOf pd_11 rfl) (hb hby d8_47) (W := 0)
  obtain ⟨rfl, Nq39, K39, o39_0, o39_1, o39_2, o39_3, o39_4, o39_5⟩ := hQ39
  have N39 := Fr.app N37 Nq39
  have s0 := K39.1
  have Fl40 := (F_scoresAsRead_a1.keep K39 (ninS ne_a1_a5 (ninS ne_a1_a27 (ninS ne_a1_a11 nin0))))
  have Fl41 := (F_scores_a1.keep K39 (ninS ne_a1_a5 (ninS ne_a1_a27 (ninS ne_a1_a11 nin0))))
  have Fl42 := (F_ordinals_a1.keep K39 (ninS ne_a1_a5 (ninS ne_a1_a27 (ninS ne_a1_a11 nin0))))
  have z1 := Nat.le_trans Z0 s0
  have Ex44 := (E_a1.keep K39)
  obtain ⟨_, T43, L43, X43, hQ43, st43⟩ := own_private X39 hx hZ hown (y := y_5) Ex44 (w_52 hw) (w_53 hw) (Jvm.Kit.selects_private (by decide) (mvT hZ (w_6 hw)) (mvP hZ (w_54 hw)) (mvT hZ (w_53 hw))) (w_54 hw) (w_7 hw) (w_55 hw) (rm58 l Z a0 hw [] a1 f2 q3 p4 a5 f7 k8 a27 q28 k29 a11 p13 k14 T39.heap n0 z1 Fl40 o39_1 g_a5 Fl41 ne_a1_a5 o39_3 ne_a27_a5 g_a27 Fl42 ne_a1_a27 o39_5 ne_a11_a5 ne_a11_a27 g_a11 o39_0 o39_2 o39_4) rfl (Ls := #[.val (.ref a1), .val (.int 1), .val (.float f2), .val (.long q3), .second, .val (.int p4), .val (.int 0), .val (.int 0)]) (by rw [hml]; rfl) (argsL := [(.int 0), (.float f2), (.long q3), (.int p4)]) (rest := []) (lenOf pd_5 rfl) (hb hby d8_64) (W := 0)
  obtain ⟨rfl, Nq43, K43, o43_0, o43_1, o43_2, o43_3, o43_4, o43_5⟩ := hQ43
  have N43 := Fr.app N39 Nq43
  have s1 := K43.1
  have Kp0 : Keep h0 T39.heap [a5, a27, a11] := (Keep.refl h0 [a5, a27, a11]).trans K39 (allS (Or.inl (List.mem_of_getElem? (i := 0) rfl)) (allS (Or.inl (List.mem_of_getElem? (i := 1) rfl)) (allS (Or.inl (List.mem_of_getElem? (i := 2) rfl)) all0)))
  have Kp1 : Keep h0 T43.heap [a5, a27, a11] := Kp0.trans K43 (allS (Or.inl (List.mem_of_getElem? (i := 0) rfl)) (allS (Or.inl (List.mem_of_getElem? (i := 1) rfl)) (allS (Or.inl (List.mem_of_getElem? (i := 2) rfl)) all0)))
  refine ⟨T43, _, _, _, none, X43, (fun _ => rfl), by decide, by decide, ?_, fun fs hr => ?_⟩
  · subst ex38
    unfold Q59
    rw [show (if (if (cmpValue (FP.fcmp f2 f7) .g) < (0 : Int32) then (1 : Int32) else (if (cmpValue (FP.fcmp f2 f7) .l) = (0 : Int32) then (if p4 < p13 then (1 : Int32) else (0 : Int32)) else (0 : Int32))) = (0 : Int32) then f7 else f2) = f2 from by rw [if_neg cc1]]
    rw [show (if (if (cmpValue (FP.fcmp f2 f7) .g) < (0 : Int32) then (1 : Int32) else (if (cmpValue (FP.fcmp f2 f7) .l) = (0 : Int32) then (if p4 < p13 then (1 : Int32) else (0 : Int32)) else (0 : Int32))) = (0 : Int32) then f2 else f7) = f7 from by rw [if_neg cc1]]
    rw [show (if (if (cmpValue (FP.fcmp f2 f7) .g) < (0 : Int32) then (1 : Int32) else (if (cmpValue (FP.fcmp f2 f7) .l) = (0 : Int32) then (if p4 < p13 then (1 : Int32) else (0 : Int32)) else (0 : Int32))) = (0 : Int32) then q28 else q3) = q3 from by rw [if_neg cc1]]
    rw [show (if (if (cmpValue (FP.fcmp f2 f7) .g) < (0 : Int32) then (1 : Int32) else (if (cmpValue (FP.fcmp f2 f7) .l) = (0 : Int32) then (if p4 < p13 then (1 : Int32) else (0 : Int32)) else (0 : Int32))) = (0 : Int32) then q3 else q28) = q28 from by rw [if_neg cc1]]
    rw [show (if (if (cmpValue (FP.fcmp f2 f7) .g) < (0 : Int32) then (1 : Int32) else (if (cmpValue (FP.fcmp f2 f7) .l) = (0 : Int32) then (if p4 < p13 then (1 : Int32) else (0 : Int32)) else (0 : Int32))) = (0 : Int32) then p13 else p4) = p4 from by rw [if_neg cc1]]
    rw [show (if (if (cmpValue (FP.fcmp f2 f7) .g) < (0 : Int32) then (1 : Int32) else (if (cmpValue (FP.fcmp f2 f7) .l) = (0 : Int32) then (if p4 < p13 then (1 : Int32) else (0 : Int32)) else (0 : Int32))) = (0 : Int32) then p4 else p13) = p13 from by rw [if_neg cc1]]
    exact ⟨rfl, N43, Kp1, o43_0, o43_1, o43_2, o43_3, o43_4, o43_5⟩
  · refine XS.iloadN X0.here hx rfl (hb hby d8_0) rfl ?_
    refine XS.istore X0.here hx rfl (hb hby d8_1) rfl (l' := #[.val (.ref a1), .val (.int 1), .val (.float f2), .val (.long q3), .second, .val (.int p4), .val (.int 1), .unset]) rfl ?_
    refine XS.iload X0.here hx rfl (hb hby d8_3) rfl ?_
    refine XS.ifNo X0.here hx rfl (hb hby d8_5) rfl ((if0 _ _).trans (tlt ((by decide : (0 : Int32) < (1 : Int32)) : (0 : Int32) < (1 : Int32))).2.2.2) ?_
    refine XS.iload X0.here hx rfl (hb hby d8_8) rfl ?_
    refine XS.iconst X0.here hx rfl (hb hby d8_10) ?_
    refine XS.isub X0.here hx rfl (hb hby d8_11) rfl ?_
    refine XS.iconst X0.here hx rfl (hb hby d8_12) ?_
    refine XS.idiv X0.here hx rfl (hb hby d8_13) rfl (by decide : ¬ ((2 : Int32) = (0 : Int32))) ?_
    refine XS.istore X0.here hx rfl (hb hby d8_14) rfl (l' := #[.val (.ref a1), .val (.int 1), .val (.float f2), .val (.long q3), .second, .val (.int p4), .val (.int 1), .val (.int 0)]) rfl ?_
    refine XS.floadN X0.here hx rfl (hb hby d8_16) rfl ?_
    refine XS.iload X0.here hx rfl (hb hby d8_17) rfl ?_
    refine XS.aloadN X0.here hx rfl (hb hby d8_19) rfl rfl ?_
    refine st31 _ ?_
    refine XS.iload X31.here hx rfl (hb hby d8_23) rfl ?_
    refine X31.faload hx (j := (0 : Int32)) (v := (.float f7)) (by rw [e31]; exact Ar32.1) (State.isArrayOf_alike hZ.alike Ar32.2.1) Ar32.2.2 hin33 (Has.at Hs32 hin33 rfl) (g := (mkF m 25 #[.val (.ref a1), .val (.int 1), .val (.float f2), .val (.long q3), .second, .val (.int p4), .val (.int 1), .val (.int 0)] [(.int 0), (.ref a5), (.int p4), (.float f2)])) rfl rfl (hb hby d8_25) _ ?_
    refine XS.aloadN X31.here hx rfl (hb hby d8_26) rfl rfl ?_
    refine st34 _ ?_
    refine XS.iload X34.here hx rfl (hb hby d8_30) rfl ?_
    refine X34.iaload hx (j := (0 : Int32)) (v := (.int p13)) (by rw [e34]; exact Ar35.1) (State.isArrayOf_alike hZ.alike Ar35.2.1) Ar35.2.2 hin36 (Has.at Hs35 hin36 rfl) (g := (mkF m 32 #[.val (.ref a1), .val (.int 1), .val (.float f2), .val (.long q3), .second, .val (.int p4), .val (.int 1), .val (.int 0)] [(.int 0), (.ref a11), (.float f7), (.int p4), (.float f2)])) rfl rfl (hb hby d8_32) _ ?_
    refine st37 _ ?_
    show Steps p.tables e below (T37.setTop (mkF m 36 #[.val (.ref a1), .val (.int 1), .val (.float f2), .val (.long q3), .second, .val (.int p4), .val (.int 1), .val (.int 0)] [(.int (if (cmpValue (FP.fcmp f2 f7) .g) < (0 : Int32) then (1 : Int32) else (if (cmpValue (FP.fcmp f2 f7) .l) = (0 : Int32) then (if p4 < p13 then (1 : Int32) else (0 : Int32)) else (0 : Int32))))])) _
    rw [← ex38]
    refine XS.ifYes X37.here hx rfl (pc0 := 36) (pc' := 42) rfl (hb hby d8_36) rfl ((if0 _ _).trans (feq ((by rw [ex38]; exact cc1) : ¬ (x38 = (0 : Int32)))).2) (by decide) (by decide) ?_
    refine XS.aloadN X37.here hx rfl (hb hby d8_42) rfl rfl ?_
    refine XS.iload X37.here hx rfl (hb hby d8_43) rfl ?_
    refine XS.iload X37.here hx rfl (hb hby d8_45) rfl ?_
    refine st39 _ ?_
    refine XS.iload X39.here hx rfl (hb hby d8_50) rfl ?_
    refine XS.istore X39.here hx rfl (hb hby d8_52) rfl (l' := #[.val (.ref a1), .val (.int 1), .val (.float f2), .val (.long q3), .second, .val (.int p4), .val (.int 0), .val (.int 0)]) rfl ?_
    refine XS.goto X39.here hx rfl (pc0 := 54) (pc' := 3) rfl (hb hby d8_54) (by decide) (by decide) ?_
    refine XS.iload X39.here hx rfl (hb hby d8_3) rfl ?_
    refine XS.ifYes X39.here hx rfl (pc0 := 5) (pc' := 57) rfl (hb hby d8_5) rfl ((if0 _ _).trans (flt ((by decide : ¬ ((0 : Int32) < (0 : Int32))) : ¬ ((0 : Int32) < (0 : Int32)))).2.2.2) (by decide) (by decide) ?_
    refine XS.aloadN X39.here hx rfl (hb hby d8_57) rfl rfl ?_
    refine XS.iload X39.here hx rfl (hb hby d8_58) rfl ?_
    refine XS.floadN X39.here hx rfl (hb hby d8_60) rfl ?_
    refine XS.lloadN X39.here hx rfl (hb hby d8_61) rfl ?_
    refine XS.iload X39.here hx rfl (hb hby d8_62) rfl ?_
    refine st43 _ ?_
    exact X43.returnOut hx hret (hb hby d8_67) hr
theorem rm59 (l : Launch) (Z : State) (a0 : Array Value) (hw : HW a0 Z) (ws : List Jvm.Cond) (a1 : Addr) (f2 : UInt32) (q3 : Int64) (p4 : Int32) (a5 : Addr) (f7 : UInt32) (k8 : ClassId) (a11 : Addr) (p13 : Int32) (k14 : ClassId) (a27 : Addr) (q28 : Int64) (k29 : ClassId) (h0 : Heap) (n0 : Nat) (Z0 : n0 ≤ h0.size) (F_scoresAsRead_a1 : Fld Z h0 a1 kT "scoresAsRead" "[F" (.ref a5)) (V_a5 : Arv Z h0 a5 k8 .float (3 : Int32) [(.float f7), (.float 0), (.float 0)] (.float 0)) (F_ordinals_a1 : Fld Z h0 a1 kT "ordinals" "[I" (.ref a11)) (V_a11 : Arv Z h0 a11 k14 .int (3 : Int32) [(.int p13), (.int 0), (.int 0)] (.int 0)) (g_a5 : n0 ≤ a5) (F_scores_a1 : Fld Z h0 a1 kT "scores" "[J" (.ref a27)) (ne_a1_a5 : a1 ≠ a5) (V_a27 : Arv Z h0 a27 k29 .long (3 : Int32) [(.long q28), (.long 0), (.long 0)] (.long 0)) (ne_a27_a5 : a27 ≠ a5) (g_a27 : n0 ≤ a27) (ne_a1_a27 : a1 ≠ a27) (ne_a11_a5 : a11 ≠ a5) (ne_a11_a27 : a11 ≠ a27) (g_a11 : n0 ≤ a11) (E_a5 : Exa Z h0 a5 "[F") (E_a27 : Exa Z h0 a27 "[J") (E_a11 : Exa Z h0 a11 "[I") (E_a1 : Exa Z h0 a1 kT) (ne_a1_a11 : a1 ≠ a11) :
    OwnMet l Z y_6 prog_25_method_8_code 8 none ws Rm59 #[(.ref a1), (.int 1), (.float f2), (.long q3), (.int p4)] h0 (Q59 Z a1 f2 q3 p4 a5 f7 k8 a11 p13 k14 a27 q28 k29 h0 n0) := by
  by_cases cc1 : (if (cmpValue (FP.fcmp f2 f7) .g) < (0 : Int32) then (1 : Int32) else (if (cmpValue (FP.fcmp f2 f7) .l) = (0 : Int32) then (if p4 < p13 then (1 : Int32) else (0 : Int32)) else (0 : Int32))) = (0 : Int32)
  · exact rm59_0 l Z a0 hw ws a1 f2 q3 p4 a5 f7 k8 a11 p13 k14 a27 q28 k29 h0 n0 Z0 F_scoresAsRead_a1 V_a5 F_ordinals_a1 V_a11 g_a5 F_scores_a1 ne_a1_a5 V_a27 ne_a27_a5 g_a27 ne_a1_a27 ne_a11_a5 ne_a11_a27 g_a11 E_a5 E_a27 E_a11 E_a1 ne_a1_a11 cc1
  · exact rm59_1 l Z a0 hw ws a1 f2 q3 p4 a5 f7 k8 a11 p13 k14 a27 q28 k29 h0 n0 Z0 F_scoresAsRead_a1 V_a5 F_ordinals_a1 V_a11 g_a5 F_scores_a1 ne_a1_a5 V_a27 ne_a27_a5 g_a27 ne_a1_a27 ne_a11_a5 ne_a11_a27 g_a11 E_a5 E_a27 E_a11 E_a1 ne_a1_a11 cc1
-- com/example/senret/senret/TopSentences.offer(JI)V
abbrev Rm60 : Room := { frames := 3, cells := 0, slots := 0, locals := 50 }
def Q60 (Z : State) (a1 : Addr) (q2 : Int64) (p3 : Int32) (a7 : Addr) (q8 : Int64) (k9 : ClassId) (a14 : Addr) (f17 : UInt32) (k18 : ClassId) (a20 : Addr) (p22 : Int32) (k23 : ClassId) (h0 : Heap) (n0 : Nat) (v : Option Value) (h : Heap) (L : List Loc) : Prop := v = none ∧ Fr n0 L ∧ Keep h0 h [a1, a14, a7, a20] ∧ Exa Z h a1 kT ∧ Fld Z h a1 kT "depth" "I" (.int 3) ∧ Fld Z h a1 kT "ordinals" "[I" (.ref a20) ∧ Fld Z h a1 kT "scores" "[J" (.ref a7) ∧ Fld Z h a1 kT "scoresAsRead" "[F" (.ref a14) ∧ Fld Z h a1 kT "size" "I" (.int 2) ∧ Exa Z h a14 "[F" ∧ Arv Z h a14 k18 .float (3 : Int32) [(.float (if (if (cmpValue (FP.fcmp (sC q2) f17) .g) < (0 : Int32) then (1 : Int32) else (if (cmpValue (FP.fcmp (sC q2) f17) .l) = (0 : Int32) then (if p3 < p22 then (1 : Int32) else (0 : Int32)) else (0 : Int32))) = (0 : Int32) then f17 else (sC q2))), (.float (if (if (cmpValue (FP.fcmp (sC q2) f17) .g) < (0 : Int32) then (1 : Int32) else (if (cmpValue (FP.fcmp (sC q2) f17) .l) = (0 : Int32) then (if p3 < p22 then (1 : Int32) else (0 : Int32)) else (0 : Int32))) = (0 : Int32) then (sC q2) else f17)), (.float 0)] (.float 0) ∧ Exa Z h a7 "[J" ∧ Arv Z h a7 k9 .long (3 : Int32) [(.long (if (if (cmpValue (FP.fcmp (sC q2) f17) .g) < (0 : Int32) then (1 : Int32) else (if (cmpValue (FP.fcmp (sC q2) f17) .l) = (0 : Int32) then (if p3 < p22 then (1 : Int32) else (0 : Int32)) else (0 : Int32))) = (0 : Int32) then q8 else q2)), (.long (if (if (cmpValue (FP.fcmp (sC q2) f17) .g) < (0 : Int32) then (1 : Int32) else (if (cmpValue (FP.fcmp (sC q2) f17) .l) = (0 : Int32) then (if p3 < p22 then (1 : Int32) else (0 : Int32)) else (0 : Int32))) = (0 : Int32) then q2 else q8)), (.long 0)] (.long 0) ∧ Exa Z h a20 "[I" ∧ Arv Z h a20 k23 .int (3 : Int32) [(.int (if (if (cmpValue (FP.fcmp (sC q2) f17) .g) < (0 : Int32) then (1 : Int32) else (if (cmpValue (FP.fcmp (sC q2) f17) .l) = (0 : Int32) then (if p3 < p22 then (1 : Int32) else (0 : Int32)) else (0 : Int32))) = (0 : Int32) then p22 else p3)), (.int (if (if (cmpValue (FP.fcmp (sC q2) f17) .g) < (0 : Int32) then (1 : Int32) else (if (cmpValue (FP.fcmp (sC q2) f17) .l) = (0 : Int32) then (if p3 < p22 then (1 : Int32) else (0 : Int32)) else (0 : Int32))) = (0 : Int32) then p3 else p22)), (.int 0)] (.int 0)
-- ef_8cdad2
theorem rm60 (l : Launch) (Z : State) (a0 : Array Value) (hw : HW a0 Z) (ws : List Jvm.Cond) (a1 : Addr) (q2 : Int64) (p3 : Int32) (a7 : Addr) (q8 : Int64) (k9 : ClassId) (a14 : Addr) (f17 : UInt32) (k18 : ClassId) (a20 : Addr) (p22 : Int32) (k23 : ClassId) (h0 : Heap) (n0 : Nat) (Z0 : n0 ≤ h0.size) (F_size_a1 : Fld Z h0 a1 kT "size" "I" (.int 1)) (F_depth_a1 : Fld Z h0 a1 kT "depth" "I" (.int 3)) (F_scores_a1 : Fld Z h0 a1 kT "scores" "[J" (.ref a7)) (V_a7 : Arv Z h0 a7 k9 .long (3 : Int32) [(.long q8), (.long 0), (.long 0)] (.long 0)) (E_a1 : Exa Z h0 a1 kT) (g_a1 : n0 ≤ a1) (F_scoresAsRead_a1 : Fld Z h0 a1 kT "scoresAsRead" "[F" (.ref a14)) (V_a14 : Arv Z h0 a14 k18 .float (3 : Int32) [(.float f17), (.float 0), (.float 0)] (.float 0)) (ne_a14_a1 : a14 ≠ a1) (F_ordinals_a1 : Fld Z h0 a1 kT "ordinals" "[I" (.ref a20)) (V_a20 : Arv Z h0 a20 k23 .int (3 : Int32) [(.int p22), (.int 0), (.int 0)] (.int 0)) (ne_a20_a1 : a20 ≠ a1) (g_a14 : n0 ≤ a14) (ne_a7_a1 : a7 ≠ a1) (ne_a7_a14 : a7 ≠ a14) (g_a7 : n0 ≤ a7) (ne_a20_a14 : a20 ≠ a14) (ne_a20_a7 : a20 ≠ a7) (g_a20 : n0 ≤ a20) (E_a14 : Exa Z h0 a14 "[F") (E_a7 : Exa Z h0 a7 "[J") (E_a20 : Exa Z h0 a20 "[I") :
    OwnMet l Z y_7 prog_25_method_4_code 5 none ws Rm60 #[(.ref a1), (.long q2), (.int p3)] h0 (Q60 Z a1 q2 p3 a7 q8 k9 a14 f17 k18 a20 p22 k23 h0 n0) := by
  refine own_body (plainFor_of_name pn_1) (ef_8cdad2 a1 q2 p3) ?_
  intro p e s m below meth c s₁ hx hby hml hown hnm hret hZ X0 e0
  have N0 := Fr.nil n0
  obtain ⟨_, T4, L4, X4, hQ4, st4⟩ := own_callS X0 hx hZ hown (y := y_0) (w_43 hw) (w_1 hw) (w_2 hw) (w_3 hw) (rm1 l Z a0 hw [] q2 h0 n0 Z0) e0 (Ls := #[.val (.ref a1), .val (.long q2), .second, .val (.int p3), .unset]) (by rw [hml]; rfl) (argsL := [(.long q2)]) (rest := []) (lenOf pd_0 rfl) (hb hby d6_1) (W := 0)
  obtain ⟨rfl, Nq4, e4⟩ := hQ4
  have N4 := Fr.app N0 Nq4
  obtain ⟨T5, X5, e5, st5⟩ := getF X4 hx hZ hown (host := "") (Or.inl (w_34 hw)) Via.refl e4 F_size_a1 (g := (mkF m 7 #[.val (.ref a1), .val (.long q2), .second, .val (.int p3), .val (.float (sC q2))] [(.ref a1)])) rfl rfl (hb hby d6_7)
  obtain ⟨T6, X6, e6, st6⟩ := getF X5 hx hZ hown (host := "") (Or.inl (w_14 hw)) Via.refl e5 F_depth_a1 (g := (mkF m 11 #[.val (.ref a1), .val (.long q2), .second, .val (.int p3), .val (.float (sC q2))] [(.ref a1), (.int 1)])) rfl rfl (hb hby d6_11)
  obtain ⟨_, T10, L10, X10, hQ10, st10⟩ := own_private X6 hx hZ hown (y := y_4) E_a1 (w_44 hw) (w_45 hw) (Jvm.Kit.selects_private (by decide) (mvT hZ (w_6 hw)) (mvP hZ (w_46 hw)) (mvT hZ (w_45 hw))) (w_46 hw) (w_7 hw) (w_47 hw) (rm54 l Z a0 hw [] a1 a7 q8 k9 h0 n0 Z0 F_size_a1 F_scores_a1 V_a7) e6 (Ls := #[.val (.ref a1), .val (.long q2), .second, .val (.int p3), .val (.float (sC q2))]) (by rw [hml]; rfl) (argsL := []) (rest := []) (lenOf pd_4 rfl) (hb hby d6_18) (W := 0)
  obtain ⟨rfl, Nq10, e10⟩ := hQ10
  have N10 := Fr.app N4 Nq10
  obtain ⟨T11, X11, e11, st11⟩ := getF X10 hx hZ hown (host := "") (Or.inl (w_34 hw)) Via.refl e10 F_size_a1 (g := (mkF m 23 #[.val (.ref a1), .val (.long q2), .second, .val (.int p3), .val (.float (sC q2))] [(.ref a1), (.ref a1)])) rfl rfl (hb hby d6_23)
  obtain ⟨T12, h12, X12, e12, W12, st12⟩ := putF X11 hx hZ hown (host := "") (Or.inl (w_34 hw)) Via.refl e11 F_size_a1 E_a1 (Or.inl (w_35 hw)) (w_6 hw) (ty := .int) (by decide) rfl rfl (g := (mkF m 28 #[.val (.ref a1), .val (.long q2), .second, .val (.int p3), .val (.float (sC q2))] [(.int 2), (.ref a1)])) rfl rfl (hb hby d6_28)
  have s0 := (Keep.of_wr W12).1
  have N12 := Fr.snoc X12 N10 g_a1
  have Fw12 : Fld Z h12 a1 kT "size" "I" (.int 2) := F_size_a1.same W12
  obtain ⟨T13, X13, e13, st13⟩ := getF X12 hx hZ hown (host := "") (Or.inl (w_34 hw)) Via.refl e12 Fw12 (g := (mkF m 33 #[.val (.ref a1), .val (.long q2), .second, .val (.int p3), .val (.float (sC q2))] [(.ref a1), (.ref a1)])) rfl rfl (hb hby d6_33)
  have Ex15 := (E_a1.wr W12)
  have Fl16 := (F_scoresAsRead_a1.other W12 (Or.inr (slot_ne (Or.inl (w_22 hw)) (Or.inl (w_35 hw)) (by decide) (t := (.array .float)) (t' := .int) (by decide) (by decide))))
  have Va19 := (V_a14.other W12 ne_a14_a1)
  have Fl21 := (F_ordinals_a1.other W12 (Or.inr (slot_ne (Or.inl (w_28 hw)) (Or.inl (w_35 hw)) (by decide) (t := (.array .int)) (t' := .int) (by decide) (by decide))))
  have Va24 := (V_a20.other W12 ne_a20_a1)
  have Fl25 := (F_scores_a1.other W12 (Or.inr (slot_ne (Or.inl (w_25 hw)) (Or.inl (w_35 hw)) (by decide) (t := (.array .long)) (t' := .int) (by decide) (by decide))))
  have Va26 := (V_a7.other W12 ne_a7_a1)
  have Ex27 := (E_a14.wr W12)
  have Ex28 := (E_a7.wr W12)
  have Ex29 := (E_a20.wr W12)
  have z1 := Nat.le_trans Z0 s0
  obtain ⟨_, T30, L30, X30, hQ30, st30⟩ := own_private X13 hx hZ hown (y := y_6) Ex15 (w_48 hw) (w_49 hw) (Jvm.Kit.selects_private (by decide) (mvT hZ (w_6 hw)) (mvP hZ (w_50 hw)) (mvT hZ (w_49 hw))) (w_50 hw) (w_7 hw) (w_51 hw) (rm59 l Z a0 hw [] a1 (sC q2) q2 p3 a14 f17 k18 a20 p22 k23 a7 q8 k9 h12 n0 z1 Fl16 Va19 Fl21 Va24 g_a14 Fl25 (Ne.symm ne_a14_a1) Va26 ne_a7_a14 g_a7 (Ne.symm ne_a7_a1) ne_a20_a14 ne_a20_a7 g_a20 Ex27 Ex28 Ex29 Ex15 (Ne.symm ne_a20_a1)) e13 (Ls := #[.val (.ref a1), .val (.long q2), .second, .val (.int p3), .val (.float (sC q2))]) (by rw [hml]; rfl) (argsL := [(.int 1), (.float (sC q2)), (.long q2), (.int p3)]) (rest := []) (lenOf pd_5 rfl) (hb hby d6_42) (W := 0)
  obtain ⟨rfl, Nq30, K30, o30_0, o30_1, o30_2, o30_3, o30_4, o30_5⟩ := hQ30
  have N30 := Fr.app N12 Nq30
  have s1 := K30.1
  obtain ⟨x31, ex31⟩ : ∃ z, z = (if (if (cmpValue (FP.fcmp (sC q2) f17) .g) < (0 : Int32) then (1 : Int32) else (if (cmpValue (FP.fcmp (sC q2) f17) .l) = (0 : Int32) then (if p3 < p22 then (1 : Int32) else (0 : Int32)) else (0 : Int32))) = (0 : Int32) then f17 else (sC q2)) := ⟨_, rfl⟩
  obtain ⟨x32, ex32⟩ : ∃ z, z = (if (if (cmpValue (FP.fcmp (sC q2) f17) .g) < (0 : Int32) then (1 : Int32) else (if (cmpValue (FP.fcmp (sC q2) f17) .l) = (0 : Int32) then (if p3 < p22 then (1 : Int32) else (0 : Int32)) else (0 : Int32))) = (0 : Int32) then (sC q2) else f17) := ⟨_, rfl⟩
  have o30_1' : Arv Z T30.heap a14 k18 .float (3 : Int32) [(.float x31), (.float x32), (.float 0)] (.float 0) := by rw [ex31, ex32]; exact o30_1
  obtain ⟨x33, ex33⟩ : ∃ z, z = (if (if (cmpValue (FP.fcmp (sC q2) f17) .g) < (0 : Int32) then (1 : Int32) else (if (cmpValue (FP.fcmp (sC q2) f17) .l) = (0 : Int32) then (if p3 < p22 then (1 : Int32) else (0 : Int32)) else (0 : Int32))) = (0 : Int32) then q8 else q2) := ⟨_, rfl⟩
  obtain ⟨x34, ex34⟩ : ∃ z, z = (if (if (cmpValue (FP.fcmp (sC q2) f17) .g) < (0 : Int32) then (1 : Int32) else (if (cmpValue (FP.fcmp (sC q2) f17) .l) = (0 : Int32) then (if p3 < p22 then (1 : Int32) else (0 : Int32)) else (0 : Int32))) = (0 : Int32) then q2 else q8) := ⟨_, rfl⟩
  have o30_3' : Arv Z T30.heap a7 k9 .long (3 : Int32) [(.long x33), (.long x34), (.long 0)] (.long 0) := by rw [ex33, ex34]; exact o30_3
  obtain ⟨x35, ex35⟩ : ∃ z, z = (if (if (cmpValue (FP.fcmp (sC q2) f17) .g) < (0 : Int32) then (1 : Int32) else (if (cmpValue (FP.fcmp (sC q2) f17) .l) = (0 : Int32) then (if p3 < p22 then (1 : Int32) else (0 : Int32)) else (0 : Int32))) = (0 : Int32) then p22 else p3) := ⟨_, rfl⟩
  obtain ⟨x36, ex36⟩ : ∃ z, z = (if (if (cmpValue (FP.fcmp (sC q2) f17) .g) < (0 : Int32) then (1 : Int32) else (if (cmpValue (FP.fcmp (sC q2) f17) .l) = (0 : Int32) then (if p3 < p22 then (1 : Int32) else (0 : Int32)) else (0 : Int32))) = (0 : Int32) then p3 else p22) := ⟨_, rfl⟩
  have o30_5' : Arv Z T30.heap a20 k23 .int (3 : Int32) [(.int x35), (.int x36), (.int 0)] (.int 0) := by rw [ex35, ex36]; exact o30_5
  have Ex37 := (Ex15.keep K30)
  have Fl38 := ((F_depth_a1.other W12 (Or.inr (slot_ne (Or.inr (w_15 hw)) (Or.inl (w_35 hw)) (by decide) (t := .int) (t' := .int) (by decide) (by decide)))).keep K30 (ninS (Ne.symm ne_a14_a1) (ninS (Ne.symm ne_a7_a1) (ninS (Ne.symm ne_a20_a1) nin0))))
  have Fl39 := (Fl21.keep K30 (ninS (Ne.symm ne_a14_a1) (ninS (Ne.symm ne_a7_a1) (ninS (Ne.symm ne_a20_a1) nin0))))
  have Fl40 := (Fl25.keep K30 (ninS (Ne.symm ne_a14_a1) (ninS (Ne.symm ne_a7_a1) (ninS (Ne.symm ne_a20_a1) nin0))))
  have Fl41 := (Fl16.keep K30 (ninS (Ne.symm ne_a14_a1) (ninS (Ne.symm ne_a7_a1) (ninS (Ne.symm ne_a20_a1) nin0))))
  have Fl42 := (Fw12.keep K30 (ninS (Ne.symm ne_a14_a1) (ninS (Ne.symm ne_a7_a1) (ninS (Ne.symm ne_a20_a1) nin0))))
  have Kp0 : Keep h0 h12 [a1, a14, a7, a20] := (Keep.refl h0 [a1, a14, a7, a20]).wr W12 (Or.inl (List.mem_of_getElem? (i := 0) rfl))
  have Kp1 : Keep h0 T30.heap [a1, a14, a7, a20] := Kp0.trans K30 (allS (Or.inl (List.mem_of_getElem? (i := 1) rfl)) (allS (Or.inl (List.mem_of_getElem? (i := 2) rfl)) (allS (Or.inl (List.mem_of_getElem? (i := 3) rfl)) all0)))
  refine ⟨T30, _, _, _, none, X30, (fun _ => rfl), by decide, by decide, ?_, fun fs hr => ?_⟩
  · subst ex36
    subst ex35
    subst ex34
    subst ex33
    subst ex32
    subst ex31
    exact ⟨rfl, N30, Kp1, Ex37, Fl38, Fl39, Fl40, Fl41, Fl42, o30_0, o30_1', o30_2, o30_3', o30_4, o30_5'⟩
  · refine XS.lloadN X0.here hx rfl (hb hby d6_0) rfl ?_
    refine st4 _ ?_
    refine XS.fstore X4.here hx rfl (hb hby d6_4) rfl (l' := #[.val (.ref a1), .val (.long q2), .second, .val (.int p3), .val (.float (sC q2))]) rfl ?_
    refine XS.aloadN X4.here hx rfl (hb hby d6_6) rfl rfl ?_
    refine st5 _ ?_
    refine XS.aloadN X5.here hx rfl (hb hby d6_10) rfl rfl ?_
    refine st6 _ ?_
    refine XS.icmpNo X6.here hx rfl (hb hby d6_14) rfl (tlt ((by decide : (1 : Int32) < (3 : Int32)) : (1 : Int32) < (3 : Int32))).2.1 ?_
    refine XS.aloadN X6.here hx rfl (hb hby d6_17) rfl rfl ?_
    refine st10 _ ?_
    refine XS.aloadN X10.here hx rfl (hb hby d6_21) rfl rfl ?_
    refine XS.dup X10.here hx rfl (hb hby d6_22) rfl rfl ?_
    refine st11 _ ?_
    refine XS.iconst X11.here hx rfl (hb hby d6_26) ?_
    refine XS.iadd X11.here hx rfl (hb hby d6_27) rfl ?_
    refine st12 _ ?_
    refine XS.aloadN X12.here hx rfl (hb hby d6_31) rfl rfl ?_
    refine XS.aloadN X12.here hx rfl (hb hby d6_32) rfl rfl ?_
    refine st13 _ ?_
    refine XS.iconst X13.here hx rfl (hb hby d6_36) ?_
    refine XS.isub X13.here hx rfl (hb hby d6_37) rfl ?_
    refine XS.fload X13.here hx rfl (hb hby d6_38) rfl ?_
    refine XS.lloadN X13.here hx rfl (hb hby d6_40) rfl ?_
    refine XS.iloadN X13.here hx rfl (hb hby d6_41) rfl ?_
    refine st30 _ ?_
    refine XS.goto X30.here hx rfl (pc0 := 45) (pc' := 77) rfl (hb hby d6_45) (by decide) (by decide) ?_
    exact X30.returnOut hx hret (hb hby d6_77) hr
-- com/example/senret/senret/TopSentences.lowestAdmitted()F
abbrev Rm61 : Room := { frames := 0, cells := 0, slots := 0, locals := 0 }
def Q61 (Z : State) (a1 : Addr) (h0 : Heap) (n0 : Nat) (v : Option Value) (h : Heap) (L : List Loc) : Prop := v = some (.float 4286578688) ∧ Fr n0 L ∧ h = h0
-- ef_26f21a
theorem rm61 (l : Launch) (Z : State) (a0 : Array Value) (hw : HW a0 Z) (ws : List Jvm.Cond) (a1 : Addr) (h0 : Heap) (n0 : Nat) (Z0 : n0 ≤ h0.size) (F_size_a1 : Fld Z h0 a1 kT "size" "I" (.int 2)) (F_depth_a1 : Fld Z h0 a1 kT "depth" "I" (.int 3)) :
    OwnMet l Z y_3 prog_25_method_3_code 1 (some .float) ws Rm61 #[(.ref a1)] h0 (Q61 Z a1 h0 n0) := by
  refine own_body (plainFor_of_name pn_1) (ef_26f21a a1) ?_
  intro p e s m below meth c s₁ hx hby hml hown hnm hret hZ X0 e0
  have N0 := Fr.nil n0
  obtain ⟨T2, X2, e2, st2⟩ := getF X0 hx hZ hown (host := "") (Or.inl (w_34 hw)) Via.refl e0 F_size_a1 (g := (mkF m 1 #[.val (.ref a1)] [(.ref a1)])) rfl rfl (hb hby d5_1)
  obtain ⟨T3, X3, e3, st3⟩ := getF X2 hx hZ hown (host := "") (Or.inl (w_14 hw)) Via.refl e2 F_depth_a1 (g := (mkF m 5 #[.val (.ref a1)] [(.ref a1), (.int 2)])) rfl rfl (hb hby d5_5)
  refine ⟨T3, _, _, _, (some (.float 4286578688)), X3, nofun, by decide, by decide, ?_, fun fs hr => ?_⟩
  · rw [e3]
    exact ⟨rfl, N0, rfl⟩
  · refine XS.aloadN X0.here hx rfl (hb hby d5_0) rfl rfl ?_
    refine st2 _ ?_
    refine XS.aloadN X2.here hx rfl (hb hby d5_4) rfl rfl ?_
    refine st3 _ ?_
    refine XS.icmpNo X3.here hx rfl (hb hby d5_8) rfl (tlt ((by decide : (2 : Int32) < (3 : Int32)) : (2 : Int32) < (3 : Int32))).2.1 ?_
    refine X3.ldcFloatC hx hown (mvT hZ (w_36 hw)) (g := (mkF m 11 #[.val (.ref a1)] [])) rfl (hb hby d5_11) _ ?_
    refine XS.goto X3.here hx rfl (pc0 := 13) (pc' := 22) rfl (hb hby d5_13) (by decide) (by decide) ?_
    exact retOut X3 hx hret rfl (Or.inr (Or.inr (Or.inr (Or.inl ⟨rfl, rfl, _, rfl⟩)))) (hb hby d5_22) hr
theorem ef_6a98bc (f1 : UInt32) (f2 : UInt32) (f3 : UInt32) (m : MethodId) : entryFrame m #[(.int 3), (.int 2), (.float f1), (.float f2), (.float f3)] 5 = mkF m 0 #[.val (.int 3), .val (.int 2), .val (.float f1), .val (.float f2), .val (.float f3)] [] := by first | (simp [entryFrame, mkF, argsToLocals, Value.category]; done) | rfl
-- com/example/senret/senret/TopSentencesLowestAdmittedPinLaw.expected(IIFFF)F
abbrev Rm62 : Room := { frames := 0, cells := 0, slots := 0, locals := 0 }
def Q62 (Z : State) (f1 : UInt32) (f2 : UInt32) (f3 : UInt32) (h0 : Heap) (n0 : Nat) (v : Option Value) (h : Heap) (L : List Loc) : Prop := v = some (.float 4286578688) ∧ Fr n0 L ∧ h = h0
-- ef_6a98bc
theorem rm62 (l : Launch) (Z : State) (a0 : Array Value) (hw : HW a0 Z) (ws : List Jvm.Cond) (f1 : UInt32) (f2 : UInt32) (f3 : UInt32) (h0 : Heap) (n0 : Nat) (Z0 : n0 ≤ h0.size) :
    OwnMet l Z y_8 method_3_code 5 (some .float) ws Rm62 #[(.int 3), (.int 2), (.float f1), (.float f2), (.float f3)] h0 (Q62 Z f1 f2 f3 h0 n0) := by
  refine own_body (plainFor_of_name pn_2) (ef_6a98bc f1 f2 f3) ?_
  intro p e s m below meth c s₁ hx hby hml hown hnm hret hZ X0 e0
  have N0 := Fr.nil n0
  refine ⟨s₁, _, _, _, (some (.float 4286578688)), X0, nofun, by decide, by decide, ?_, fun fs hr => ?_⟩
  · rw [e0]
    exact ⟨rfl, N0, rfl⟩
  · refine XS.iloadN X0.here hx rfl (hb hby d10_0) rfl ?_
    refine XS.iloadN X0.here hx rfl (hb hby d10_1) rfl ?_
    refine XS.icmpNo X0.here hx rfl (hb hby d10_2) rfl (tlt ((by decide : (2 : Int32) < (3 : Int32)) : (2 : Int32) < (3 : Int32))).2.1 ?_
    refine X0.ldcFloatC hx hown (mvT hZ (w_37 hw)) (g := (mkF m 5 #[.val (.int 3), .val (.int 2), .val (.float f1), .val (.float f2), .val (.float f3)] [])) rfl (hb hby d10_5) _ ?_
    exact retOut X0 hx hret rfl (Or.inr (Or.inr (Or.inr (Or.inl ⟨rfl, rfl, _, rfl⟩)))) (hb hby d10_7) hr
-- com/example/senret/senret/TopSentences.grow()V
abbrev Rm63 : Room := { frames := 0, cells := 0, slots := 0, locals := 0 }
def Q63 (Z : State) (a1 : Addr) (a3 : Addr) (q5 : Int64) (q6 : Int64) (k7 : ClassId) (h0 : Heap) (n0 : Nat) (v : Option Value) (h : Heap) (L : List Loc) : Prop := v = none ∧ Fr n0 L ∧ h = h0
-- ef_692380
theorem rm63 (l : Launch) (Z : State) (a0 : Array Value) (hw : HW a0 Z) (ws : List Jvm.Cond) (a1 : Addr) (a3 : Addr) (q5 : Int64) (q6 : Int64) (k7 : ClassId) (h0 : Heap) (n0 : Nat) (Z0 : n0 ≤ h0.size) (F_size_a1 : Fld Z h0 a1 kT "size" "I" (.int 2)) (F_scores_a1 : Fld Z h0 a1 kT "scores" "[J" (.ref a3)) (V_a3 : Arv Z h0 a3 k7 .long (3 : Int32) [(.long q5), (.long q6), (.long 0)] (.long 0)) :
    OwnMet l Z y_4 prog_25_method_7_code 2 none ws Rm63 #[(.ref a1)] h0 (Q63 Z a1 a3 q5 q6 k7 h0 n0) := by
  refine own_body (plainFor_of_name pn_1) (ef_692380 a1) ?_
  intro p e s m below meth c s₁ hx hby hml hown hnm hret hZ X0 e0
  have N0 := Fr.nil n0
  obtain ⟨T2, X2, e2, st2⟩ := getF X0 hx hZ hown (host := "") (Or.inl (w_34 hw)) Via.refl e0 F_size_a1 (g := (mkF m 1 #[.val (.ref a1), .unset] [(.ref a1)])) rfl rfl (hb hby d7_1)
  obtain ⟨T4, X4, e4, st4⟩ := getF X2 hx hZ hown (host := "") (Or.inl (w_24 hw)) Via.refl e2 F_scores_a1 (g := (mkF m 5 #[.val (.ref a1), .unset] [(.ref a1), (.int 2)])) rfl rfl (hb hby d7_5)
  obtain ⟨cl8, Ar8, q8, S8, M8, Hs8, G8⟩ := id V_a3
  refine ⟨T4, _, _, _, none, X4, (fun _ => rfl), by decide, by decide, ?_, fun fs hr => ?_⟩
  · rw [e4]
    exact ⟨rfl, N0, rfl⟩
  · refine XS.aloadN X0.here hx rfl (hb hby d7_0) rfl rfl ?_
    refine st2 _ ?_
    refine XS.aloadN X2.here hx rfl (hb hby d7_4) rfl rfl ?_
    refine st4 _ ?_
    refine X4.arraylength hx (by rw [e4]; exact Ar8.1) (State.isArrayOf_alike hZ.alike Ar8.2.1) (g := (mkF m 8 #[.val (.ref a1), .unset] [(.ref a3), (.int 2)])) rfl rfl (hb hby d7_8) _ ?_
    show Steps p.tables e below (T4.setTop (mkF m 9 #[.val (.ref a1), .unset] [(.int cl8.slots.size.toInt32), (.int 2)])) _
    rw [len_of S8 M8]
    refine XS.icmpYes X4.here hx rfl (pc0 := 9) (pc' := 68) rfl (hb hby d7_9) rfl (feq ((by decide : ¬ ((2 : Int32) = (3 : Int32))) : ¬ ((2 : Int32) = (3 : Int32)))).2 (by decide) (by decide) ?_
    exact X4.returnOut hx hret (hb hby d7_68) hr
theorem ef_6cef1c (a1 : Addr) (f2 : UInt32) (q3 : Int64) (p4 : Int32) (m : MethodId) : entryFrame m #[(.ref a1), (.int 2), (.float f2), (.long q3), (.int p4)] 6 = mkF m 0 #[.val (.ref a1), .val (.int 2), .val (.float f2), .val (.long q3), .second, .val (.int p4)] [] := by first | (simp [entryFrame, mkF, argsToLocals, Value.category]; done) | rfl
-- com/example/senret/senret/TopSentences.put(IFJI)V
abbrev Rm64 : Room := { frames := 0, cells := 0, slots := 0, locals := 0 }
def Q64 (Z : State) (a1 : Addr) (f2 : UInt32) (q3 : Int64) (p4 : Int32) (a5 : Addr) (f7 : UInt32) (f8 : UInt32) (k9 : ClassId) (a13 : Addr) (q16 : Int64) (q17 : Int64) (k18 : ClassId) (a23 : Addr) (p26 : Int32) (p27 : Int32) (k28 : ClassId) (h0 : Heap) (n0 : Nat) (v : Option Value) (h : Heap) (L : List Loc) : Prop := v = none ∧ Fr n0 L ∧ Keep h0 h [a5, a13, a23] ∧ Exa Z h a5 "[F" ∧ Arv Z h a5 k9 .float (3 : Int32) [(.float f7), (.float f8), (.float f2)] (.float 0) ∧ Exa Z h a13 "[J" ∧ Arv Z h a13 k18 .long (3 : Int32) [(.long q16), (.long q17), (.long q3)] (.long 0) ∧ Exa Z h a23 "[I" ∧ Arv Z h a23 k28 .int (3 : Int32) [(.int p26), (.int p27), (.int p4)] (.int 0)
-- ef_6cef1c
theorem rm64 (l : Launch) (Z : State) (a0 : Array Value) (hw : HW a0 Z) (ws : List Jvm.Cond) (a1 : Addr) (f2 : UInt32) (q3 : Int64) (p4 : Int32) (a5 : Addr) (f7 : UInt32) (f8 : UInt32) (k9 : ClassId) (a13 : Addr) (q16 : Int64) (q17 : Int64) (k18 : ClassId) (a23 : Addr) (p26 : Int32) (p27 : Int32) (k28 : ClassId) (h0 : Heap) (n0 : Nat) (Z0 : n0 ≤ h0.size) (F_scoresAsRead_a1 : Fld Z h0 a1 kT "scoresAsRead" "[F" (.ref a5)) (V_a5 : Arv Z h0 a5 k9 .float (3 : Int32) [(.float f7), (.float f8), (.float 0)] (.float 0)) (g_a5 : n0 ≤ a5) (F_scores_a1 : Fld Z h0 a1 kT "scores" "[J" (.ref a13)) (ne_a1_a5 : a1 ≠ a5) (V_a13 : Arv Z h0 a13 k18 .long (3 : Int32) [(.long q16), (.long q17), (.long 0)] (.long 0)) (ne_a13_a5 : a13 ≠ a5) (g_a13 : n0 ≤ a13) (F_ordinals_a1 : Fld Z h0 a1 kT "ordinals" "[I" (.ref a23)) (ne_a1_a13 : a1 ≠ a13) (V_a23 : Arv Z h0 a23 k28 .int (3 : Int32) [(.int p26), (.int p27), (.int 0)] (.int 0)) (ne_a23_a5 : a23 ≠ a5) (ne_a23_a13 : a23 ≠ a13) (g_a23 : n0 ≤ a23) (E_a5 : Exa Z h0 a5 "[F") (E_a13 : Exa Z h0 a13 "[J") (E_a23 : Exa Z h0 a23 "[I") :
    OwnMet l Z y_5 prog_25_method_11_code 6 none ws Rm64 #[(.ref a1), (.int 2), (.float f2), (.long q3), (.int p4)] h0 (Q64 Z a1 f2 q3 p4 a5 f7 f8 k9 a13 q16 q17 k18 a23 p26 p27 k28 h0 n0) := by
  refine own_body (plainFor_of_name pn_1) (ef_6cef1c a1 f2 q3 p4) ?_
  intro p e s m below meth c s₁ hx hby hml hown hnm hret hZ X0 e0
  have N0 := Fr.nil n0
  obtain ⟨T6, X6, e6, st6⟩ := getF X0 hx hZ hown (host := "") (Or.inl (w_21 hw)) Via.refl e0 F_scoresAsRead_a1 (g := (mkF m 1 #[.val (.ref a1), .val (.int 2), .val (.float f2), .val (.long q3), .second, .val (.int p4)] [(.ref a1)])) rfl rfl (hb hby d9_1)
  obtain ⟨cl10, Ar10, q10, S10, M10, Hs10, G10⟩ := id V_a5
  have hin11 : ¬ ((2 : Int32) < 0 ∨ cl10.slots.size ≤ ((2 : Int32)).toNatClampNeg) := inb_of S10 ⟨(by decide : ¬ ((2 : Int32) < (0 : Int32))), (by decide : (2 : Int32) < (3 : Int32))⟩
  obtain ⟨T12, h12, X12, e12, W12, st12⟩ := stF X6 hx hZ e6 Ar10 (j := (2 : Int32)) hin11 (g := (mkF m 6 #[.val (.ref a1), .val (.int 2), .val (.float f2), .val (.long q3), .second, .val (.int p4)] [(.float f2), (.int 2), (.ref a5)])) rfl rfl (hb hby d9_6)
  have s0 := (Keep.of_wr W12).1
  have N12 := Fr.snoc X12 N0 g_a5
  have Vs12 : Arv Z h12 a5 k9 .float (3 : Int32) [(.float f7), (.float f8), (.float f2)] (.float 0) := Arv.set Ar10 q10 S10 M10 Hs10 G10 rfl W12 2 rfl (Nat.le_of_ble_eq_true rfl)
  have Fl14 := (F_scores_a1.other W12 (Or.inl ne_a1_a5))
  obtain ⟨T15, X15, e15, st15⟩ := getF X12 hx hZ hown (host := "") (Or.inl (w_24 hw)) Via.refl e12 Fl14 (g := (mkF m 8 #[.val (.ref a1), .val (.int 2), .val (.float f2), .val (.long q3), .second, .val (.int p4)] [(.ref a1)])) rfl rfl (hb hby d9_8)
  have Va19 := (V_a13.other W12 ne_a13_a5)
  obtain ⟨cl20, Ar20, q20, S20, M20, Hs20, G20⟩ := id Va19
  have hin21 : ¬ ((2 : Int32) < 0 ∨ cl20.slots.size ≤ ((2 : Int32)).toNatClampNeg) := inb_of S20 ⟨(by decide : ¬ ((2 : Int32) < (0 : Int32))), (by decide : (2 : Int32) < (3 : Int32))⟩
  obtain ⟨T22, h22, X22, e22, W22, st22⟩ := stJ X15 hx hZ e15 Ar20 (j := (2 : Int32)) hin21 (g := (mkF m 13 #[.val (.ref a1), .val (.int 2), .val (.float f2), .val (.long q3), .second, .val (.int p4)] [(.long q3), (.int 2), (.ref a13)])) rfl rfl (hb hby d9_13)
  have s1 := (Keep.of_wr W22).1
  have N22 := Fr.snoc X22 N12 g_a13
  have Vs22 : Arv Z h22 a13 k18 .long (3 : Int32) [(.long q16), (.long q17), (.long q3)] (.long 0) := Arv.set Ar20 q20 S20 M20 Hs20 G20 rfl W22 2 rfl (Nat.le_of_ble_eq_true rfl)
  have Fl24 := ((F_ordinals_a1.other W12 (Or.inl ne_a1_a5)).other W22 (Or.inl ne_a1_a13))
  obtain ⟨T25, X25, e25, st25⟩ := getF X22 hx hZ hown (host := "") (Or.inl (w_27 hw)) Via.refl e22 Fl24 (g := (mkF m 15 #[.val (.ref a1), .val (.int 2), .val (.float f2), .val (.long q3), .second, .val (.int p4)] [(.ref a1)])) rfl rfl (hb hby d9_15)
  have Va29 := ((V_a23.other W12 ne_a23_a5).other W22 ne_a23_a13)
  obtain ⟨cl30, Ar30, q30, S30, M30, Hs30, G30⟩ := id Va29
  have hin31 : ¬ ((2 : Int32) < 0 ∨ cl30.slots.size ≤ ((2 : Int32)).toNatClampNeg) := inb_of S30 ⟨(by decide : ¬ ((2 : Int32) < (0 : Int32))), (by decide : (2 : Int32) < (3 : Int32))⟩
  obtain ⟨T32, h32, X32, e32, W32, st32⟩ := stI X25 hx hZ e25 Ar30 (j := (2 : Int32)) hin31 (g := (mkF m 21 #[.val (.ref a1), .val (.int 2), .val (.float f2), .val (.long q3), .second, .val (.int p4)] [(.int p4), (.int 2), (.ref a23)])) rfl rfl (hb hby d9_21)
  have s2 := (Keep.of_wr W32).1
  have N32 := Fr.snoc X32 N22 g_a23
  have Vs32 : Arv Z h32 a23 k28 .int (3 : Int32) [(.int p26), (.int p27), (.int p4)] (.int 0) := Arv.set Ar30 q30 S30 M30 Hs30 G30 rfl W32 2 rfl (Nat.le_of_ble_eq_true rfl)
  have Ex33 := (((E_a5.wr W12).wr W22).wr W32)
  have Va34 := ((Vs12.other W22 (Ne.symm ne_a13_a5)).other W32 (Ne.symm ne_a23_a5))
  have Ex35 := (((E_a13.wr W12).wr W22).wr W32)
  have Va36 := (Vs22.other W32 (Ne.symm ne_a23_a13))
  have Ex37 := (((E_a23.wr W12).wr W22).wr W32)
  have Kp0 : Keep h0 h12 [a5, a13, a23] := (Keep.refl h0 [a5, a13, a23]).wr W12 (Or.inl (List.mem_of_getElem? (i := 0) rfl))
  have Kp1 : Keep h0 h22 [a5, a13, a23] := Kp0.wr W22 (Or.inl (List.mem_of_getElem? (i := 1) rfl))
  have Kp2 : Keep h0 h32 [a5, a13, a23] := Kp1.wr W32 (Or.inl (List.mem_of_getElem? (i := 2) rfl))
  refine ⟨T32, _, _, _, none, X32, (fun _ => rfl), by decide, by decide, ?_, fun fs hr => ?_⟩
  · rw [e32]
    exact ⟨rfl, N32, Kp2, Ex33, Va34, Ex35, Va36, Ex37, Vs32⟩
  · refine XS.aloadN X0.here hx rfl (hb hby d9_0) rfl rfl ?_
    refine st6 _ ?_
    refine XS.iloadN X6.here hx rfl (hb hby d9_4) rfl ?_
    refine XS.floadN X6.here hx rfl (hb hby d9_5) rfl ?_
    refine st12 _ ?_
    refine XS.aloadN X12.here hx rfl (hb hby d9_7) rfl rfl ?_
    refine st15 _ ?_
    refine XS.iloadN X15.here hx rfl (hb hby d9_11) rfl ?_
    refine XS.lloadN X15.here hx rfl (hb hby d9_12) rfl ?_
    refine st22 _ ?_
    refine XS.aloadN X22.here hx rfl (hb hby d9_14) rfl rfl ?_
    refine st25 _ ?_
    refine XS.iloadN X25.here hx rfl (hb hby d9_18) rfl ?_
    refine XS.iload X25.here hx rfl (hb hby d9_19) rfl ?_
    refine st32 _ ?_
    exact X32.returnOut hx hret (hb hby d9_22) hr
-- com/example/senret/senret/TopSentences.put(IFJI)V
abbrev Rm65 : Room := { frames := 0, cells := 0, slots := 0, locals := 0 }
def Q65 (Z : State) (a1 : Addr) (f2 : UInt32) (q3 : Int64) (p4 : Int32) (a5 : Addr) (f7 : UInt32) (k8 : ClassId) (a12 : Addr) (q15 : Int64) (k16 : ClassId) (a21 : Addr) (p24 : Int32) (k25 : ClassId) (h0 : Heap) (n0 : Nat) (v : Option Value) (h : Heap) (L : List Loc) : Prop := v = none ∧ Fr n0 L ∧ Keep h0 h [a5, a12, a21] ∧ Exa Z h a5 "[F" ∧ Arv Z h a5 k8 .float (3 : Int32) [(.float f2), (.float f7), (.float f2)] (.float 0) ∧ Exa Z h a12 "[J" ∧ Arv Z h a12 k16 .long (3 : Int32) [(.long q3), (.long q15), (.long q3)] (.long 0) ∧ Exa Z h a21 "[I" ∧ Arv Z h a21 k25 .int (3 : Int32) [(.int p4), (.int p24), (.int p4)] (.int 0)
-- ef_6cef1c
theorem rm65 (l : Launch) (Z : State) (a0 : Array Value) (hw : HW a0 Z) (ws : List Jvm.Cond) (a1 : Addr) (f2 : UInt32) (q3 : Int64) (p4 : Int32) (a5 : Addr) (f7 : UInt32) (k8 : ClassId) (a12 : Addr) (q15 : Int64) (k16 : ClassId) (a21 : Addr) (p24 : Int32) (k25 : ClassId) (h0 : Heap) (n0 : Nat) (Z0 : n0 ≤ h0.size) (F_scoresAsRead_a1 : Fld Z h0 a1 kT "scoresAsRead" "[F" (.ref a5)) (V_a5 : Arv Z h0 a5 k8 .float (3 : Int32) [(.float f2), (.float f7), (.float 0)] (.float 0)) (g_a5 : n0 ≤ a5) (F_scores_a1 : Fld Z h0 a1 kT "scores" "[J" (.ref a12)) (ne_a1_a5 : a1 ≠ a5) (V_a12 : Arv Z h0 a12 k16 .long (3 : Int32) [(.long q3), (.long q15), (.long 0)] (.long 0)) (ne_a12_a5 : a12 ≠ a5) (g_a12 : n0 ≤ a12) (F_ordinals_a1 : Fld Z h0 a1 kT "ordinals" "[I" (.ref a21)) (ne_a1_a12 : a1 ≠ a12) (V_a21 : Arv Z h0 a21 k25 .int (3 : Int32) [(.int p4), (.int p24), (.int 0)] (.int 0)) (ne_a21_a5 : a21 ≠ a5) (ne_a21_a12 : a21 ≠ a12) (g_a21 : n0 ≤ a21) (E_a5 : Exa Z h0 a5 "[F") (E_a12 : Exa Z h0 a12 "[J") (E_a21 : Exa Z h0 a21 "[I") :
    OwnMet l Z y_5 prog_25_method_11_code 6 none ws Rm65 #[(.ref a1), (.int 2), (.float f2), (.long q3), (.int p4)] h0 (Q65 Z a1 f2 q3 p4 a5 f7 k8 a12 q15 k16 a21 p24 k25 h0 n0) := by
  refine own_body (plainFor_of_name pn_1) (ef_6cef1c a1 f2 q3 p4) ?_
  intro p e s m below meth c s₁ hx hby hml hown hnm hret hZ X0 e0
  have N0 := Fr.nil n0
  obtain ⟨T6, X6, e6, st6⟩ := getF X0 hx hZ hown (host := "") (Or.inl (w_21 hw)) Via.refl e0 F_scoresAsRead_a1 (g := (mkF m 1 #[.val (.ref a1), .val (.int 2), .val (.float f2), .val (.long q3), .second, .val (.int p4)] [(.ref a1)])) rfl rfl (hb hby d9_1)
  obtain ⟨cl9, Ar9, q9, S9, M9, Hs9, G9⟩ := id V_a5
  have hin10 : ¬ ((2 : Int32) < 0 ∨ cl9.slots.size ≤ ((2 : Int32)).toNatClampNeg) := inb_of S9 ⟨(by decide : ¬ ((2 : Int32) < (0 : Int32))), (by decide : (2 : Int32) < (3 : Int32))⟩
  obtain ⟨T11, h11, X11, e11, W11, st11⟩ := stF X6 hx hZ e6 Ar9 (j := (2 : Int32)) hin10 (g := (mkF m 6 #[.val (.ref a1), .val (.int 2), .val (.float f2), .val (.long q3), .second, .val (.int p4)] [(.float f2), (.int 2), (.ref a5)])) rfl rfl (hb hby d9_6)
  have s0 := (Keep.of_wr W11).1
  have N11 := Fr.snoc X11 N0 g_a5
  have Vs11 : Arv Z h11 a5 k8 .float (3 : Int32) [(.float f2), (.float f7), (.float f2)] (.float 0) := Arv.set Ar9 q9 S9 M9 Hs9 G9 rfl W11 2 rfl (Nat.le_of_ble_eq_true rfl)
  have Fl13 := (F_scores_a1.other W11 (Or.inl ne_a1_a5))
  obtain ⟨T14, X14, e14, st14⟩ := getF X11 hx hZ hown (host := "") (Or.inl (w_24 hw)) Via.refl e11 Fl13 (g := (mkF m 8 #[.val (.ref a1), .val (.int 2), .val (.float f2), .val (.long q3), .second, .val (.int p4)] [(.ref a1)])) rfl rfl (hb hby d9_8)
  have Va17 := (V_a12.other W11 ne_a12_a5)
  obtain ⟨cl18, Ar18, q18, S18, M18, Hs18, G18⟩ := id Va17
  have hin19 : ¬ ((2 : Int32) < 0 ∨ cl18.slots.size ≤ ((2 : Int32)).toNatClampNeg) := inb_of S18 ⟨(by decide : ¬ ((2 : Int32) < (0 : Int32))), (by decide : (2 : Int32) < (3 : Int32))⟩
  obtain ⟨T20, h20, X20, e20, W20, st20⟩ := stJ X14 hx hZ e14 Ar18 (j := (2 : Int32)) hin19 (g := (mkF m 13 #[.val (.ref a1), .val (.int 2), .val (.float f2), .val (.long q3), .second, .val (.int p4)] [(.long q3), (.int 2), (.ref a12)])) rfl rfl (hb hby d9_13)
  have s1 := (Keep.of_wr W20).1
  have N20 := Fr.snoc X20 N11 g_a12
  have Vs20 : Arv Z h20 a12 k16 .long (3 : Int32) [(.long q3), (.long q15), (.long q3)] (.long 0) := Arv.set Ar18 q18 S18 M18 Hs18 G18 rfl W20 2 rfl (Nat.le_of_ble_eq_true rfl)
  have Fl22 := ((F_ordinals_a1.other W11 (Or.inl ne_a1_a5)).other W20 (Or.inl ne_a1_a12))
  obtain ⟨T23, X23, e23, st23⟩ := getF X20 hx hZ hown (host := "") (Or.inl (w_27 hw)) Via.refl e20 Fl22 (g := (mkF m 15 #[.val (.ref a1), .val (.int 2), .val (.float f2), .val (.long q3), .second, .val (.int p4)] [(.ref a1)])) rfl rfl (hb hby d9_15)
  have Va26 := ((V_a21.other W11 ne_a21_a5).other W20 ne_a21_a12)
  obtain ⟨cl27, Ar27, q27, S27, M27, Hs27, G27⟩ := id Va26
  have hin28 : ¬ ((2 : Int32) < 0 ∨ cl27.slots.size ≤ ((2 : Int32)).toNatClampNeg) := inb_of S27 ⟨(by decide : ¬ ((2 : Int32) < (0 : Int32))), (by decide : (2 : Int32) < (3 : Int32))⟩
  obtain ⟨T29, h29, X29, e29, W29, st29⟩ := stI X23 hx hZ e23 Ar27 (j := (2 : Int32)) hin28 (g := (mkF m 21 #[.val (.ref a1), .val (.int 2), .val (.float f2), .val (.long q3), .second, .val (.int p4)] [(.int p4), (.int 2), (.ref a21)])) rfl rfl (hb hby d9_21)
  have s2 := (Keep.of_wr W29).1
  have N29 := Fr.snoc X29 N20 g_a21
  have Vs29 : Arv Z h29 a21 k25 .int (3 : Int32) [(.int p4), (.int p24), (.int p4)] (.int 0) := Arv.set Ar27 q27 S27 M27 Hs27 G27 rfl W29 2 rfl (Nat.le_of_ble_eq_true rfl)
  have Ex30 := (((E_a5.wr W11).wr W20).wr W29)
  have Va31 := ((Vs11.other W20 (Ne.symm ne_a12_a5)).other W29 (Ne.symm ne_a21_a5))
  have Ex32 := (((E_a12.wr W11).wr W20).wr W29)
  have Va33 := (Vs20.other W29 (Ne.symm ne_a21_a12))
  have Ex34 := (((E_a21.wr W11).wr W20).wr W29)
  have Kp0 : Keep h0 h11 [a5, a12, a21] := (Keep.refl h0 [a5, a12, a21]).wr W11 (Or.inl (List.mem_of_getElem? (i := 0) rfl))
  have Kp1 : Keep h0 h20 [a5, a12, a21] := Kp0.wr W20 (Or.inl (List.mem_of_getElem? (i := 1) rfl))
  have Kp2 : Keep h0 h29 [a5, a12, a21] := Kp1.wr W29 (Or.inl (List.mem_of_getElem? (i := 2) rfl))
  refine ⟨T29, _, _, _, none, X29, (fun _ => rfl), by decide, by decide, ?_, fun fs hr => ?_⟩
  · rw [e29]
    exact ⟨rfl, N29, Kp2, Ex30, Va31, Ex32, Va33, Ex34, Vs29⟩
  · refine XS.aloadN X0.here hx rfl (hb hby d9_0) rfl rfl ?_
    refine st6 _ ?_
    refine XS.iloadN X6.here hx rfl (hb hby d9_4) rfl ?_
    refine XS.floadN X6.here hx rfl (hb hby d9_5) rfl ?_
    refine st11 _ ?_
    refine XS.aloadN X11.here hx rfl (hb hby d9_7) rfl rfl ?_
    refine st14 _ ?_
    refine XS.iloadN X14.here hx rfl (hb hby d9_11) rfl ?_
    refine XS.lloadN X14.here hx rfl (hb hby d9_12) rfl ?_
    refine st20 _ ?_
    refine XS.aloadN X20.here hx rfl (hb hby d9_14) rfl rfl ?_
    refine st23 _ ?_
    refine XS.iloadN X23.here hx rfl (hb hby d9_18) rfl ?_
    refine XS.iload X23.here hx rfl (hb hby d9_19) rfl ?_
    refine st29 _ ?_
    exact X29.returnOut hx hret (hb hby d9_22) hr
theorem ef_29dcea (a1 : Addr) (m : MethodId) : entryFrame m #[(.ref a1), (.int 0), (.int 2)] 3 = mkF m 0 #[.val (.ref a1), .val (.int 0), .val (.int 2)] [] := by first | (simp [entryFrame, mkF, argsToLocals, Value.category]; done) | rfl
-- com/example/senret/senret/TopSentences.move(II)V
abbrev Rm66 : Room := { frames := 1, cells := 0, slots := 0, locals := 17 }
def Q66 (Z : State) (a1 : Addr) (a2 : Addr) (f4 : UInt32) (f5 : UInt32) (k6 : ClassId) (a9 : Addr) (q11 : Int64) (q12 : Int64) (k13 : ClassId) (a16 : Addr) (p18 : Int32) (p19 : Int32) (k20 : ClassId) (h0 : Heap) (n0 : Nat) (v : Option Value) (h : Heap) (L : List Loc) : Prop := v = none ∧ Fr n0 L ∧ Keep h0 h [a2, a9, a16] ∧ Exa Z h a2 "[F" ∧ Arv Z h a2 k6 .float (3 : Int32) [(.float f4), (.float f5), (.float f4)] (.float 0) ∧ Exa Z h a9 "[J" ∧ Arv Z h a9 k13 .long (3 : Int32) [(.long q11), (.long q12), (.long q11)] (.long 0) ∧ Exa Z h a16 "[I" ∧ Arv Z h a16 k20 .int (3 : Int32) [(.int p18), (.int p19), (.int p18)] (.int 0)
-- ef_29dcea
theorem rm66 (l : Launch) (Z : State) (a0 : Array Value) (hw : HW a0 Z) (ws : List Jvm.Cond) (a1 : Addr) (a2 : Addr) (f4 : UInt32) (f5 : UInt32) (k6 : ClassId) (a9 : Addr) (q11 : Int64) (q12 : Int64) (k13 : ClassId) (a16 : Addr) (p18 : Int32) (p19 : Int32) (k20 : ClassId) (h0 : Heap) (n0 : Nat) (Z0 : n0 ≤ h0.size) (F_scoresAsRead_a1 : Fld Z h0 a1 kT "scoresAsRead" "[F" (.ref a2)) (V_a2 : Arv Z h0 a2 k6 .float (3 : Int32) [(.float f4), (.float f5), (.float 0)] (.float 0)) (F_scores_a1 : Fld Z h0 a1 kT "scores" "[J" (.ref a9)) (V_a9 : Arv Z h0 a9 k13 .long (3 : Int32) [(.long q11), (.long q12), (.long 0)] (.long 0)) (F_ordinals_a1 : Fld Z h0 a1 kT "ordinals" "[I" (.ref a16)) (V_a16 : Arv Z h0 a16 k20 .int (3 : Int32) [(.int p18), (.int p19), (.int 0)] (.int 0)) (g_a2 : n0 ≤ a2) (ne_a1_a2 : a1 ≠ a2) (ne_a9_a2 : a9 ≠ a2) (g_a9 : n0 ≤ a9) (ne_a1_a9 : a1 ≠ a9) (ne_a16_a2 : a16 ≠ a2) (ne_a16_a9 : a16 ≠ a9) (g_a16 : n0 ≤ a16) (E_a2 : Exa Z h0 a2 "[F") (E_a9 : Exa Z h0 a9 "[J") (E_a16 : Exa Z h0 a16 "[I") (E_a1 : Exa Z h0 a1 kT) :
    OwnMet l Z y_12 prog_25_method_10_code 3 none ws Rm66 #[(.ref a1), (.int 0), (.int 2)] h0 (Q66 Z a1 a2 f4 f5 k6 a9 q11 q12 k13 a16 p18 p19 k20 h0 n0) := by
  refine own_body (plainFor_of_name pn_1) (ef_29dcea a1) ?_
  intro p e s m below meth c s₁ hx hby hml hown hnm hret hZ X0 e0
  have N0 := Fr.nil n0
  obtain ⟨T3, X3, e3, st3⟩ := getF X0 hx hZ hown (host := "") (Or.inl (w_21 hw)) Via.refl e0 F_scoresAsRead_a1 (g := (mkF m 3 #[.val (.ref a1), .val (.int 0), .val (.int 2)] [(.ref a1), (.int 2), (.ref a1)])) rfl rfl (hb hby d13_3)
  obtain ⟨cl7, Ar7, q7, S7, M7, Hs7, G7⟩ := id V_a2
  have hin8 : ¬ ((0 : Int32) < 0 ∨ cl7.slots.size ≤ ((0 : Int32)).toNatClampNeg) := inb_of S7 ⟨(by decide : ¬ ((0 : Int32) < (0 : Int32))), (by decide : (0 : Int32) < (3 : Int32))⟩
  obtain ⟨T10, X10, e10, st10⟩ := getF X3 hx hZ hown (host := "") (Or.inl (w_24 hw)) Via.refl e3 F_scores_a1 (g := (mkF m 9 #[.val (.ref a1), .val (.int 0), .val (.int 2)] [(.ref a1), (.float f4), (.int 2), (.ref a1)])) rfl rfl (hb hby d13_9)
  obtain ⟨cl14, Ar14, q14, S14, M14, Hs14, G14⟩ := id V_a9
  have hin15 : ¬ ((0 : Int32) < 0 ∨ cl14.slots.size ≤ ((0 : Int32)).toNatClampNeg) := inb_of S14 ⟨(by decide : ¬ ((0 : Int32) < (0 : Int32))), (by decide : (0 : Int32) < (3 : Int32))⟩
  obtain ⟨T17, X17, e17, st17⟩ := getF X10 hx hZ hown (host := "") (Or.inl (w_27 hw)) Via.refl e10 F_ordinals_a1 (g := (mkF m 15 #[.val (.ref a1), .val (.int 0), .val (.int 2)] [(.ref a1), (.long q11), (.float f4), (.int 2), (.ref a1)])) rfl rfl (hb hby d13_15)
  obtain ⟨cl21, Ar21, q21, S21, M21, Hs21, G21⟩ := id V_a16
  have hin22 : ¬ ((0 : Int32) < 0 ∨ cl21.slots.size ≤ ((0 : Int32)).toNatClampNeg) := inb_of S21 ⟨(by decide : ¬ ((0 : Int32) < (0 : Int32))), (by decide : (0 : Int32) < (3 : Int32))⟩
  obtain ⟨_, T23, L23, X23, hQ23, st23⟩ := own_private X17 hx hZ hown (y := y_5) E_a1 (w_52 hw) (w_53 hw) (Jvm.Kit.selects_private (by decide) (mvT hZ (w_6 hw)) (mvP hZ (w_54 hw)) (mvT hZ (w_53 hw))) (w_54 hw) (w_7 hw) (w_55 hw) (rm65 l Z a0 hw [] a1 f4 q11 p18 a2 f5 k6 a9 q12 k13 a16 p19 k20 h0 n0 Z0 F_scoresAsRead_a1 V_a2 g_a2 F_scores_a1 ne_a1_a2 V_a9 ne_a9_a2 g_a9 F_ordinals_a1 ne_a1_a9 V_a16 ne_a16_a2 ne_a16_a9 g_a16 E_a2 E_a9 E_a16) e17 (Ls := #[.val (.ref a1), .val (.int 0), .val (.int 2)]) (by rw [hml]; rfl) (argsL := [(.int 2), (.float f4), (.long q11), (.int p18)]) (rest := []) (lenOf pd_5 rfl) (hb hby d13_20) (W := 0)
  obtain ⟨rfl, Nq23, K23, o23_0, o23_1, o23_2, o23_3, o23_4, o23_5⟩ := hQ23
  have N23 := Fr.app N0 Nq23
  have s0 := K23.1
  have Kp0 : Keep h0 T23.heap [a2, a9, a16] := (Keep.refl h0 [a2, a9, a16]).trans K23 (allS (Or.inl (List.mem_of_getElem? (i := 0) rfl)) (allS (Or.inl (List.mem_of_getElem? (i := 1) rfl)) (allS (Or.inl (List.mem_of_getElem? (i := 2) rfl)) all0)))
  refine ⟨T23, _, _, _, none, X23, (fun _ => rfl), by decide, by decide, ?_, fun fs hr => ?_⟩
  · exact ⟨rfl, N23, Kp0, o23_0, o23_1, o23_2, o23_3, o23_4, o23_5⟩
  · refine XS.aloadN X0.here hx rfl (hb hby d13_0) rfl rfl ?_
    refine XS.iloadN X0.here hx rfl (hb hby d13_1) rfl ?_
    refine XS.aloadN X0.here hx rfl (hb hby d13_2) rfl rfl ?_
    refine st3 _ ?_
    refine XS.iloadN X3.here hx rfl (hb hby d13_6) rfl ?_
    refine X3.faload hx (j := (0 : Int32)) (v := (.float f4)) (by rw [e3]; exact Ar7.1) (State.isArrayOf_alike hZ.alike Ar7.2.1) Ar7.2.2 hin8 (Has.at Hs7 hin8 rfl) (g := (mkF m 7 #[.val (.ref a1), .val (.int 0), .val (.int 2)] [(.int 0), (.ref a2), (.int 2), (.ref a1)])) rfl rfl (hb hby d13_7) _ ?_
    refine XS.aloadN X3.here hx rfl (hb hby d13_8) rfl rfl ?_
    refine st10 _ ?_
    refine XS.iloadN X10.here hx rfl (hb hby d13_12) rfl ?_
    refine X10.laload hx (j := (0 : Int32)) (v := (.long q11)) (by rw [e10]; exact Ar14.1) (State.isArrayOf_alike hZ.alike Ar14.2.1) Ar14.2.2 hin15 (Has.at Hs14 hin15 rfl) (g := (mkF m 13 #[.val (.ref a1), .val (.int 0), .val (.int 2)] [(.int 0), (.ref a9), (.float f4), (.int 2), (.ref a1)])) rfl rfl (hb hby d13_13) _ ?_
    refine XS.aloadN X10.here hx rfl (hb hby d13_14) rfl rfl ?_
    refine st17 _ ?_
    refine XS.iloadN X17.here hx rfl (hb hby d13_18) rfl ?_
    refine X17.iaload hx (j := (0 : Int32)) (v := (.int p18)) (by rw [e17]; exact Ar21.1) (State.isArrayOf_alike hZ.alike Ar21.2.1) Ar21.2.2 hin22 (Has.at Hs21 hin22 rfl) (g := (mkF m 19 #[.val (.ref a1), .val (.int 0), .val (.int 2)] [(.int 0), (.ref a16), (.long q11), (.float f4), (.int 2), (.ref a1)])) rfl rfl (hb hby d13_19) _ ?_
    refine st23 _ ?_
    exact X23.returnOut hx hret (hb hby d13_23) hr
-- com/example/senret/senret/TopSentences.put(IFJI)V
abbrev Rm67 : Room := { frames := 0, cells := 0, slots := 0, locals := 0 }
def Q67 (Z : State) (a1 : Addr) (f2 : UInt32) (q3 : Int64) (p4 : Int32) (a5 : Addr) (f7 : UInt32) (f8 : UInt32) (k9 : ClassId) (a13 : Addr) (q16 : Int64) (q17 : Int64) (k18 : ClassId) (a23 : Addr) (p26 : Int32) (p27 : Int32) (k28 : ClassId) (h0 : Heap) (n0 : Nat) (v : Option Value) (h : Heap) (L : List Loc) : Prop := v = none ∧ Fr n0 L ∧ Keep h0 h [a5, a13, a23] ∧ Exa Z h a5 "[F" ∧ Arv Z h a5 k9 .float (3 : Int32) [(.float f2), (.float f8), (.float f7)] (.float 0) ∧ Exa Z h a13 "[J" ∧ Arv Z h a13 k18 .long (3 : Int32) [(.long q3), (.long q17), (.long q16)] (.long 0) ∧ Exa Z h a23 "[I" ∧ Arv Z h a23 k28 .int (3 : Int32) [(.int p4), (.int p27), (.int p26)] (.int 0)
-- ef_bf04c5
theorem rm67 (l : Launch) (Z : State) (a0 : Array Value) (hw : HW a0 Z) (ws : List Jvm.Cond) (a1 : Addr) (f2 : UInt32) (q3 : Int64) (p4 : Int32) (a5 : Addr) (f7 : UInt32) (f8 : UInt32) (k9 : ClassId) (a13 : Addr) (q16 : Int64) (q17 : Int64) (k18 : ClassId) (a23 : Addr) (p26 : Int32) (p27 : Int32) (k28 : ClassId) (h0 : Heap) (n0 : Nat) (Z0 : n0 ≤ h0.size) (F_scoresAsRead_a1 : Fld Z h0 a1 kT "scoresAsRead" "[F" (.ref a5)) (V_a5 : Arv Z h0 a5 k9 .float (3 : Int32) [(.float f7), (.float f8), (.float f7)] (.float 0)) (g_a5 : n0 ≤ a5) (F_scores_a1 : Fld Z h0 a1 kT "scores" "[J" (.ref a13)) (ne_a1_a5 : a1 ≠ a5) (V_a13 : Arv Z h0 a13 k18 .long (3 : Int32) [(.long q16), (.long q17), (.long q16)] (.long 0)) (ne_a13_a5 : a13 ≠ a5) (g_a13 : n0 ≤ a13) (F_ordinals_a1 : Fld Z h0 a1 kT "ordinals" "[I" (.ref a23)) (ne_a1_a13 : a1 ≠ a13) (V_a23 : Arv Z h0 a23 k28 .int (3 : Int32) [(.int p26), (.int p27), (.int p26)] (.int 0)) (ne_a23_a5 : a23 ≠ a5) (ne_a23_a13 : a23 ≠ a13) (g_a23 : n0 ≤ a23) (E_a5 : Exa Z h0 a5 "[F") (E_a13 : Exa Z h0 a13 "[J") (E_a23 : Exa Z h0 a23 "[I") :
    OwnMet l Z y_5 prog_25_method_11_code 6 none ws Rm67 #[(.ref a1), (.int 0), (.float f2), (.long q3), (.int p4)] h0 (Q67 Z a1 f2 q3 p4 a5 f7 f8 k9 a13 q16 q17 k18 a23 p26 p27 k28 h0 n0) := by
  refine own_body (plainFor_of_name pn_1) (ef_bf04c5 a1 f2 q3 p4) ?_
  intro p e s m below meth c s₁ hx hby hml hown hnm hret hZ X0 e0
  have N0 := Fr.nil n0
  obtain ⟨T6, X6, e6, st6⟩ := getF X0 hx hZ hown (host := "") (Or.inl (w_21 hw)) Via.refl e0 F_scoresAsRead_a1 (g := (mkF m 1 #[.val (.ref a1), .val (.int 0), .val (.float f2), .val (.long q3), .second, .val (.int p4)] [(.ref a1)])) rfl rfl (hb hby d9_1)
  obtain ⟨cl10, Ar10, q10, S10, M10, Hs10, G10⟩ := id V_a5
  have hin11 : ¬ ((0 : Int32) < 0 ∨ cl10.slots.size ≤ ((0 : Int32)).toNatClampNeg) := inb_of S10 ⟨(by decide : ¬ ((0 : Int32) < (0 : Int32))), (by decide : (0 : Int32) < (3 : Int32))⟩
  obtain ⟨T12, h12, X12, e12, W12, st12⟩ := stF X6 hx hZ e6 Ar10 (j := (0 : Int32)) hin11 (g := (mkF m 6 #[.val (.ref a1), .val (.int 0), .val (.float f2), .val (.long q3), .second, .val (.int p4)] [(.float f2), (.int 0), (.ref a5)])) rfl rfl (hb hby d9_6)
  have s0 := (Keep.of_wr W12).1
  have N12 := Fr.snoc X12 N0 g_a5
  have Vs12 : Arv Z h12 a5 k9 .float (3 : Int32) [(.float f2), (.float f8), (.float f7)] (.float 0) := Arv.set Ar10 q10 S10 M10 Hs10 G10 rfl W12 0 rfl (Nat.le_of_ble_eq_true rfl)
  have Fl14 := (F_scores_a1.other W12 (Or.inl ne_a1_a5))
  obtain ⟨T15, X15, e15, st15⟩ := getF X12 hx hZ hown (host := "") (Or.inl (w_24 hw)) Via.refl e12 Fl14 (g := (mkF m 8 #[.val (.ref a1), .val (.int 0), .val (.float f2), .val (.long q3), .second, .val (.int p4)] [(.ref a1)])) rfl rfl (hb hby d9_8)
  have Va19 := (V_a13.other W12 ne_a13_a5)
  obtain ⟨cl20, Ar20, q20, S20, M20, Hs20, G20⟩ := id Va19
  have hin21 : ¬ ((0 : Int32) < 0 ∨ cl20.slots.size ≤ ((0 : Int32)).toNatClampNeg) := inb_of S20 ⟨(by decide : ¬ ((0 : Int32) < (0 : Int32))), (by decide : (0 : Int32) < (3 : Int32))⟩
  obtain ⟨T22, h22, X22, e22, W22, st22⟩ := stJ X15 hx hZ e15 Ar20 (j := (0 : Int32)) hin21 (g := (mkF m 13 #[.val (.ref a1), .val (.int 0), .val (.float f2), .val (.long q3), .second, .val (.int p4)] [(.long q3), (.int 0), (.ref a13)])) rfl rfl (hb hby d9_13)
  have s1 := (Keep.of_wr W22).1
  have N22 := Fr.snoc X22 N12 g_a13
  have Vs22 : Arv Z h22 a13 k18 .long (3 : Int32) [(.long q3), (.long q17), (.long q16)] (.long 0) := Arv.set Ar20 q20 S20 M20 Hs20 G20 rfl W22 0 rfl (Nat.le_of_ble_eq_true rfl)
  have Fl24 := ((F_ordinals_a1.other W12 (Or.inl ne_a1_a5)).other W22 (Or.inl ne_a1_a13))
  obtain ⟨T25, X25, e25, st25⟩ := getF X22 hx hZ hown (host := "") (Or.inl (w_27 hw)) Via.refl e22 Fl24 (g := (mkF m 15 #[.val (.ref a1), .val (.int 0), .val (.float f2), .val (.long q3), .second, .val (.int p4)] [(.ref a1)])) rfl rfl (hb hby d9_15)
  have Va29 := ((V_a23.other W12 ne_a23_a5).other W22 ne_a23_a13)
  obtain ⟨cl30, Ar30, q30, S30, M30, Hs30, G30⟩ := id Va29
  have hin31 : ¬ ((0 : Int32) < 0 ∨ cl30.slots.size ≤ ((0 : Int32)).toNatClampNeg) := inb_of S30 ⟨(by decide : ¬ ((0 : Int32) < (0 : Int32))), (by decide : (0 : Int32) < (3 : Int32))⟩
  obtain ⟨T32, h32, X32, e32, W32, st32⟩ := stI X25 hx hZ e25 Ar30 (j := (0 : Int32)) hin31 (g := (mkF m 21 #[.val (.ref a1), .val (.int 0), .val (.float f2), .val (.long q3), .second, .val (.int p4)] [(.int p4), (.int 0), (.ref a23)])) rfl rfl (hb hby d9_21)
  have s2 := (Keep.of_wr W32).1
  have N32 := Fr.snoc X32 N22 g_a23
  have Vs32 : Arv Z h32 a23 k28 .int (3 : Int32) [(.int p4), (.int p27), (.int p26)] (.int 0) := Arv.set Ar30 q30 S30 M30 Hs30 G30 rfl W32 0 rfl (Nat.le_of_ble_eq_true rfl)
  have Ex33 := (((E_a5.wr W12).wr W22).wr W32)
  have Va34 := ((Vs12.other W22 (Ne.symm ne_a13_a5)).other W32 (Ne.symm ne_a23_a5))
  have Ex35 := (((E_a13.wr W12).wr W22).wr W32)
  have Va36 := (Vs22.other W32 (Ne.symm ne_a23_a13))
  have Ex37 := (((E_a23.wr W12).wr W22).wr W32)
  have Kp0 : Keep h0 h12 [a5, a13, a23] := (Keep.refl h0 [a5, a13, a23]).wr W12 (Or.inl (List.mem_of_getElem? (i := 0) rfl))
  have Kp1 : Keep h0 h22 [a5, a13, a23] := Kp0.wr W22 (Or.inl (List.mem_of_getElem? (i := 1) rfl))
  have Kp2 : Keep h0 h32 [a5, a13, a23] := Kp1.wr W32 (Or.inl (List.mem_of_getElem? (i := 2) rfl))
  refine ⟨T32, _, _, _, none, X32, (fun _ => rfl), by decide, by decide, ?_, fun fs hr => ?_⟩
  · rw [e32]
    exact ⟨rfl, N32, Kp2, Ex33, Va34, Ex35, Va36, Ex37, Vs32⟩
  · refine XS.aloadN X0.here hx rfl (hb hby d9_0) rfl rfl ?_
    refine st6 _ ?_
    refine XS.iloadN X6.here hx rfl (hb hby d9_4) rfl ?_
    refine XS.floadN X6.here hx rfl (hb hby d9_5) rfl ?_
    refine st12 _ ?_
    refine XS.aloadN X12.here hx rfl (hb hby d9_7) rfl rfl ?_
    refine st15 _ ?_
    refine XS.iloadN X15.here hx rfl (hb hby d9_11) rfl ?_
    refine XS.lloadN X15.here hx rfl (hb hby d9_12) rfl ?_
    refine st22 _ ?_
    refine XS.aloadN X22.here hx rfl (hb hby d9_14) rfl rfl ?_
    refine st25 _ ?_
    refine XS.iloadN X25.here hx rfl (hb hby d9_18) rfl ?_
    refine XS.iload X25.here hx rfl (hb hby d9_19) rfl ?_
    refine st32 _ ?_
    exact X32.returnOut hx hret (hb hby d9_22) hr
theorem ef_c43c08 (a1 : Addr) (f2 : UInt32) (q3 : Int64) (p4 : Int32) (m : MethodId) : entryFrame m #[(.ref a1), (.int 2), (.float f2), (.long q3), (.int p4)] 8 = mkF m 0 #[.val (.ref a1), .val (.int 2), .val (.float f2), .val (.long q3), .second, .val (.int p4), .unset, .unset] [] := by first | (simp [entryFrame, mkF, argsToLocals, Value.category]; done) | rfl
-- com/example/senret/senret/TopSentences.siftUp(IFJI)V
abbrev Rm68 : Room := { frames := 2, cells := 0, slots := 0, locals := 31 }
def Q68 (Z : State) (a1 : Addr) (f2 : UInt32) (q3 : Int64) (p4 : Int32) (a5 : Addr) (f7 : UInt32) (f8 : UInt32) (k9 : ClassId) (a12 : Addr) (p14 : Int32) (p15 : Int32) (k16 : ClassId) (a29 : Addr) (q30 : Int64) (q31 : Int64) (k32 : ClassId) (h0 : Heap) (n0 : Nat) (v : Option Value) (h : Heap) (L : List Loc) : Prop := v = none ∧ Fr n0 L ∧ Keep h0 h [a5, a29, a12] ∧ Exa Z h a5 "[F" ∧ Arv Z h a5 k9 .float (3 : Int32) [(.float (if (if (cmpValue (FP.fcmp f2 f7) .g) < (0 : Int32) then (1 : Int32) else (if (cmpValue (FP.fcmp f2 f7) .l) = (0 : Int32) then (if p4 < p14 then (1 : Int32) else (0 : Int32)) else (0 : Int32))) = (0 : Int32) then f7 else f2)), (.float f8), (.float (if (if (cmpValue (FP.fcmp f2 f7) .g) < (0 : Int32) then (1 : Int32) else (if (cmpValue (FP.fcmp f2 f7) .l) = (0 : Int32) then (if p4 < p14 then (1 : Int32) else (0 : Int32)) else (0 : Int32))) = (0 : Int32) then f2 else f7))] (.float 0) ∧ Exa Z h a29 "[J" ∧ Arv Z h a29 k32 .long (3 : Int32) [(.long (if (if (cmpValue (FP.fcmp f2 f7) .g) < (0 : Int32) then (1 : Int32) else (if (cmpValue (FP.fcmp f2 f7) .l) = (0 : Int32) then (if p4 < p14 then (1 : Int32) else (0 : Int32)) else (0 : Int32))) = (0 : Int32) then q30 else q3)), (.long q31), (.long (if (if (cmpValue (FP.fcmp f2 f7) .g) < (0 : Int32) then (1 : Int32) else (if (cmpValue (FP.fcmp f2 f7) .l) = (0 : Int32) then (if p4 < p14 then (1 : Int32) else (0 : Int32)) else (0 : Int32))) = (0 : Int32) then q3 else q30))] (.long 0) ∧ Exa Z h a12 "[I" ∧ Arv Z h a12 k16 .int (3 : Int32) [(.int (if (if (cmpValue (FP.fcmp f2 f7) .g) < (0 : Int32) then (1 : Int32) else (if (cmpValue (FP.fcmp f2 f7) .l) = (0 : Int32) then (if p4 < p14 then (1 : Int32) else (0 : Int32)) else (0 : Int32))) = (0 : Int32) then p14 else p4)), (.int p15), (.int (if (if (cmpValue (FP.fcmp f2 f7) .g) < (0 : Int32) then (1 : Int32) else (if (cmpValue (FP.fcmp f2 f7) .l) = (0 : Int32) then (if p4 < p14 then (1 : Int32) else (0 : Int32)) else (0 : Int32))) = (0 : Int32) then p4 else p14))] (.int 0)
-- ef_c43c08
theorem rm68_0 (l : Launch) (Z : State) (a0 : Array Value) (hw : HW a0 Z) (ws : List Jvm.Cond) (a1 : Addr) (f2 : UInt32) (q3 : Int64) (p4 : Int32) (a5 : Addr) (f7 : UInt32) (f8 : UInt32) (k9 : ClassId) (a12 : Addr) (p14 : Int32) (p15 : Int32) (k16 : ClassId) (a29 : Addr) (q30 : Int64) (q31 : Int64) (k32 : ClassId) (h0 : Heap) (n0 : Nat) (Z0 : n0 ≤ h0.size) (F_scoresAsRead_a1 : Fld Z h0 a1 kT "scoresAsRead" "[F" (.ref a5)) (V_a5 : Arv Z h0 a5 k9 .float (3 : Int32) [(.float f7), (.float f8), (.float 0)] (.float 0)) (F_ordinals_a1 : Fld Z h0 a1 kT "ordinals" "[I" (.ref a12)) (V_a12 : Arv Z h0 a12 k16 .int (3 : Int32) [(.int p14), (.int p15), (.int 0)] (.int 0)) (g_a5 : n0 ≤ a5) (F_scores_a1 : Fld Z h0 a1 kT "scores" "[J" (.ref a29)) (ne_a1_a5 : a1 ≠ a5) (V_a29 : Arv Z h0 a29 k32 .long (3 : Int32) [(.long q30), (.long q31), (.long 0)] (.long 0)) (ne_a29_a5 : a29 ≠ a5) (g_a29 : n0 ≤ a29) (ne_a1_a29 : a1 ≠ a29) (ne_a12_a5 : a12 ≠ a5) (ne_a12_a29 : a12 ≠ a29) (g_a12 : n0 ≤ a12) (E_a5 : Exa Z h0 a5 "[F") (E_a29 : Exa Z h0 a29 "[J") (E_a12 : Exa Z h0 a12 "[I") (E_a1 : Exa Z h0 a1 kT) (ne_a1_a12 : a1 ≠ a12) (cc1 : (if (cmpValue (FP.fcmp f2 f7) .g) < (0 : Int32) then (1 : Int32) else (if (cmpValue (FP.fcmp f2 f7) .l) = (0 : Int32) then (if p4 < p14 then (1 : Int32) else (0 : Int32)) else (0 : Int32))) = (0 : Int32)) :
    OwnMet l Z y_6 prog_25_method_8_code 8 none ws Rm68 #[(.ref a1), (.int 2), (.float f2), (.long q3), (.int p4)] h0 (Q68 Z a1 f2 q3 p4 a5 f7 f8 k9 a12 p14 p15 k16 a29 q30 q31 k32 h0 n0) := by
  refine own_body (plainFor_of_name pn_1) (ef_c43c08 a1 f2 q3 p4) ?_
  intro p e s m below meth c s₁ hx hby hml hown hnm hret hZ X0 e0
  have N0 := Fr.nil n0
  obtain ⟨T21, X21, e21, st21⟩ := getF X0 hx hZ hown (host := "") (Or.inl (w_21 hw)) Via.refl e0 F_scoresAsRead_a1 (g := (mkF m 20 #[.val (.ref a1), .val (.int 2), .val (.float f2), .val (.long q3), .second, .val (.int p4), .val (.int 2), .val (.int 0)] [(.ref a1), (.int p4), (.float f2)])) rfl rfl (hb hby d8_20)
  obtain ⟨cl22, Ar22, q22, S22, M22, Hs22, G22⟩ := id V_a5
  have hin23 : ¬ ((0 : Int32) < 0 ∨ cl22.slots.size ≤ ((0 : Int32)).toNatClampNeg) := inb_of S22 ⟨(by decide : ¬ ((0 : Int32) < (0 : Int32))), (by decide : (0 : Int32) < (3 : Int32))⟩
  obtain ⟨T24, X24, e24, st24⟩ := getF X21 hx hZ hown (host := "") (Or.inl (w_27 hw)) Via.refl e21 F_ordinals_a1 (g := (mkF m 27 #[.val (.ref a1), .val (.int 2), .val (.float f2), .val (.long q3), .second, .val (.int p4), .val (.int 2), .val (.int 0)] [(.ref a1), (.float f7), (.int p4), (.float f2)])) rfl rfl (hb hby d8_27)
  obtain ⟨cl25, Ar25, q25, S25, M25, Hs25, G25⟩ := id V_a12
  have hin26 : ¬ ((0 : Int32) < 0 ∨ cl25.slots.size ≤ ((0 : Int32)).toNatClampNeg) := inb_of S25 ⟨(by decide : ¬ ((0 : Int32) < (0 : Int32))), (by decide : (0 : Int32) < (3 : Int32))⟩
  obtain ⟨_, T27, L27, X27, hQ27, st27⟩ := own_callS X24 hx hZ hown (y := y_9) (w_60 hw) (w_61 hw) (w_7 hw) (w_62 hw) (rm11 l Z a0 hw [] f2 p4 f7 p14 h0 n0 Z0) e24 (Ls := #[.val (.ref a1), .val (.int 2), .val (.float f2), .val (.long q3), .second, .val (.int p4), .val (.int 2), .val (.int 0)]) (by rw [hml]; rfl) (argsL := [(.float f2), (.int p4), (.float f7), (.int p14)]) (rest := []) (lenOf pd_8 rfl) (hb hby d8_33) (W := 0)
  obtain ⟨rfl, Nq27, e27⟩ := hQ27
  have N27 := Fr.app N0 Nq27
  obtain ⟨x28, ex28⟩ : ∃ z, z = (if (cmpValue (FP.fcmp f2 f7) .g) < (0 : Int32) then (1 : Int32) else (if (cmpValue (FP.fcmp f2 f7) .l) = (0 : Int32) then (if p4 < p14 then (1 : Int32) else (0 : Int32)) else (0 : Int32))) := ⟨_, rfl⟩
  obtain ⟨_, T33, L33, X33, hQ33, st33⟩ := own_private X27 hx hZ hown (y := y_5) E_a1 (w_52 hw) (w_53 hw) (Jvm.Kit.selects_private (by decide) (mvT hZ (w_6 hw)) (mvP hZ (w_54 hw)) (mvT hZ (w_53 hw))) (w_54 hw) (w_7 hw) (w_55 hw) (rm64 l Z a0 hw [] a1 f2 q3 p4 a5 f7 f8 k9 a29 q30 q31 k32 a12 p14 p15 k16 h0 n0 Z0 F_scoresAsRead_a1 V_a5 g_a5 F_scores_a1 ne_a1_a5 V_a29 ne_a29_a5 g_a29 F_ordinals_a1 ne_a1_a29 V_a12 ne_a12_a5 ne_a12_a29 g_a12 E_a5 E_a29 E_a12) e27 (Ls := #[.val (.ref a1), .val (.int 2), .val (.float f2), .val (.long q3), .second, .val (.int p4), .val (.int 2), .val (.int 0)]) (by rw [hml]; rfl) (argsL := [(.int 2), (.float f2), (.long q3), (.int p4)]) (rest := []) (lenOf pd_5 rfl) (hb hby d8_64) (W := 0)
  obtain ⟨rfl, Nq33, K33, o33_0, o33_1, o33_2, o33_3, o33_4, o33_5⟩ := hQ33
  have N33 := Fr.app N27 Nq33
  have s0 := K33.1
  have Kp0 : Keep h0 T33.heap [a5, a29, a12] := (Keep.refl h0 [a5, a29, a12]).trans K33 (allS (Or.inl (List.mem_of_getElem? (i := 0) rfl)) (allS (Or.inl (List.mem_of_getElem? (i := 1) rfl)) (allS (Or.inl (List.mem_of_getElem? (i := 2) rfl)) all0)))
  refine ⟨T33, _, _, _, none, X33, (fun _ => rfl), by decide, by decide, ?_, fun fs hr => ?_⟩
  · subst ex28
    unfold Q68
    rw [show (if (if (cmpValue (FP.fcmp f2 f7) .g) < (0 : Int32) then (1 : Int32) else (if (cmpValue (FP.fcmp f2 f7) .l) = (0 : Int32) then (if p4 < p14 then (1 : Int32) else (0 : Int32)) else (0 : Int32))) = (0 : Int32) then f7 else f2) = f7 from by rw [if_pos cc1]]
    rw [show (if (if (cmpValue (FP.fcmp f2 f7) .g) < (0 : Int32) then (1 : Int32) else (if (cmpValue (FP.fcmp f2 f7) .l) = (0 : Int32) then (if p4 < p14 then (1 : Int32) else (0 : Int32)) else (0 : Int32))) = (0 : Int32) then f2 else f7) = f2 from by rw [if_pos cc1]]
    rw [show (if (if (cmpValue (FP.fcmp f2 f7) .g) < (0 : Int32) then (1 : Int32) else (if (cmpValue (FP.fcmp f2 f7) .l) = (0 : Int32) then (if p4 < p14 then (1 : Int32) else (0 : Int32)) else (0 : Int32))) = (0 : Int32) then q30 else q3) = q30 from by rw [if_pos cc1]]
    rw [show (if (if (cmpValue (FP.fcmp f2 f7) .g) < (0 : Int32) then (1 : Int32) else (if (cmpValue (FP.fcmp f2 f7) .l) = (0 : Int32) then (if p4 < p14 then (1 : Int32) else (0 : Int32)) else (0 : Int32))) = (0 : Int32) then q3 else q30) = q3 from by rw [if_pos cc1]]
    rw [show (if (if (cmpValue (FP.fcmp f2 f7) .g) < (0 : Int32) then (1 : Int32) else (if (cmpValue (FP.fcmp f2 f7) .l) = (0 : Int32) then (if p4 < p14 then (1 : Int32) else (0 : Int32)) else (0 : Int32))) = (0 : Int32) then p14 else p4) = p14 from by rw [if_pos cc1]]
    rw [show (if (if (cmpValue (FP.fcmp f2 f7) .g) < (0 : Int32) then (1 : Int32) else (if (cmpValue (FP.fcmp f2 f7) .l) = (0 : Int32) then (if p4 < p14 then (1 : Int32) else (0 : Int32)) else (0 : Int32))) = (0 : Int32) then p4 else p14) = p4 from by rw [if_pos cc1]]
    exact ⟨rfl, N33, Kp0, o33_0, o33_1, o33_2, o33_3, o33_4, o33_5⟩
  · refine XS.iloadN X0.here hx rfl (hb hby d8_0) rfl ?_
    refine XS.istore X0.here hx rfl (hb hby d8_1) rfl (l' := #[.val (.ref a1), .val (.int 2), .val (.float f2), .val (.long q3), .second, .val (.int p4), .val (.int 2), .unset]) rfl ?_
    refine XS.iload X0.here hx rfl (hb hby d8_3) rfl ?_
    refine XS.ifNo X0.here hx rfl (hb hby d8_5) rfl ((if0 _ _).trans (tlt ((by decide : (0 : Int32) < (2 : Int32)) : (0 : Int32) < (2 : Int32))).2.2.2) ?_
    refine XS.iload X0.here hx rfl (hb hby d8_8) rfl ?_
    refine XS.iconst X0.here hx rfl (hb hby d8_10) ?_
    refine XS.isub X0.here hx rfl (hb hby d8_11) rfl ?_
    refine XS.iconst X0.here hx rfl (hb hby d8_12) ?_
    refine XS.idiv X0.here hx rfl (hb hby d8_13) rfl (by decide : ¬ ((2 : Int32) = (0 : Int32))) ?_
    refine XS.istore X0.here hx rfl (hb hby d8_14) rfl (l' := #[.val (.ref a1), .val (.int 2), .val (.float f2), .val (.long q3), .second, .val (.int p4), .val (.int 2), .val (.int 0)]) rfl ?_
    refine XS.floadN X0.here hx rfl (hb hby d8_16) rfl ?_
    refine XS.iload X0.here hx rfl (hb hby d8_17) rfl ?_
    refine XS.aloadN X0.here hx rfl (hb hby d8_19) rfl rfl ?_
    refine st21 _ ?_
    refine XS.iload X21.here hx rfl (hb hby d8_23) rfl ?_
    refine X21.faload hx (j := (0 : Int32)) (v := (.float f7)) (by rw [e21]; exact Ar22.1) (State.isArrayOf_alike hZ.alike Ar22.2.1) Ar22.2.2 hin23 (Has.at Hs22 hin23 rfl) (g := (mkF m 25 #[.val (.ref a1), .val (.int 2), .val (.float f2), .val (.long q3), .second, .val (.int p4), .val (.int 2), .val (.int 0)] [(.int 0), (.ref a5), (.int p4), (.float f2)])) rfl rfl (hb hby d8_25) _ ?_
    refine XS.aloadN X21.here hx rfl (hb hby d8_26) rfl rfl ?_
    refine st24 _ ?_
    refine XS.iload X24.here hx rfl (hb hby d8_30) rfl ?_
    refine X24.iaload hx (j := (0 : Int32)) (v := (.int p14)) (by rw [e24]; exact Ar25.1) (State.isArrayOf_alike hZ.alike Ar25.2.1) Ar25.2.2 hin26 (Has.at Hs25 hin26 rfl) (g := (mkF m 32 #[.val (.ref a1), .val (.int 2), .val (.float f2), .val (.long q3), .second, .val (.int p4), .val (.int 2), .val (.int 0)] [(.int 0), (.ref a12), (.float f7), (.int p4), (.float f2)])) rfl rfl (hb hby d8_32) _ ?_
    refine st27 _ ?_
    show Steps p.tables e below (T27.setTop (mkF m 36 #[.val (.ref a1), .val (.int 2), .val (.float f2), .val (.long q3), .second, .val (.int p4), .val (.int 2), .val (.int 0)] [(.int (if (cmpValue (FP.fcmp f2 f7) .g) < (0 : Int32) then (1 : Int32) else (if (cmpValue (FP.fcmp f2 f7) .l) = (0 : Int32) then (if p4 < p14 then (1 : Int32) else (0 : Int32)) else (0 : Int32))))])) _
    rw [← ex28]
    refine XS.ifNo X27.here hx rfl (hb hby d8_36) rfl ((if0 _ _).trans (teq ((by rw [ex28]; exact cc1) : x28 = (0 : Int32))).2) ?_
    refine XS.goto X27.here hx rfl (pc0 := 39) (pc' := 57) rfl (hb hby d8_39) (by decide) (by decide) ?_
    refine XS.aloadN X27.here hx rfl (hb hby d8_57) rfl rfl ?_
    refine XS.iload X27.here hx rfl (hb hby d8_58) rfl ?_
    refine XS.floadN X27.here hx rfl (hb hby d8_60) rfl ?_
    refine XS.lloadN X27.here hx rfl (hb hby d8_61) rfl ?_
    refine XS.iload X27.here hx rfl (hb hby d8_62) rfl ?_
    refine st33 _ ?_
    exact X33.returnOut hx hret (hb hby d8_67) hr
theorem rm68_1 (l : Launch) (Z : State) (a0 : Array Value) (hw : HW a0 Z) (ws : List Jvm.Cond) (a1 : Addr) (f2 : UInt32) (q3 : Int64) (p4 : Int32) (a5 : Addr) (f7 : UInt32) (f8 : UInt32) (k9 : ClassId) (a12 : Addr) (p14 : Int32) (p15 : Int32) (k16 : ClassId) (a29 : Addr) (q30 : Int64) (q31 : Int64) (k32 : ClassId) (h0 : Heap) (n0 : Nat) (Z0 : n0 ≤ h0.size) (F_scoresAsRead_a1 : Fld Z h0 a1 kT "scoresAsRead" "[F" (.ref a5)) (V_a5 : Arv Z h0 a5 k9 .float (3 : Int32) [(.float f7), (.float f8), (.float 0)] (.float 0)) (F_ordinals_a1 : Fld Z h0 a1 kT "ordinals" "[I" (.ref a12)) (V_a12 : Arv Z h0 a12 k16 .int (3 : Int32) [(.int p14), (.int p15), (.int 0)] (.int 0)) (g_a5 : n0 ≤ a5) (F_scores_a1 : Fld Z h0 a1 kT "scores" "[J" (.ref a29)) (ne_a1_a5 : a1 ≠ a5) (V_a29 : Arv Z h0 a29 k32 .long (3 : Int32) [(.long q30), (.long q31), (.long 0)] (.long 0)) (ne_a29_a5 : a29 ≠ a5) (g_a29 : n0 ≤ a29) (ne_a1_a29 : a1 ≠ a29) (ne_a12_a5 : a12 ≠ a5) (ne_a12_a29 : a12 ≠ a29) (g_a12 : n0 ≤ a12) (E_a5 : Exa Z h0 a5 "[F") (E_a29 : Exa Z h0 a29 "[J") (E_a12 : Exa Z h0 a12 "[I") (E_a1 : Exa Z h0 a1 kT) (ne_a1_a12 : a1 ≠ a12) (cc1 : ¬ ((if (cmpValue (FP.fcmp f2 f7) .g) < (0 : Int32) then (1 : Int32) else (if (cmpValue (FP.fcmp f2 f7) .l) = (0 : Int32) then (if p4 < p14 then (1 : Int32) else (0 : Int32)) else (0 : Int32))) = (0 : Int32))) :
    OwnMet l Z y_6 prog_25_method_8_code 8 none ws Rm68 #[(.ref a1), (.int 2), (.float f2), (.long q3), (.int p4)] h0 (Q68 Z a1 f2 q3 p4 a5 f7 f8 k9 a12 p14 p15 k16 a29 q30 q31 k32 h0 n0) := by
  refine own_body (plainFor_of_name pn_1) (ef_c43c08 a1 f2 q3 p4) ?_
  intro p e s m below meth c s₁ hx hby hml hown hnm hret hZ X0 e0
  have N0 := Fr.nil n0
  obtain ⟨T34, X34, e34, st34⟩ := getF X0 hx hZ hown (host := "") (Or.inl (w_21 hw)) Via.refl e0 F_scoresAsRead_a1 (g := (mkF m 20 #[.val (.ref a1), .val (.int 2), .val (.float f2), .val (.long q3), .second, .val (.int p4), .val (.int 2), .val (.int 0)] [(.ref a1), (.int p4), (.float f2)])) rfl rfl (hb hby d8_20)
  obtain ⟨cl35, Ar35, q35, S35, M35, Hs35, G35⟩ := id V_a5
  have hin36 : ¬ ((0 : Int32) < 0 ∨ cl35.slots.size ≤ ((0 : Int32)).toNatClampNeg) := inb_of S35 ⟨(by decide : ¬ ((0 : Int32) < (0 : Int32))), (by decide : (0 : Int32) < (3 : Int32))⟩
  obtain ⟨T37, X37, e37, st37⟩ := getF X34 hx hZ hown (host := "") (Or.inl (w_27 hw)) Via.refl e34 F_ordinals_a1 (g := (mkF m 27 #[.val (.ref a1), .val (.int 2), .val (.float f2), .val (.long q3), .second, .val (.int p4), .val (.int 2), .val (.int 0)] [(.ref a1), (.float f7), (.int p4), (.float f2)])) rfl rfl (hb hby d8_27)
  obtain ⟨cl38, Ar38, q38, S38, M38, Hs38, G38⟩ := id V_a12
  have hin39 : ¬ ((0 : Int32) < 0 ∨ cl38.slots.size ≤ ((0 : Int32)).toNatClampNeg) := inb_of S38 ⟨(by decide : ¬ ((0 : Int32) < (0 : Int32))), (by decide : (0 : Int32) < (3 : Int32))⟩
  obtain ⟨_, T40, L40, X40, hQ40, st40⟩ := own_callS X37 hx hZ hown (y := y_9) (w_60 hw) (w_61 hw) (w_7 hw) (w_62 hw) (rm11 l Z a0 hw [] f2 p4 f7 p14 h0 n0 Z0) e37 (Ls := #[.val (.ref a1), .val (.int 2), .val (.float f2), .val (.long q3), .second, .val (.int p4), .val (.int 2), .val (.int 0)]) (by rw [hml]; rfl) (argsL := [(.float f2), (.int p4), (.float f7), (.int p14)]) (rest := []) (lenOf pd_8 rfl) (hb hby d8_33) (W := 0)
  obtain ⟨rfl, Nq40, e40⟩ := hQ40
  have N40 := Fr.app N0 Nq40
  obtain ⟨x41, ex41⟩ : ∃ z, z = (if (cmpValue (FP.fcmp f2 f7) .g) < (0 : Int32) then (1 : Int32) else (if (cmpValue (FP.fcmp f2 f7) .l) = (0 : Int32) then (if p4 < p14 then (1 : Int32) else (0 : Int32)) else (0 : Int32))) := ⟨_, rfl⟩
  obtain ⟨_, T42, L42, X42, hQ42, st42⟩ := own_private X40 hx hZ hown (y := y_12) E_a1 (w_66 hw) (w_67 hw) (Jvm.Kit.selects_private (by decide) (mvT hZ (w_6 hw)) (mvP hZ (w_68 hw)) (mvT hZ (w_67 hw))) (w_68 hw) (w_7 hw) (w_69 hw) (rm66 l Z a0 hw [] a1 a5 f7 f8 k9 a29 q30 q31 k32 a12 p14 p15 k16 h0 n0 Z0 F_scoresAsRead_a1 V_a5 F_scores_a1 V_a29 F_ordinals_a1 V_a12 g_a5 ne_a1_a5 ne_a29_a5 g_a29 ne_a1_a29 ne_a12_a5 ne_a12_a29 g_a12 E_a5 E_a29 E_a12 E_a1) e40 (Ls := #[.val (.ref a1), .val (.int 2), .val (.float f2), .val (.long q3), .second, .val (.int p4), .val (.int 2), .val (.int 0)]) (by rw [hml]; rfl) (argsL := [(.int 0), (.int 2)]) (rest := []) (lenOf pd_11 rfl) (hb hby d8_47) (W := 0)
  obtain ⟨rfl, Nq42, K42, o42_0, o42_1, o42_2, o42_3, o42_4, o42_5⟩ := hQ42
  have N42 := Fr.app N40 Nq42
  have s0 := K42.1
  have Fl43 := (F_scoresAsRead_a1.keep K42 (ninS ne_a1_a5 (ninS ne_a1_a29 (ninS ne_a1_a12 nin0))))
  have Fl44 := (F_scores_a1.keep K42 (ninS ne_a1_a5 (ninS ne_a1_a29 (ninS ne_a1_a12 nin0))))
  have Fl45 := (F_ordinals_a1.keep K42 (ninS ne_a1_a5 (ninS ne_a1_a29 (ninS ne_a1_a12 nin0))))
  have z1 := Nat.le_trans Z0 s0
  have Ex47 := (E_a1.keep K42)
  obtain ⟨_, T46, L46, X46, hQ46, st46⟩ := own_private X42 hx hZ hown (y := y_5) Ex47 (w_52 hw) (w_53 hw) (Jvm.Kit.selects_private (by decide) (mvT hZ (w_6 hw)) (mvP hZ (w_54 hw)) (mvT hZ (w_53 hw))) (w_54 hw) (w_7 hw) (w_55 hw) (rm67 l Z a0 hw [] a1 f2 q3 p4 a5 f7 f8 k9 a29 q30 q31 k32 a12 p14 p15 k16 T42.heap n0 z1 Fl43 o42_1 g_a5 Fl44 ne_a1_a5 o42_3 ne_a29_a5 g_a29 Fl45 ne_a1_a29 o42_5 ne_a12_a5 ne_a12_a29 g_a12 o42_0 o42_2 o42_4) rfl (Ls := #[.val (.ref a1), .val (.int 2), .val (.float f2), .val (.long q3), .second, .val (.int p4), .val (.int 0), .val (.int 0)]) (by rw [hml]; rfl) (argsL := [(.int 0), (.float f2), (.long q3), (.int p4)]) (rest := []) (lenOf pd_5 rfl) (hb hby d8_64) (W := 0)
  obtain ⟨rfl, Nq46, K46, o46_0, o46_1, o46_2, o46_3, o46_4, o46_5⟩ := hQ46
  have N46 := Fr.app N42 Nq46
  have s1 := K46.1
  have Kp0 : Keep h0 T42.heap [a5, a29, a12] := (Keep.refl h0 [a5, a29, a12]).trans K42 (allS (Or.inl (List.mem_of_getElem? (i := 0) rfl)) (allS (Or.inl (List.mem_of_getElem? (i := 1) rfl)) (allS (Or.inl (List.mem_of_getElem? (i := 2) rfl)) all0)))
  have Kp1 : Keep h0 T46.heap [a5, a29, a12] := Kp0.trans K46 (allS (Or.inl (List.mem_of_getElem? (i := 0) rfl)) (allS (Or.inl (List.mem_of_getElem? (i := 1) rfl)) (allS (Or.inl (List.mem_of_getElem? (i := 2) rfl)) all0)))
  refine ⟨T46, _, _, _, none, X46, (fun _ => rfl), by decide, by decide, ?_, fun fs hr => ?_⟩
  · subst ex41
    unfold Q68
    rw [show (if (if (cmpValue (FP.fcmp f2 f7) .g) < (0 : Int32) then (1 : Int32) else (if (cmpValue (FP.fcmp f2 f7) .l) = (0 : Int32) then (if p4 < p14 then (1 : Int32) else (0 : Int32)) else (0 : Int32))) = (0 : Int32) then f7 else f2) = f2 from by rw [if_neg cc1]]
    rw [show (if (if (cmpValue (FP.fcmp f2 f7) .g) < (0 : Int32) then (1 : Int32) else (if (cmpValue (FP.fcmp f2 f7) .l) = (0 : Int32) then (if p4 < p14 then (1 : Int32) else (0 : Int32)) else (0 : Int32))) = (0 : Int32) then f2 else f7) = f7 from by rw [if_neg cc1]]
    rw [show (if (if (cmpValue (FP.fcmp f2 f7) .g) < (0 : Int32) then (1 : Int32) else (if (cmpValue (FP.fcmp f2 f7) .l) = (0 : Int32) then (if p4 < p14 then (1 : Int32) else (0 : Int32)) else (0 : Int32))) = (0 : Int32) then q30 else q3) = q3 from by rw [if_neg cc1]]
    rw [show (if (if (cmpValue (FP.fcmp f2 f7) .g) < (0 : Int32) then (1 : Int32) else (if (cmpValue (FP.fcmp f2 f7) .l) = (0 : Int32) then (if p4 < p14 then (1 : Int32) else (0 : Int32)) else (0 : Int32))) = (0 : Int32) then q3 else q30) = q30 from by rw [if_neg cc1]]
    rw [show (if (if (cmpValue (FP.fcmp f2 f7) .g) < (0 : Int32) then (1 : Int32) else (if (cmpValue (FP.fcmp f2 f7) .l) = (0 : Int32) then (if p4 < p14 then (1 : Int32) else (0 : Int32)) else (0 : Int32))) = (0 : Int32) then p14 else p4) = p4 from by rw [if_neg cc1]]
    rw [show (if (if (cmpValue (FP.fcmp f2 f7) .g) < (0 : Int32) then (1 : Int32) else (if (cmpValue (FP.fcmp f2 f7) .l) = (0 : Int32) then (if p4 < p14 then (1 : Int32) else (0 : Int32)) else (0 : Int32))) = (0 : Int32) then p4 else p14) = p14 from by rw [if_neg cc1]]
    exact ⟨rfl, N46, Kp1, o46_0, o46_1, o46_2, o46_3, o46_4, o46_5⟩
  · refine XS.iloadN X0.here hx rfl (hb hby d8_0) rfl ?_
    refine XS.istore X0.here hx rfl (hb hby d8_1) rfl (l' := #[.val (.ref a1), .val (.int 2), .val (.float f2), .val (.long q3), .second, .val (.int p4), .val (.int 2), .unset]) rfl ?_
    refine XS.iload X0.here hx rfl (hb hby d8_3) rfl ?_
    refine XS.ifNo X0.here hx rfl (hb hby d8_5) rfl ((if0 _ _).trans (tlt ((by decide : (0 : Int32) < (2 : Int32)) : (0 : Int32) < (2 : Int32))).2.2.2) ?_
    refine XS.iload X0.here hx rfl (hb hby d8_8) rfl ?_
    refine XS.iconst X0.here hx rfl (hb hby d8_10) ?_
    refine XS.isub X0.here hx rfl (hb hby d8_11) rfl ?_
    refine XS.iconst X0.here hx rfl (hb hby d8_12) ?_
    refine XS.idiv X0.here hx rfl (hb hby d8_13) rfl (by decide : ¬ ((2 : Int32) = (0 : Int32))) ?_
    refine XS.istore X0.here hx rfl (hb hby d8_14) rfl (l' := #[.val (.ref a1), .val (.int 2), .val (.float f2), .val (.long q3), .second, .val (.int p4), .val (.int 2), .val (.int 0)]) rfl ?_
    refine XS.floadN X0.here hx rfl (hb hby d8_16) rfl ?_
    refine XS.iload X0.here hx rfl (hb hby d8_17) rfl ?_
    refine XS.aloadN X0.here hx rfl (hb hby d8_19) rfl rfl ?_
    refine st34 _ ?_
    refine XS.iload X34.here hx rfl (hb hby d8_23) rfl ?_
    refine X34.faload hx (j := (0 : Int32)) (v := (.float f7)) (by rw [e34]; exact Ar35.1) (State.isArrayOf_alike hZ.alike Ar35.2.1) Ar35.2.2 hin36 (Has.at Hs35 hin36 rfl) (g := (mkF m 25 #[.val (.ref a1), .val (.int 2), .val (.float f2), .val (.long q3), .second, .val (.int p4), .val (.int 2), .val (.int 0)] [(.int 0), (.ref a5), (.int p4), (.float f2)])) rfl rfl (hb hby d8_25) _ ?_
    refine XS.aloadN X34.here hx rfl (hb hby d8_26) rfl rfl ?_
    refine st37 _ ?_
    refine XS.iload X37.here hx rfl (hb hby d8_30) rfl ?_
    refine X37.iaload hx (j := (0 : Int32)) (v := (.int p14)) (by rw [e37]; exact Ar38.1) (State.isArrayOf_alike hZ.alike Ar38.2.1) Ar38.2.2 hin39 (Has.at Hs38 hin39 rfl) (g := (mkF m 32 #[.val (.ref a1), .val (.int 2), .val (.float f2), .val (.long q3), .second, .val (.int p4), .val (.int 2), .val (.int 0)] [(.int 0), (.ref a12), (.float f7), (.int p4), (.float f2)])) rfl rfl (hb hby d8_32) _ ?_
    refine st40 _ ?_
    show Steps p.tables e below (T40.setTop (mkF m 36 #[.val (.ref a1), .val (.int 2), .val (.float f2), .val (.long q3), .second, .val (.int p4), .val (.int 2), .val (.int 0)] [(.int (if (cmpValue (FP.fcmp f2 f7) .g) < (0 : Int32) then (1 : Int32) else (if (cmpValue (FP.fcmp f2 f7) .l) = (0 : Int32) then (if p4 < p14 then (1 : Int32) else (0 : Int32)) else (0 : Int32))))])) _
    rw [← ex41]
    refine XS.ifYes X40.here hx rfl (pc0 := 36) (pc' := 42) rfl (hb hby d8_36) rfl ((if0 _ _).trans (feq ((by rw [ex41]; exact cc1) : ¬ (x41 = (0 : Int32)))).2) (by decide) (by decide) ?_
    refine XS.aloadN X40.here hx rfl (hb hby d8_42) rfl rfl ?_
    refine XS.iload X40.here hx rfl (hb hby d8_43) rfl ?_
    refine XS.iload X40.here hx rfl (hb hby d8_45) rfl ?_
    refine st42 _ ?_
    refine XS.iload X42.here hx rfl (hb hby d8_50) rfl ?_
    refine XS.istore X42.here hx rfl (hb hby d8_52) rfl (l' := #[.val (.ref a1), .val (.int 2), .val (.float f2), .val (.long q3), .second, .val (.int p4), .val (.int 0), .val (.int 0)]) rfl ?_
    refine XS.goto X42.here hx rfl (pc0 := 54) (pc' := 3) rfl (hb hby d8_54) (by decide) (by decide) ?_
    refine XS.iload X42.here hx rfl (hb hby d8_3) rfl ?_
    refine XS.ifYes X42.here hx rfl (pc0 := 5) (pc' := 57) rfl (hb hby d8_5) rfl ((if0 _ _).trans (flt ((by decide : ¬ ((0 : Int32) < (0 : Int32))) : ¬ ((0 : Int32) < (0 : Int32)))).2.2.2) (by decide) (by decide) ?_
    refine XS.aloadN X42.here hx rfl (hb hby d8_57) rfl rfl ?_
    refine XS.iload X42.here hx rfl (hb hby d8_58) rfl ?_
    refine XS.floadN X42.here hx rfl (hb hby d8_60) rfl ?_
    refine XS.lloadN X42.here hx rfl (hb hby d8_61) rfl ?_
    refine XS.iload X42.here hx rfl (hb hby d8_62) rfl ?_
    refine st46 _ ?_
    exact X46.returnOut hx hret (hb hby d8_67) hr
theorem rm68 (l : Launch) (Z : State) (a0 : Array Value) (hw : HW a0 Z) (ws : List Jvm.Cond) (a1 : Addr) (f2 : UInt32) (q3 : Int64) (p4 : Int32) (a5 : Addr) (f7 : UInt32) (f8 : UInt32) (k9 : ClassId) (a12 : Addr) (p14 : Int32) (p15 : Int32) (k16 : ClassId) (a29 : Addr) (q30 : Int64) (q31 : Int64) (k32 : ClassId) (h0 : Heap) (n0 : Nat) (Z0 : n0 ≤ h0.size) (F_scoresAsRead_a1 : Fld Z h0 a1 kT "scoresAsRead" "[F" (.ref a5)) (V_a5 : Arv Z h0 a5 k9 .float (3 : Int32) [(.float f7), (.float f8), (.float 0)] (.float 0)) (F_ordinals_a1 : Fld Z h0 a1 kT "ordinals" "[I" (.ref a12)) (V_a12 : Arv Z h0 a12 k16 .int (3 : Int32) [(.int p14), (.int p15), (.int 0)] (.int 0)) (g_a5 : n0 ≤ a5) (F_scores_a1 : Fld Z h0 a1 kT "scores" "[J" (.ref a29)) (ne_a1_a5 : a1 ≠ a5) (V_a29 : Arv Z h0 a29 k32 .long (3 : Int32) [(.long q30), (.long q31), (.long 0)] (.long 0)) (ne_a29_a5 : a29 ≠ a5) (g_a29 : n0 ≤ a29) (ne_a1_a29 : a1 ≠ a29) (ne_a12_a5 : a12 ≠ a5) (ne_a12_a29 : a12 ≠ a29) (g_a12 : n0 ≤ a12) (E_a5 : Exa Z h0 a5 "[F") (E_a29 : Exa Z h0 a29 "[J") (E_a12 : Exa Z h0 a12 "[I") (E_a1 : Exa Z h0 a1 kT) (ne_a1_a12 : a1 ≠ a12) :
    OwnMet l Z y_6 prog_25_method_8_code 8 none ws Rm68 #[(.ref a1), (.int 2), (.float f2), (.long q3), (.int p4)] h0 (Q68 Z a1 f2 q3 p4 a5 f7 f8 k9 a12 p14 p15 k16 a29 q30 q31 k32 h0 n0) := by
  by_cases cc1 : (if (cmpValue (FP.fcmp f2 f7) .g) < (0 : Int32) then (1 : Int32) else (if (cmpValue (FP.fcmp f2 f7) .l) = (0 : Int32) then (if p4 < p14 then (1 : Int32) else (0 : Int32)) else (0 : Int32))) = (0 : Int32)
  · exact rm68_0 l Z a0 hw ws a1 f2 q3 p4 a5 f7 f8 k9 a12 p14 p15 k16 a29 q30 q31 k32 h0 n0 Z0 F_scoresAsRead_a1 V_a5 F_ordinals_a1 V_a12 g_a5 F_scores_a1 ne_a1_a5 V_a29 ne_a29_a5 g_a29 ne_a1_a29 ne_a12_a5 ne_a12_a29 g_a12 E_a5 E_a29 E_a12 E_a1 ne_a1_a12 cc1
  · exact rm68_1 l Z a0 hw ws a1 f2 q3 p4 a5 f7 f8 k9 a12 p14 p15 k16 a29 q30 q31 k32 h0 n0 Z0 F_scoresAsRead_a1 V_a5 F_ordinals_a1 V_a12 g_a5 F_scores_a1 ne_a1_a5 V_a29 ne_a29_a5 g_a29 ne_a1_a29 ne_a12_a5 ne_a12_a29 g_a12 E_a5 E_a29 E_a12 E_a1 ne_a1_a12 cc1
-- com/example/senret/senret/TopSentences.offer(JI)V
abbrev Rm69 : Room := { frames := 3, cells := 0, slots := 0, locals := 50 }
def Q69 (Z : State) (a1 : Addr) (q2 : Int64) (p3 : Int32) (a7 : Addr) (q8 : Int64) (q9 : Int64) (k10 : ClassId) (a15 : Addr) (f18 : UInt32) (f19 : UInt32) (k20 : ClassId) (a22 : Addr) (p24 : Int32) (p25 : Int32) (k26 : ClassId) (h0 : Heap) (n0 : Nat) (v : Option Value) (h : Heap) (L : List Loc) : Prop := v = none ∧ Fr n0 L ∧ Keep h0 h [a1, a15, a7, a22] ∧ Exa Z h a1 kT ∧ Fld Z h a1 kT "depth" "I" (.int 3) ∧ Fld Z h a1 kT "ordinals" "[I" (.ref a22) ∧ Fld Z h a1 kT "scores" "[J" (.ref a7) ∧ Fld Z h a1 kT "scoresAsRead" "[F" (.ref a15) ∧ Fld Z h a1 kT "size" "I" (.int 3) ∧ Exa Z h a15 "[F" ∧ Arv Z h a15 k20 .float (3 : Int32) [(.float (if (if (cmpValue (FP.fcmp (sC q2) f18) .g) < (0 : Int32) then (1 : Int32) else (if (cmpValue (FP.fcmp (sC q2) f18) .l) = (0 : Int32) then (if p3 < p24 then (1 : Int32) else (0 : Int32)) else (0 : Int32))) = (0 : Int32) then f18 else (sC q2))), (.float f19), (.float (if (if (cmpValue (FP.fcmp (sC q2) f18) .g) < (0 : Int32) then (1 : Int32) else (if (cmpValue (FP.fcmp (sC q2) f18) .l) = (0 : Int32) then (if p3 < p24 then (1 : Int32) else (0 : Int32)) else (0 : Int32))) = (0 : Int32) then (sC q2) else f18))] (.float 0) ∧ Exa Z h a7 "[J" ∧ Arv Z h a7 k10 .long (3 : Int32) [(.long (if (if (cmpValue (FP.fcmp (sC q2) f18) .g) < (0 : Int32) then (1 : Int32) else (if (cmpValue (FP.fcmp (sC q2) f18) .l) = (0 : Int32) then (if p3 < p24 then (1 : Int32) else (0 : Int32)) else (0 : Int32))) = (0 : Int32) then q8 else q2)), (.long q9), (.long (if (if (cmpValue (FP.fcmp (sC q2) f18) .g) < (0 : Int32) then (1 : Int32) else (if (cmpValue (FP.fcmp (sC q2) f18) .l) = (0 : Int32) then (if p3 < p24 then (1 : Int32) else (0 : Int32)) else (0 : Int32))) = (0 : Int32) then q2 else q8))] (.long 0) ∧ Exa Z h a22 "[I" ∧ Arv Z h a22 k26 .int (3 : Int32) [(.int (if (if (cmpValue (FP.fcmp (sC q2) f18) .g) < (0 : Int32) then (1 : Int32) else (if (cmpValue (FP.fcmp (sC q2) f18) .l) = (0 : Int32) then (if p3 < p24 then (1 : Int32) else (0 : Int32)) else (0 : Int32))) = (0 : Int32) then p24 else p3)), (.int p25), (.int (if (if (cmpValue (FP.fcmp (sC q2) f18) .g) < (0 : Int32) then (1 : Int32) else (if (cmpValue (FP.fcmp (sC q2) f18) .l) = (0 : Int32) then (if p3 < p24 then (1 : Int32) else (0 : Int32)) else (0 : Int32))) = (0 : Int32) then p3 else p24))] (.int 0)
-- ef_8cdad2
theorem rm69 (l : Launch) (Z : State) (a0 : Array Value) (hw : HW a0 Z) (ws : List Jvm.Cond) (a1 : Addr) (q2 : Int64) (p3 : Int32) (a7 : Addr) (q8 : Int64) (q9 : Int64) (k10 : ClassId) (a15 : Addr) (f18 : UInt32) (f19 : UInt32) (k20 : ClassId) (a22 : Addr) (p24 : Int32) (p25 : Int32) (k26 : ClassId) (h0 : Heap) (n0 : Nat) (Z0 : n0 ≤ h0.size) (F_size_a1 : Fld Z h0 a1 kT "size" "I" (.int 2)) (F_depth_a1 : Fld Z h0 a1 kT "depth" "I" (.int 3)) (F_scores_a1 : Fld Z h0 a1 kT "scores" "[J" (.ref a7)) (V_a7 : Arv Z h0 a7 k10 .long (3 : Int32) [(.long q8), (.long q9), (.long 0)] (.long 0)) (E_a1 : Exa Z h0 a1 kT) (g_a1 : n0 ≤ a1) (F_scoresAsRead_a1 : Fld Z h0 a1 kT "scoresAsRead" "[F" (.ref a15)) (V_a15 : Arv Z h0 a15 k20 .float (3 : Int32) [(.float f18), (.float f19), (.float 0)] (.float 0)) (ne_a15_a1 : a15 ≠ a1) (F_ordinals_a1 : Fld Z h0 a1 kT "ordinals" "[I" (.ref a22)) (V_a22 : Arv Z h0 a22 k26 .int (3 : Int32) [(.int p24), (.int p25), (.int 0)] (.int 0)) (ne_a22_a1 : a22 ≠ a1) (g_a15 : n0 ≤ a15) (ne_a7_a1 : a7 ≠ a1) (ne_a7_a15 : a7 ≠ a15) (g_a7 : n0 ≤ a7) (ne_a22_a15 : a22 ≠ a15) (ne_a22_a7 : a22 ≠ a7) (g_a22 : n0 ≤ a22) (E_a15 : Exa Z h0 a15 "[F") (E_a7 : Exa Z h0 a7 "[J") (E_a22 : Exa Z h0 a22 "[I") :
    OwnMet l Z y_7 prog_25_method_4_code 5 none ws Rm69 #[(.ref a1), (.long q2), (.int p3)] h0 (Q69 Z a1 q2 p3 a7 q8 q9 k10 a15 f18 f19 k20 a22 p24 p25 k26 h0 n0) := by
  refine own_body (plainFor_of_name pn_1) (ef_8cdad2 a1 q2 p3) ?_
  intro p e s m below meth c s₁ hx hby hml hown hnm hret hZ X0 e0
  have N0 := Fr.nil n0
  obtain ⟨_, T4, L4, X4, hQ4, st4⟩ := own_callS X0 hx hZ hown (y := y_0) (w_43 hw) (w_1 hw) (w_2 hw) (w_3 hw) (rm1 l Z a0 hw [] q2 h0 n0 Z0) e0 (Ls := #[.val (.ref a1), .val (.long q2), .second, .val (.int p3), .unset]) (by rw [hml]; rfl) (argsL := [(.long q2)]) (rest := []) (lenOf pd_0 rfl) (hb hby d6_1) (W := 0)
  obtain ⟨rfl, Nq4, e4⟩ := hQ4
  have N4 := Fr.app N0 Nq4
  obtain ⟨T5, X5, e5, st5⟩ := getF X4 hx hZ hown (host := "") (Or.inl (w_34 hw)) Via.refl e4 F_size_a1 (g := (mkF m 7 #[.val (.ref a1), .val (.long q2), .second, .val (.int p3), .val (.float (sC q2))] [(.ref a1)])) rfl rfl (hb hby d6_7)
  obtain ⟨T6, X6, e6, st6⟩ := getF X5 hx hZ hown (host := "") (Or.inl (w_14 hw)) Via.refl e5 F_depth_a1 (g := (mkF m 11 #[.val (.ref a1), .val (.long q2), .second, .val (.int p3), .val (.float (sC q2))] [(.ref a1), (.int 2)])) rfl rfl (hb hby d6_11)
  obtain ⟨_, T11, L11, X11, hQ11, st11⟩ := own_private X6 hx hZ hown (y := y_4) E_a1 (w_44 hw) (w_45 hw) (Jvm.Kit.selects_private (by decide) (mvT hZ (w_6 hw)) (mvP hZ (w_46 hw)) (mvT hZ (w_45 hw))) (w_46 hw) (w_7 hw) (w_47 hw) (rm63 l Z a0 hw [] a1 a7 q8 q9 k10 h0 n0 Z0 F_size_a1 F_scores_a1 V_a7) e6 (Ls := #[.val (.ref a1), .val (.long q2), .second, .val (.int p3), .val (.float (sC q2))]) (by rw [hml]; rfl) (argsL := []) (rest := []) (lenOf pd_4 rfl) (hb hby d6_18) (W := 0)
  obtain ⟨rfl, Nq11, e11⟩ := hQ11
  have N11 := Fr.app N4 Nq11
  obtain ⟨T12, X12, e12, st12⟩ := getF X11 hx hZ hown (host := "") (Or.inl (w_34 hw)) Via.refl e11 F_size_a1 (g := (mkF m 23 #[.val (.ref a1), .val (.long q2), .second, .val (.int p3), .val (.float (sC q2))] [(.ref a1), (.ref a1)])) rfl rfl (hb hby d6_23)
  obtain ⟨T13, h13, X13, e13, W13, st13⟩ := putF X12 hx hZ hown (host := "") (Or.inl (w_34 hw)) Via.refl e12 F_size_a1 E_a1 (Or.inl (w_35 hw)) (w_6 hw) (ty := .int) (by decide) rfl rfl (g := (mkF m 28 #[.val (.ref a1), .val (.long q2), .second, .val (.int p3), .val (.float (sC q2))] [(.int 3), (.ref a1)])) rfl rfl (hb hby d6_28)
  have s0 := (Keep.of_wr W13).1
  have N13 := Fr.snoc X13 N11 g_a1
  have Fw13 : Fld Z h13 a1 kT "size" "I" (.int 3) := F_size_a1.same W13
  obtain ⟨T14, X14, e14, st14⟩ := getF X13 hx hZ hown (host := "") (Or.inl (w_34 hw)) Via.refl e13 Fw13 (g := (mkF m 33 #[.val (.ref a1), .val (.long q2), .second, .val (.int p3), .val (.float (sC q2))] [(.ref a1), (.ref a1)])) rfl rfl (hb hby d6_33)
  have Ex16 := (E_a1.wr W13)
  have Fl17 := (F_scoresAsRead_a1.other W13 (Or.inr (slot_ne (Or.inl (w_22 hw)) (Or.inl (w_35 hw)) (by decide) (t := (.array .float)) (t' := .int) (by decide) (by decide))))
  have Va21 := (V_a15.other W13 ne_a15_a1)
  have Fl23 := (F_ordinals_a1.other W13 (Or.inr (slot_ne (Or.inl (w_28 hw)) (Or.inl (w_35 hw)) (by decide) (t := (.array .int)) (t' := .int) (by decide) (by decide))))
  have Va27 := (V_a22.other W13 ne_a22_a1)
  have Fl28 := (F_scores_a1.other W13 (Or.inr (slot_ne (Or.inl (w_25 hw)) (Or.inl (w_35 hw)) (by decide) (t := (.array .long)) (t' := .int) (by decide) (by decide))))
  have Va29 := (V_a7.other W13 ne_a7_a1)
  have Ex30 := (E_a15.wr W13)
  have Ex31 := (E_a7.wr W13)
  have Ex32 := (E_a22.wr W13)
  have z1 := Nat.le_trans Z0 s0
  obtain ⟨_, T33, L33, X33, hQ33, st33⟩ := own_private X14 hx hZ hown (y := y_6) Ex16 (w_48 hw) (w_49 hw) (Jvm.Kit.selects_private (by decide) (mvT hZ (w_6 hw)) (mvP hZ (w_50 hw)) (mvT hZ (w_49 hw))) (w_50 hw) (w_7 hw) (w_51 hw) (rm68 l Z a0 hw [] a1 (sC q2) q2 p3 a15 f18 f19 k20 a22 p24 p25 k26 a7 q8 q9 k10 h13 n0 z1 Fl17 Va21 Fl23 Va27 g_a15 Fl28 (Ne.symm ne_a15_a1) Va29 ne_a7_a15 g_a7 (Ne.symm ne_a7_a1) ne_a22_a15 ne_a22_a7 g_a22 Ex30 Ex31 Ex32 Ex16 (Ne.symm ne_a22_a1)) e14 (Ls := #[.val (.ref a1), .val (.long q2), .second, .val (.int p3), .val (.float (sC q2))]) (by rw [hml]; rfl) (argsL := [(.int 2), (.float (sC q2)), (.long q2), (.int p3)]) (rest := []) (lenOf pd_5 rfl) (hb hby d6_42) (W := 0)
  obtain ⟨rfl, Nq33, K33, o33_0, o33_1, o33_2, o33_3, o33_4, o33_5⟩ := hQ33
  have N33 := Fr.app N13 Nq33
  have s1 := K33.1
  obtain ⟨x34, ex34⟩ : ∃ z, z = (if (if (cmpValue (FP.fcmp (sC q2) f18) .g) < (0 : Int32) then (1 : Int32) else (if (cmpValue (FP.fcmp (sC q2) f18) .l) = (0 : Int32) then (if p3 < p24 then (1 : Int32) else (0 : Int32)) else (0 : Int32))) = (0 : Int32) then f18 else (sC q2)) := ⟨_, rfl⟩
  obtain ⟨x35, ex35⟩ : ∃ z, z = (if (if (cmpValue (FP.fcmp (sC q2) f18) .g) < (0 : Int32) then (1 : Int32) else (if (cmpValue (FP.fcmp (sC q2) f18) .l) = (0 : Int32) then (if p3 < p24 then (1 : Int32) else (0 : Int32)) else (0 : Int32))) = (0 : Int32) then (sC q2) else f18) := ⟨_, rfl⟩
  have o33_1' : Arv Z T33.heap a15 k20 .float (3 : Int32) [(.float x34), (.float f19), (.float x35)] (.float 0) := by rw [ex34, ex35]; exact o33_1
  obtain ⟨x36, ex36⟩ : ∃ z, z = (if (if (cmpValue (FP.fcmp (sC q2) f18) .g) < (0 : Int32) then (1 : Int32) else (if (cmpValue (FP.fcmp (sC q2) f18) .l) = (0 : Int32) then (if p3 < p24 then (1 : Int32) else (0 : Int32)) else (0 : Int32))) = (0 : Int32) then q8 else q2) := ⟨_, rfl⟩
  obtain ⟨x37, ex37⟩ : ∃ z, z = (if (if (cmpValue (FP.fcmp (sC q2) f18) .g) < (0 : Int32) then (1 : Int32) else (if (cmpValue (FP.fcmp (sC q2) f18) .l) = (0 : Int32) then (if p3 < p24 then (1 : Int32) else (0 : Int32)) else (0 : Int32))) = (0 : Int32) then q2 else q8) := ⟨_, rfl⟩
  have o33_3' : Arv Z T33.heap a7 k10 .long (3 : Int32) [(.long x36), (.long q9), (.long x37)] (.long 0) := by rw [ex36, ex37]; exact o33_3
  obtain ⟨x38, ex38⟩ : ∃ z, z = (if (if (cmpValue (FP.fcmp (sC q2) f18) .g) < (0 : Int32) then (1 : Int32) else (if (cmpValue (FP.fcmp (sC q2) f18) .l) = (0 : Int32) then (if p3 < p24 then (1 : Int32) else (0 : Int32)) else (0 : Int32))) = (0 : Int32) then p24 else p3) := ⟨_, rfl⟩
  obtain ⟨x39, ex39⟩ : ∃ z, z = (if (if (cmpValue (FP.fcmp (sC q2) f18) .g) < (0 : Int32) then (1 : Int32) else (if (cmpValue (FP.fcmp (sC q2) f18) .l) = (0 : Int32) then (if p3 < p24 then (1 : Int32) else (0 : Int32)) else (0 : Int32))) = (0 : Int32) then p3 else p24) := ⟨_, rfl⟩
  have o33_5' : Arv Z T33.heap a22 k26 .int (3 : Int32) [(.int x38), (.int p25), (.int x39)] (.int 0) := by rw [ex38, ex39]; exact o33_5
  have Ex40 := (Ex16.keep K33)
  have Fl41 := ((F_depth_a1.other W13 (Or.inr (slot_ne (Or.inr (w_15 hw)) (Or.inl (w_35 hw)) (by decide) (t := .int) (t' := .int) (by decide) (by decide)))).keep K33 (ninS (Ne.symm ne_a15_a1) (ninS (Ne.symm ne_a7_a1) (ninS (Ne.symm ne_a22_a1) nin0))))
  have Fl42 := (Fl23.keep K33 (ninS (Ne.symm ne_a15_a1) (ninS (Ne.symm ne_a7_a1) (ninS (Ne.symm ne_a22_a1) nin0))))
  have Fl43 := (Fl28.keep K33 (ninS (Ne.symm ne_a15_a1) (ninS (Ne.symm ne_a7_a1) (ninS (Ne.symm ne_a22_a1) nin0))))
  have Fl44 := (Fl17.keep K33 (ninS (Ne.symm ne_a15_a1) (ninS (Ne.symm ne_a7_a1) (ninS (Ne.symm ne_a22_a1) nin0))))
  have Fl45 := (Fw13.keep K33 (ninS (Ne.symm ne_a15_a1) (ninS (Ne.symm ne_a7_a1) (ninS (Ne.symm ne_a22_a1) nin0))))
  have Kp0 : Keep h0 h13 [a1, a15, a7, a22] := (Keep.refl h0 [a1, a15, a7, a22]).wr W13 (Or.inl (List.mem_of_getElem? (i := 0) rfl))
  have Kp1 : Keep h0 T33.heap [a1, a15, a7, a22] := Kp0.trans K33 (allS (Or.inl (List.mem_of_getElem? (i := 1) rfl)) (allS (Or.inl (List.mem_of_getElem? (i := 2) rfl)) (allS (Or.inl (List.mem_of_getElem? (i := 3) rfl)) all0)))
  refine ⟨T33, _, _, _, none, X33, (fun _ => rfl), by decide, by decide, ?_, fun fs hr => ?_⟩
  · subst ex39
    subst ex38
    subst ex37
    subst ex36
    subst ex35
    subst ex34
    exact ⟨rfl, N33, Kp1, Ex40, Fl41, Fl42, Fl43, Fl44, Fl45, o33_0, o33_1', o33_2, o33_3', o33_4, o33_5'⟩
  · refine XS.lloadN X0.here hx rfl (hb hby d6_0) rfl ?_
    refine st4 _ ?_
    refine XS.fstore X4.here hx rfl (hb hby d6_4) rfl (l' := #[.val (.ref a1), .val (.long q2), .second, .val (.int p3), .val (.float (sC q2))]) rfl ?_
    refine XS.aloadN X4.here hx rfl (hb hby d6_6) rfl rfl ?_
    refine st5 _ ?_
    refine XS.aloadN X5.here hx rfl (hb hby d6_10) rfl rfl ?_
    refine st6 _ ?_
    refine XS.icmpNo X6.here hx rfl (hb hby d6_14) rfl (tlt ((by decide : (2 : Int32) < (3 : Int32)) : (2 : Int32) < (3 : Int32))).2.1 ?_
    refine XS.aloadN X6.here hx rfl (hb hby d6_17) rfl rfl ?_
    refine st11 _ ?_
    refine XS.aloadN X11.here hx rfl (hb hby d6_21) rfl rfl ?_
    refine XS.dup X11.here hx rfl (hb hby d6_22) rfl rfl ?_
    refine st12 _ ?_
    refine XS.iconst X12.here hx rfl (hb hby d6_26) ?_
    refine XS.iadd X12.here hx rfl (hb hby d6_27) rfl ?_
    refine st13 _ ?_
    refine XS.aloadN X13.here hx rfl (hb hby d6_31) rfl rfl ?_
    refine XS.aloadN X13.here hx rfl (hb hby d6_32) rfl rfl ?_
    refine st14 _ ?_
    refine XS.iconst X14.here hx rfl (hb hby d6_36) ?_
    refine XS.isub X14.here hx rfl (hb hby d6_37) rfl ?_
    refine XS.fload X14.here hx rfl (hb hby d6_38) rfl ?_
    refine XS.lloadN X14.here hx rfl (hb hby d6_40) rfl ?_
    refine XS.iloadN X14.here hx rfl (hb hby d6_41) rfl ?_
    refine st33 _ ?_
    refine XS.goto X33.here hx rfl (pc0 := 45) (pc' := 77) rfl (hb hby d6_45) (by decide) (by decide) ?_
    exact X33.returnOut hx hret (hb hby d6_77) hr
-- com/example/senret/senret/TopSentences.lowestAdmitted()F
abbrev Rm70 : Room := { frames := 0, cells := 0, slots := 0, locals := 0 }
def Q70 (Z : State) (a1 : Addr) (a4 : Addr) (f6 : UInt32) (f7 : UInt32) (f8 : UInt32) (k9 : ClassId) (h0 : Heap) (n0 : Nat) (v : Option Value) (h : Heap) (L : List Loc) : Prop := v = some (.float f6) ∧ Fr n0 L ∧ h = h0
-- ef_26f21a
theorem rm70 (l : Launch) (Z : State) (a0 : Array Value) (hw : HW a0 Z) (ws : List Jvm.Cond) (a1 : Addr) (a4 : Addr) (f6 : UInt32) (f7 : UInt32) (f8 : UInt32) (k9 : ClassId) (h0 : Heap) (n0 : Nat) (Z0 : n0 ≤ h0.size) (F_size_a1 : Fld Z h0 a1 kT "size" "I" (.int 3)) (F_depth_a1 : Fld Z h0 a1 kT "depth" "I" (.int 3)) (F_scoresAsRead_a1 : Fld Z h0 a1 kT "scoresAsRead" "[F" (.ref a4)) (V_a4 : Arv Z h0 a4 k9 .float (3 : Int32) [(.float f6), (.float f7), (.float f8)] (.float 0)) :
    OwnMet l Z y_3 prog_25_method_3_code 1 (some .float) ws Rm70 #[(.ref a1)] h0 (Q70 Z a1 a4 f6 f7 f8 k9 h0 n0) := by
  refine own_body (plainFor_of_name pn_1) (ef_26f21a a1) ?_
  intro p e s m below meth c s₁ hx hby hml hown hnm hret hZ X0 e0
  have N0 := Fr.nil n0
  obtain ⟨T2, X2, e2, st2⟩ := getF X0 hx hZ hown (host := "") (Or.inl (w_34 hw)) Via.refl e0 F_size_a1 (g := (mkF m 1 #[.val (.ref a1)] [(.ref a1)])) rfl rfl (hb hby d5_1)
  obtain ⟨T3, X3, e3, st3⟩ := getF X2 hx hZ hown (host := "") (Or.inl (w_14 hw)) Via.refl e2 F_depth_a1 (g := (mkF m 5 #[.val (.ref a1)] [(.ref a1), (.int 3)])) rfl rfl (hb hby d5_5)
  obtain ⟨T5, X5, e5, st5⟩ := getF X3 hx hZ hown (host := "") (Or.inl (w_21 hw)) Via.refl e3 F_scoresAsRead_a1 (g := (mkF m 17 #[.val (.ref a1)] [(.ref a1)])) rfl rfl (hb hby d5_17)
  obtain ⟨cl10, Ar10, q10, S10, M10, Hs10, G10⟩ := id V_a4
  have hin11 : ¬ ((0 : Int32) < 0 ∨ cl10.slots.size ≤ ((0 : Int32)).toNatClampNeg) := inb_of S10 ⟨(by decide : ¬ ((0 : Int32) < (0 : Int32))), (by decide : (0 : Int32) < (3 : Int32))⟩
  refine ⟨T5, _, _, _, (some (.float f6)), X5, nofun, by decide, by decide, ?_, fun fs hr => ?_⟩
  · rw [e5]
    exact ⟨rfl, N0, rfl⟩
  · refine XS.aloadN X0.here hx rfl (hb hby d5_0) rfl rfl ?_
    refine st2 _ ?_
    refine XS.aloadN X2.here hx rfl (hb hby d5_4) rfl rfl ?_
    refine st3 _ ?_
    refine XS.icmpYes X3.here hx rfl (pc0 := 8) (pc' := 16) rfl (hb hby d5_8) rfl (flt ((by decide : ¬ ((3 : Int32) < (3 : Int32))) : ¬ ((3 : Int32) < (3 : Int32)))).2.1 (by decide) (by decide) ?_
    refine XS.aloadN X3.here hx rfl (hb hby d5_16) rfl rfl ?_
    refine st5 _ ?_
    refine XS.iconst X5.here hx rfl (hb hby d5_20) ?_
    refine X5.faload hx (j := (0 : Int32)) (v := (.float f6)) (by rw [e5]; exact Ar10.1) (State.isArrayOf_alike hZ.alike Ar10.2.1) Ar10.2.2 hin11 (Has.at Hs10 hin11 rfl) (g := (mkF m 21 #[.val (.ref a1)] [(.int 0), (.ref a4)])) rfl rfl (hb hby d5_21) _ ?_
    exact retOut X5 hx hret rfl (Or.inr (Or.inr (Or.inr (Or.inl ⟨rfl, rfl, _, rfl⟩)))) (hb hby d5_22) hr
theorem d10_68 : decode method_3_code 68 = .ok (.fload_n 2, 1) := by decide +kernel
theorem d10_69 : decode method_3_code 69 = .ok (.fload_n 3, 1) := by decide +kernel
theorem d10_70 : decode method_3_code 70 = .ok (.invokestatic 39, 3) := by decide +kernel
theorem d10_73 : decode method_3_code 73 = .ok (.fload 4, 2) := by decide +kernel
theorem d10_75 : decode method_3_code 75 = .ok (.invokestatic 39, 3) := by decide +kernel
theorem d10_78 : decode method_3_code 78 = .ok (.freturn, 1) := by decide +kernel
theorem ef_b48adb (f1 : UInt32) (f2 : UInt32) (f3 : UInt32) (m : MethodId) : entryFrame m #[(.int 3), (.int 3), (.float f1), (.float f2), (.float f3)] 5 = mkF m 0 #[.val (.int 3), .val (.int 3), .val (.float f1), .val (.float f2), .val (.float f3)] [] := by first | (simp [entryFrame, mkF, argsToLocals, Value.category]; done) | rfl
-- com/example/senret/senret/TopSentencesLowestAdmittedPinLaw.expected(IIFFF)F
abbrev Rm71 : Room := { frames := 1, cells := 0, slots := 0, locals := 13 }
def Q71 (Z : State) (f1 : UInt32) (f2 : UInt32) (f3 : UInt32) (h0 : Heap) (n0 : Nat) (v : Option Value) (h : Heap) (L : List Loc) : Prop := v = some (.float (if (cmpValue (FP.fcmp (if (cmpValue (FP.fcmp f1 f2) .g) < (0 : Int32) then f1 else f2) f3) .g) < (0 : Int32) then (if (cmpValue (FP.fcmp f1 f2) .g) < (0 : Int32) then f1 else f2) else f3)) ∧ Fr n0 L ∧ h = h0
-- ef_b48adb
theorem rm71 (l : Launch) (Z : State) (a0 : Array Value) (hw : HW a0 Z) (ws : List Jvm.Cond) (f1 : UInt32) (f2 : UInt32) (f3 : UInt32) (h0 : Heap) (n0 : Nat) (Z0 : n0 ≤ h0.size) :
    OwnMet l Z y_8 method_3_code 5 (some .float) ws Rm71 #[(.int 3), (.int 3), (.float f1), (.float f2), (.float f3)] h0 (Q71 Z f1 f2 f3 h0 n0) := by
  refine own_body (plainFor_of_name pn_2) (ef_b48adb f1 f2 f3) ?_
  intro p e s m below meth c s₁ hx hby hml hown hnm hret hZ X0 e0
  have N0 := Fr.nil n0
  obtain ⟨_, T4, L4, X4, hQ4, st4⟩ := own_callS X0 hx hZ hown (y := y_13) (w_70 hw) (w_71 hw) (w_58 hw) (w_72 hw) (rm35 l Z a0 hw [] f1 f2 h0 n0 Z0) e0 (Ls := #[.val (.int 3), .val (.int 3), .val (.float f1), .val (.float f2), .val (.float f3)]) (by rw [hml]; rfl) (argsL := [(.float f1), (.float f2)]) (rest := []) (lenOf pd_10 rfl) (hb hby d10_70) (W := 0)
  obtain ⟨rfl, Nq4, e4⟩ := hQ4
  have N4 := Fr.app N0 Nq4
  obtain ⟨x5, ex5⟩ : ∃ z, z = (if (cmpValue (FP.fcmp f1 f2) .g) < (0 : Int32) then f1 else f2) := ⟨_, rfl⟩
  obtain ⟨_, T6, L6, X6, hQ6, st6⟩ := own_callS X4 hx hZ hown (y := y_13) (w_70 hw) (w_71 hw) (w_58 hw) (w_72 hw) (rm35 l Z a0 hw [] x5 f3 h0 n0 Z0) e4 (Ls := #[.val (.int 3), .val (.int 3), .val (.float f1), .val (.float f2), .val (.float f3)]) (by rw [hml]; rfl) (argsL := [(.float x5), (.float f3)]) (rest := []) (lenOf pd_10 rfl) (hb hby d10_75) (W := 0)
  obtain ⟨rfl, Nq6, e6⟩ := hQ6
  have N6 := Fr.app N4 Nq6
  obtain ⟨x7, ex7⟩ : ∃ z, z = (if (cmpValue (FP.fcmp x5 f3) .g) < (0 : Int32) then x5 else f3) := ⟨_, rfl⟩
  refine ⟨T6, _, _, _, (some (.float x7)), X6, nofun, by decide, by decide, ?_, fun fs hr => ?_⟩
  · rw [e6]
    subst ex7
    subst ex5
    exact ⟨rfl, N6, rfl⟩
  · refine XS.iloadN X0.here hx rfl (hb hby d10_0) rfl ?_
    refine XS.iloadN X0.here hx rfl (hb hby d10_1) rfl ?_
    refine XS.icmpYes X0.here hx rfl (pc0 := 2) (pc' := 8) rfl (hb hby d10_2) rfl (flt ((by decide : ¬ ((3 : Int32) < (3 : Int32))) : ¬ ((3 : Int32) < (3 : Int32)))).2.1 (by decide) (by decide) ?_
    refine XS.iloadN X0.here hx rfl (hb hby d10_8) rfl ?_
    refine XS.iconst X0.here hx rfl (hb hby d10_9) ?_
    refine XS.icmpYes X0.here hx rfl (pc0 := 10) (pc' := 15) rfl (hb hby d10_10) rfl (feq ((by decide : ¬ ((3 : Int32) = (1 : Int32))) : ¬ ((3 : Int32) = (1 : Int32)))).2 (by decide) (by decide) ?_
    refine XS.iloadN X0.here hx rfl (hb hby d10_15) rfl ?_
    refine XS.iconst X0.here hx rfl (hb hby d10_16) ?_
    refine XS.icmpYes X0.here hx rfl (pc0 := 17) (pc' := 39) rfl (hb hby d10_17) rfl (feq ((by decide : ¬ ((3 : Int32) = (2 : Int32))) : ¬ ((3 : Int32) = (2 : Int32)))).2 (by decide) (by decide) ?_
    refine XS.iloadN X0.here hx rfl (hb hby d10_39) rfl ?_
    refine XS.iconst X0.here hx rfl (hb hby d10_40) ?_
    refine XS.icmpYes X0.here hx rfl (pc0 := 41) (pc' := 55) rfl (hb hby d10_41) rfl (feq ((by decide : ¬ ((3 : Int32) = (1 : Int32))) : ¬ ((3 : Int32) = (1 : Int32)))).2 (by decide) (by decide) ?_
    refine XS.iloadN X0.here hx rfl (hb hby d10_55) rfl ?_
    refine XS.iconst X0.here hx rfl (hb hby d10_56) ?_
    refine XS.icmpYes X0.here hx rfl (pc0 := 57) (pc' := 68) rfl (hb hby d10_57) rfl (feq ((by decide : ¬ ((3 : Int32) = (2 : Int32))) : ¬ ((3 : Int32) = (2 : Int32)))).2 (by decide) (by decide) ?_
    refine XS.floadN X0.here hx rfl (hb hby d10_68) rfl ?_
    refine XS.floadN X0.here hx rfl (hb hby d10_69) rfl ?_
    refine st4 _ ?_
    show Steps p.tables e below (T4.setTop (mkF m 73 #[.val (.int 3), .val (.int 3), .val (.float f1), .val (.float f2), .val (.float f3)] [(.float (if (cmpValue (FP.fcmp f1 f2) .g) < (0 : Int32) then f1 else f2))])) _
    rw [← ex5]
    refine XS.fload X4.here hx rfl (hb hby d10_73) rfl ?_
    refine st6 _ ?_
    show Steps p.tables e below (T6.setTop (mkF m 78 #[.val (.int 3), .val (.int 3), .val (.float f1), .val (.float f2), .val (.float f3)] [(.float (if (cmpValue (FP.fcmp x5 f3) .g) < (0 : Int32) then x5 else f3))])) _
    rw [← ex7]
    exact retOut X6 hx hret rfl (Or.inr (Or.inr (Or.inr (Or.inl ⟨rfl, rfl, _, rfl⟩)))) (hb hby d10_78) hr
theorem rm0_2 (l : Launch) (Z : State) (a0 : Array Value) (hw : HW a0 Z) (ws : List Jvm.Cond) (p1 : Int32) (p2 : Int64) (p3 : Int64) (p4 : Int64) (p5 : Int32) (p6 : Int32) (h0 : Heap) (n0 : Nat) (Z0 : n0 ≤ h0.size) (Od0 : Old Z n0 h0) (hk : (p1 &&& (3 : Int32)) = (2 : Int32)) :
    OwnMet l Z x code maxLocals ret ws room_1 #[(.int p1), (.long p2), (.long p3), (.long p4), (.int p5), (.int p6)] h0 (Q0 n0) := by
  refine own_body (plainFor_of_name pn_2) (ef0 p1 p2 p3 p4 p5 p6) ?_
  intro p e s m below meth c s₁ hx hby hml hown hnm hret hZ X0 e0
  have N0 := Fr.nil n0
  obtain ⟨_, T1, L1, X1, hQ1, st1⟩ := own_callS X0 hx hZ hown (y := y_0) (w_0 hw) (w_1 hw) (w_2 hw) (w_3 hw) (rm1 l Z a0 hw [] p2 h0 n0 Z0) e0 (Ls := #[.val (.int p1), .val (.long p2), .second, .val (.long p3), .second, .val (.long p4), .second, .val (.int p5), .val (.int p6), .val (.int 3), .val (.int (p1 >>> ((2 : Int32) &&& 31))), .unset, .unset, .unset, .unset, .unset]) (by rw [hml]; rfl) (argsL := [(.long p2)]) (rest := []) (lenOf pd_0 rfl) (hb hby at_13) (W := 0)
  obtain ⟨rfl, Nq1, e1⟩ := hQ1
  have N1 := Fr.app N0 Nq1
  obtain ⟨_, T2, L2, X2, hQ2, st2⟩ := own_callS X1 hx hZ hown (y := y_0) (w_0 hw) (w_1 hw) (w_2 hw) (w_3 hw) (rm1 l Z a0 hw [] p3 h0 n0 Z0) e1 (Ls := #[.val (.int p1), .val (.long p2), .second, .val (.long p3), .second, .val (.long p4), .second, .val (.int p5), .val (.int p6), .val (.int 3), .val (.int (p1 >>> ((2 : Int32) &&& 31))), .val (.float (sC p2)), .unset, .unset, .unset, .unset]) (by rw [hml]; rfl) (argsL := [(.long p3)]) (rest := []) (lenOf pd_0 rfl) (hb hby at_19) (W := 0)
  obtain ⟨rfl, Nq2, e2⟩ := hQ2
  have N2 := Fr.app N1 Nq2
  obtain ⟨_, T3, L3, X3, hQ3, st3⟩ := own_callS X2 hx hZ hown (y := y_0) (w_0 hw) (w_1 hw) (w_2 hw) (w_3 hw) (rm1 l Z a0 hw [] p4 h0 n0 Z0) e2 (Ls := #[.val (.int p1), .val (.long p2), .second, .val (.long p3), .second, .val (.long p4), .second, .val (.int p5), .val (.int p6), .val (.int 3), .val (.int (p1 >>> ((2 : Int32) &&& 31))), .val (.float (sC p2)), .val (.float (sC p3)), .unset, .unset, .unset]) (by rw [hml]; rfl) (argsL := [(.long p4)]) (rest := []) (lenOf pd_0 rfl) (hb hby at_26) (W := 0)
  obtain ⟨rfl, Nq3, e3⟩ := hQ3
  have N3 := Fr.app N2 Nq3
  obtain ⟨T4, h4, X4, e4, E4, A4, D4, -, st4⟩ := newO X3 hx hZ hown (w_5 hw) (w_6 hw) (w_7 hw) e3 (g := (mkF m 31 #[.val (.int p1), .val (.long p2), .second, .val (.long p3), .second, .val (.long p4), .second, .val (.int p5), .val (.int p6), .val (.int 3), .val (.int (p1 >>> ((2 : Int32) &&& 31))), .val (.float (sC p2)), .val (.float (sC p3)), .val (.float (sC p4)), .unset, .unset] [])) rfl (hb hby at_31) (by decide) (by decide)
  obtain ⟨b4, g4⟩ : ∃ z, z = h0.size := ⟨_, rfl⟩
  rw [← g4] at A4 D4 st4
  have s0 := E4.1
  have Fn4_depth : Fld Z h4 b4 kT "depth" "I" (.int 0) := D4 (Or.inr (w_15 hw)) (ty := .int) (by decide)
  have Fn4_scoresAsRead : Fld Z h4 b4 kT "scoresAsRead" "[F" .null := D4 (Or.inl (w_22 hw)) (ty := (.array .float)) (by decide)
  have Fn4_scores : Fld Z h4 b4 kT "scores" "[J" .null := D4 (Or.inl (w_25 hw)) (ty := (.array .long)) (by decide)
  have Fn4_ordinals : Fld Z h4 b4 kT "ordinals" "[I" .null := D4 (Or.inl (w_28 hw)) (ty := (.array .int)) (by decide)
  have Fn4_size : Fld Z h4 b4 kT "size" "I" (.int 0) := D4 (Or.inl (w_35 hw)) (ty := .int) (by decide)
  have g_b4 : n0 ≤ b4 := Nat.le_trans Z0 (Nat.le_of_eq g4.symm)
  have z1 := Nat.le_trans Z0 s0
  obtain ⟨_, T5, L5, X5, hQ5, st5⟩ := own_special X4 hx hZ hown (y := y_2) (a := b4) (w_8 hw) (w_9 hw) (w_7 hw) (w_10 hw) (rm46 l Z a0 hw [] b4 h4 n0 z1 Fn4_depth A4 g_b4 Fn4_scoresAsRead Fn4_scores Fn4_ordinals Fn4_size) e4 (Ls := #[.val (.int p1), .val (.long p2), .second, .val (.long p3), .second, .val (.long p4), .second, .val (.int p5), .val (.int p6), .val (.int 3), .val (.int (p1 >>> ((2 : Int32) &&& 31))), .val (.float (sC p2)), .val (.float (sC p3)), .val (.float (sC p4)), .unset, .unset]) (by rw [hml]; rfl) (argsL := [(.int 3)]) (rest := [(.ref b4)]) (lenOf pd_2 rfl) (hb hby at_37) (W := 1)
  obtain ⟨b5_b13, k5_k13, b5_b9, k5_k9, b5_b5, k5_k5, rfl, Nq5, K5, o5_0, o5_1, o5_2, o5_3, o5_4, o5_5, o5_6, o5_7, o5_8, o5_9, o5_10, o5_11, o5_12, o5_13, o5_14, o5_15, o5_16, o5_17⟩ := hQ5
  have N5 := Fr.app N3 Nq5
  have s1 := K5.1
  have z2 := Nat.le_trans Z0 (Nat.le_trans s0 s1)
  obtain ⟨_, T6, L6, X6, hQ6, st6⟩ := own_virtual X5 hx hZ hown (y := y_3) (z := y_3) o5_0 (w_29 hw) (w_30 hw) (notFace_of_selects (args := #[]) (mvT hZ (w_32 hw))) (w_32 hw) (w_31 hw) (w_7 hw) (w_33 hw) (rm47 l Z a0 hw [] b4 T5.heap n0 z2 o5_5 o5_1) rfl (Ls := #[.val (.int p1), .val (.long p2), .second, .val (.long p3), .second, .val (.long p4), .second, .val (.int p5), .val (.int p6), .val (.int 3), .val (.int (p1 >>> ((2 : Int32) &&& 31))), .val (.float (sC p2)), .val (.float (sC p3)), .val (.float (sC p4)), .val (.ref b4), .unset]) (by rw [hml]; rfl) (argsL := []) (rest := []) (lenOf pd_3 rfl) (hb hby at_44) (W := 0)
  obtain ⟨rfl, Nq6, e6⟩ := hQ6
  have N6 := Fr.app N5 Nq6
  have ne_b4_b5_b5 := Nat.ne_of_lt (Nat.lt_of_lt_of_le Fn4_size.lt o5_12)
  have g_b5_b5 : n0 ≤ b5_b5 := Nat.le_trans z1 o5_12
  have ne_b4_b5_b9 := Nat.ne_of_lt (Nat.lt_of_lt_of_le Fn4_size.lt o5_9)
  have g_b5_b9 : n0 ≤ b5_b9 := Nat.le_trans z1 o5_9
  have ne_b4_b5_b13 := Nat.ne_of_lt (Nat.lt_of_lt_of_le Fn4_size.lt o5_6)
  have g_b5_b13 : n0 ≤ b5_b13 := Nat.le_trans z1 o5_6
  obtain ⟨_, T7, L7, X7, hQ7, st7⟩ := own_virtual X6 hx hZ hown (y := y_7) (z := y_7) o5_0 (w_38 hw) (w_39 hw) (notFace_of_selects (args := #[]) (mvT hZ (w_41 hw))) (w_41 hw) (w_40 hw) (w_7 hw) (w_42 hw) (rm51 l Z a0 hw [] b4 p2 p5 b5_b9 k5_k9 b5_b5 k5_k5 b5_b13 k5_k13 T5.heap n0 z2 o5_5 o5_1 o5_3 o5_11 o5_0 g_b4 o5_4 o5_14 (Ne.symm ne_b4_b5_b5) g_b5_b5 (Ne.symm ne_b4_b5_b9) o5_17 g_b5_b9 o5_2 o5_8 (Ne.symm ne_b4_b5_b13) o5_16 o5_15 g_b5_b13 o5_13 o5_10 o5_7) e6 (Ls := #[.val (.int p1), .val (.long p2), .second, .val (.long p3), .second, .val (.long p4), .second, .val (.int p5), .val (.int p6), .val (.int 3), .val (.int (p1 >>> ((2 : Int32) &&& 31))), .val (.float (sC p2)), .val (.float (sC p3)), .val (.float (sC p4)), .val (.ref b4), .val (.int 1)]) (by rw [hml]; rfl) (argsL := [(.long p2), (.int p5)]) (rest := []) (lenOf pd_6 rfl) (hb hby at_65) (W := 0)
  obtain ⟨rfl, Nq7, K7, o7_0, o7_1, o7_2, o7_3, o7_4, o7_5, o7_6, o7_7, o7_8, o7_9, o7_10, o7_11⟩ := hQ7
  have N7 := Fr.app N6 Nq7
  have s2 := K7.1
  have z3 := Nat.le_trans Z0 (Nat.le_trans (Nat.le_trans s0 s1) s2)
  obtain ⟨_, T8, L8, X8, hQ8, st8⟩ := own_virtual X7 hx hZ hown (y := y_3) (z := y_3) o7_0 (w_29 hw) (w_30 hw) (notFace_of_selects (args := #[]) (mvT hZ (w_32 hw))) (w_32 hw) (w_31 hw) (w_7 hw) (w_33 hw) (rm52 l Z a0 hw [] b4 T7.heap n0 z3 o7_5 o7_1) rfl (Ls := #[.val (.int p1), .val (.long p2), .second, .val (.long p3), .second, .val (.long p4), .second, .val (.int p5), .val (.int p6), .val (.int 3), .val (.int (p1 >>> ((2 : Int32) &&& 31))), .val (.float (sC p2)), .val (.float (sC p3)), .val (.float (sC p4)), .val (.ref b4), .val (.int 1)]) (by rw [hml]; rfl) (argsL := []) (rest := []) (lenOf pd_3 rfl) (hb hby at_75) (W := 0)
  obtain ⟨rfl, Nq8, e8⟩ := hQ8
  have N8 := Fr.app N7 Nq8
  obtain ⟨_, T9, L9, X9, hQ9, st9⟩ := own_callS X8 hx hZ hown (y := y_8) (w_56 hw) (w_57 hw) (w_58 hw) (w_59 hw) (rm53 l Z a0 hw [] (sC p2) (sC p3) (sC p4) T7.heap n0 z3) e8 (Ls := #[.val (.int p1), .val (.long p2), .second, .val (.long p3), .second, .val (.long p4), .second, .val (.int p5), .val (.int p6), .val (.int 3), .val (.int (p1 >>> ((2 : Int32) &&& 31))), .val (.float (sC p2)), .val (.float (sC p3)), .val (.float (sC p4)), .val (.ref b4), .val (.int 1)]) (by rw [hml]; rfl) (argsL := [(.int 3), (.int 1), (.float (sC p2)), (.float (sC p3)), (.float (sC p4))]) (rest := [(.float 4286578688)]) (lenOf pd_7 rfl) (hb hby at_87) (W := 1)
  obtain ⟨rfl, Nq9, e9⟩ := hQ9
  have N9 := Fr.app N8 Nq9
  obtain ⟨_, T10, L10, X10, hQ10, st10⟩ := own_virtual X9 hx hZ hown (y := y_7) (z := y_7) o7_0 (w_38 hw) (w_39 hw) (notFace_of_selects (args := #[]) (mvT hZ (w_41 hw))) (w_41 hw) (w_40 hw) (w_7 hw) (w_42 hw) (rm60 l Z a0 hw [] b4 p3 p6 b5_b9 p2 k5_k9 b5_b5 (sC p2) k5_k5 b5_b13 p5 k5_k13 T7.heap n0 z3 o7_5 o7_1 o7_3 o7_9 o7_0 g_b4 o7_4 o7_7 (Ne.symm ne_b4_b5_b5) o7_2 o7_11 (Ne.symm ne_b4_b5_b13) g_b5_b5 (Ne.symm ne_b4_b5_b9) o5_17 g_b5_b9 o5_16 o5_15 g_b5_b13 o7_6 o7_8 o7_10) e9 (Ls := #[.val (.int p1), .val (.long p2), .second, .val (.long p3), .second, .val (.long p4), .second, .val (.int p5), .val (.int p6), .val (.int 3), .val (.int (p1 >>> ((2 : Int32) &&& 31))), .val (.float (sC p2)), .val (.float (sC p3)), .val (.float (sC p4)), .val (.ref b4), .val (.int 1)]) (by rw [hml]; rfl) (argsL := [(.long p3), (.int p6)]) (rest := []) (lenOf pd_6 rfl) (hb hby at_106) (W := 0)
  obtain ⟨rfl, Nq10, K10, o10_0, o10_1, o10_2, o10_3, o10_4, o10_5, o10_6, o10_7, o10_8, o10_9, o10_10, o10_11⟩ := hQ10
  have N10 := Fr.app N9 Nq10
  have s3 := K10.1
  obtain ⟨x11, ex11⟩ : ∃ z, z = (if (if (cmpValue (FP.fcmp (sC p3) (sC p2)) .g) < (0 : Int32) then (1 : Int32) else (if (cmpValue (FP.fcmp (sC p3) (sC p2)) .l) = (0 : Int32) then (if p6 < p5 then (1 : Int32) else (0 : Int32)) else (0 : Int32))) = (0 : Int32) then (sC p2) else (sC p3)) := ⟨_, rfl⟩
  obtain ⟨x12, ex12⟩ : ∃ z, z = (if (if (cmpValue (FP.fcmp (sC p3) (sC p2)) .g) < (0 : Int32) then (1 : Int32) else (if (cmpValue (FP.fcmp (sC p3) (sC p2)) .l) = (0 : Int32) then (if p6 < p5 then (1 : Int32) else (0 : Int32)) else (0 : Int32))) = (0 : Int32) then (sC p3) else (sC p2)) := ⟨_, rfl⟩
  have o10_7' : Arv Z T10.heap b5_b5 k5_k5 .float (3 : Int32) [(.float x11), (.float x12), (.float 0)] (.float 0) := by rw [ex11, ex12]; exact o10_7
  obtain ⟨x13, ex13⟩ : ∃ z, z = (if (if (cmpValue (FP.fcmp (sC p3) (sC p2)) .g) < (0 : Int32) then (1 : Int32) else (if (cmpValue (FP.fcmp (sC p3) (sC p2)) .l) = (0 : Int32) then (if p6 < p5 then (1 : Int32) else (0 : Int32)) else (0 : Int32))) = (0 : Int32) then p2 else p3) := ⟨_, rfl⟩
  obtain ⟨x14, ex14⟩ : ∃ z, z = (if (if (cmpValue (FP.fcmp (sC p3) (sC p2)) .g) < (0 : Int32) then (1 : Int32) else (if (cmpValue (FP.fcmp (sC p3) (sC p2)) .l) = (0 : Int32) then (if p6 < p5 then (1 : Int32) else (0 : Int32)) else (0 : Int32))) = (0 : Int32) then p3 else p2) := ⟨_, rfl⟩
  have o10_9' : Arv Z T10.heap b5_b9 k5_k9 .long (3 : Int32) [(.long x13), (.long x14), (.long 0)] (.long 0) := by rw [ex13, ex14]; exact o10_9
  obtain ⟨x15, ex15⟩ : ∃ z, z = (if (if (cmpValue (FP.fcmp (sC p3) (sC p2)) .g) < (0 : Int32) then (1 : Int32) else (if (cmpValue (FP.fcmp (sC p3) (sC p2)) .l) = (0 : Int32) then (if p6 < p5 then (1 : Int32) else (0 : Int32)) else (0 : Int32))) = (0 : Int32) then p5 else p6) := ⟨_, rfl⟩
  obtain ⟨x16, ex16⟩ : ∃ z, z = (if (if (cmpValue (FP.fcmp (sC p3) (sC p2)) .g) < (0 : Int32) then (1 : Int32) else (if (cmpValue (FP.fcmp (sC p3) (sC p2)) .l) = (0 : Int32) then (if p6 < p5 then (1 : Int32) else (0 : Int32)) else (0 : Int32))) = (0 : Int32) then p6 else p5) := ⟨_, rfl⟩
  have o10_11' : Arv Z T10.heap b5_b13 k5_k13 .int (3 : Int32) [(.int x15), (.int x16), (.int 0)] (.int 0) := by rw [ex15, ex16]; exact o10_11
  have z4 := Nat.le_trans Z0 (Nat.le_trans (Nat.le_trans (Nat.le_trans s0 s1) s2) s3)
  obtain ⟨_, T17, L17, X17, hQ17, st17⟩ := own_virtual X10 hx hZ hown (y := y_3) (z := y_3) o10_0 (w_29 hw) (w_30 hw) (notFace_of_selects (args := #[]) (mvT hZ (w_32 hw))) (w_32 hw) (w_31 hw) (w_7 hw) (w_33 hw) (rm61 l Z a0 hw [] b4 T10.heap n0 z4 o10_5 o10_1) rfl (Ls := #[.val (.int p1), .val (.long p2), .second, .val (.long p3), .second, .val (.long p4), .second, .val (.int p5), .val (.int p6), .val (.int 3), .val (.int (p1 >>> ((2 : Int32) &&& 31))), .val (.float (sC p2)), .val (.float (sC p3)), .val (.float (sC p4)), .val (.ref b4), .val (.int 1)]) (by rw [hml]; rfl) (argsL := []) (rest := []) (lenOf pd_3 rfl) (hb hby at_116) (W := 0)
  obtain ⟨rfl, Nq17, e17⟩ := hQ17
  have N17 := Fr.app N10 Nq17
  obtain ⟨_, T18, L18, X18, hQ18, st18⟩ := own_callS X17 hx hZ hown (y := y_8) (w_56 hw) (w_57 hw) (w_58 hw) (w_59 hw) (rm62 l Z a0 hw [] (sC p2) (sC p3) (sC p4) T10.heap n0 z4) e17 (Ls := #[.val (.int p1), .val (.long p2), .second, .val (.long p3), .second, .val (.long p4), .second, .val (.int p5), .val (.int p6), .val (.int 3), .val (.int (p1 >>> ((2 : Int32) &&& 31))), .val (.float (sC p2)), .val (.float (sC p3)), .val (.float (sC p4)), .val (.ref b4), .val (.int 1)]) (by rw [hml]; rfl) (argsL := [(.int 3), (.int 2), (.float (sC p2)), (.float (sC p3)), (.float (sC p4))]) (rest := [(.float 4286578688)]) (lenOf pd_7 rfl) (hb hby at_128) (W := 1)
  obtain ⟨rfl, Nq18, e18⟩ := hQ18
  have N18 := Fr.app N17 Nq18
  obtain ⟨_, T19, L19, X19, hQ19, st19⟩ := own_virtual X18 hx hZ hown (y := y_7) (z := y_7) o10_0 (w_38 hw) (w_39 hw) (notFace_of_selects (args := #[]) (mvT hZ (w_41 hw))) (w_41 hw) (w_40 hw) (w_7 hw) (w_42 hw) (rm69 l Z a0 hw [] b4 p4 (p1 >>> ((2 : Int32) &&& 31)) b5_b9 x13 x14 k5_k9 b5_b5 x11 x12 k5_k5 b5_b13 x15 x16 k5_k13 T10.heap n0 z4 o10_5 o10_1 o10_3 o10_9' o10_0 g_b4 o10_4 o10_7' (Ne.symm ne_b4_b5_b5) o10_2 o10_11' (Ne.symm ne_b4_b5_b13) g_b5_b5 (Ne.symm ne_b4_b5_b9) o5_17 g_b5_b9 o5_16 o5_15 g_b5_b13 o10_6 o10_8 o10_10) e18 (Ls := #[.val (.int p1), .val (.long p2), .second, .val (.long p3), .second, .val (.long p4), .second, .val (.int p5), .val (.int p6), .val (.int 3), .val (.int (p1 >>> ((2 : Int32) &&& 31))), .val (.float (sC p2)), .val (.float (sC p3)), .val (.float (sC p4)), .val (.ref b4), .val (.int 1)]) (by rw [hml]; rfl) (argsL := [(.long p4), (.int (p1 >>> ((2 : Int32) &&& 31)))]) (rest := []) (lenOf pd_6 rfl) (hb hby at_148) (W := 0)
  obtain ⟨rfl, Nq19, K19, o19_0, o19_1, o19_2, o19_3, o19_4, o19_5, o19_6, o19_7, o19_8, o19_9, o19_10, o19_11⟩ := hQ19
  have N19 := Fr.app N18 Nq19
  have s4 := K19.1
  obtain ⟨x20, ex20⟩ : ∃ z, z = (if (if (cmpValue (FP.fcmp (sC p4) x11) .g) < (0 : Int32) then (1 : Int32) else (if (cmpValue (FP.fcmp (sC p4) x11) .l) = (0 : Int32) then (if (p1 >>> ((2 : Int32) &&& 31)) < x15 then (1 : Int32) else (0 : Int32)) else (0 : Int32))) = (0 : Int32) then x11 else (sC p4)) := ⟨_, rfl⟩
  obtain ⟨x21, ex21⟩ : ∃ z, z = (if (if (cmpValue (FP.fcmp (sC p4) x11) .g) < (0 : Int32) then (1 : Int32) else (if (cmpValue (FP.fcmp (sC p4) x11) .l) = (0 : Int32) then (if (p1 >>> ((2 : Int32) &&& 31)) < x15 then (1 : Int32) else (0 : Int32)) else (0 : Int32))) = (0 : Int32) then (sC p4) else x11) := ⟨_, rfl⟩
  have o19_7' : Arv Z T19.heap b5_b5 k5_k5 .float (3 : Int32) [(.float x20), (.float x12), (.float x21)] (.float 0) := by rw [ex20, ex21]; exact o19_7
  obtain ⟨x22, ex22⟩ : ∃ z, z = (if (if (cmpValue (FP.fcmp (sC p4) x11) .g) < (0 : Int32) then (1 : Int32) else (if (cmpValue (FP.fcmp (sC p4) x11) .l) = (0 : Int32) then (if (p1 >>> ((2 : Int32) &&& 31)) < x15 then (1 : Int32) else (0 : Int32)) else (0 : Int32))) = (0 : Int32) then x13 else p4) := ⟨_, rfl⟩
  obtain ⟨x23, ex23⟩ : ∃ z, z = (if (if (cmpValue (FP.fcmp (sC p4) x11) .g) < (0 : Int32) then (1 : Int32) else (if (cmpValue (FP.fcmp (sC p4) x11) .l) = (0 : Int32) then (if (p1 >>> ((2 : Int32) &&& 31)) < x15 then (1 : Int32) else (0 : Int32)) else (0 : Int32))) = (0 : Int32) then p4 else x13) := ⟨_, rfl⟩
  have o19_9' : Arv Z T19.heap b5_b9 k5_k9 .long (3 : Int32) [(.long x22), (.long x14), (.long x23)] (.long 0) := by rw [ex22, ex23]; exact o19_9
  obtain ⟨x24, ex24⟩ : ∃ z, z = (if (if (cmpValue (FP.fcmp (sC p4) x11) .g) < (0 : Int32) then (1 : Int32) else (if (cmpValue (FP.fcmp (sC p4) x11) .l) = (0 : Int32) then (if (p1 >>> ((2 : Int32) &&& 31)) < x15 then (1 : Int32) else (0 : Int32)) else (0 : Int32))) = (0 : Int32) then x15 else (p1 >>> ((2 : Int32) &&& 31))) := ⟨_, rfl⟩
  obtain ⟨x25, ex25⟩ : ∃ z, z = (if (if (cmpValue (FP.fcmp (sC p4) x11) .g) < (0 : Int32) then (1 : Int32) else (if (cmpValue (FP.fcmp (sC p4) x11) .l) = (0 : Int32) then (if (p1 >>> ((2 : Int32) &&& 31)) < x15 then (1 : Int32) else (0 : Int32)) else (0 : Int32))) = (0 : Int32) then (p1 >>> ((2 : Int32) &&& 31)) else x15) := ⟨_, rfl⟩
  have o19_11' : Arv Z T19.heap b5_b13 k5_k13 .int (3 : Int32) [(.int x24), (.int x16), (.int x25)] (.int 0) := by rw [ex24, ex25]; exact o19_11
  have z5 := Nat.le_trans Z0 (Nat.le_trans (Nat.le_trans (Nat.le_trans (Nat.le_trans s0 s1) s2) s3) s4)
  obtain ⟨_, T26, L26, X26, hQ26, st26⟩ := own_virtual X19 hx hZ hown (y := y_3) (z := y_3) o19_0 (w_29 hw) (w_30 hw) (notFace_of_selects (args := #[]) (mvT hZ (w_32 hw))) (w_32 hw) (w_31 hw) (w_7 hw) (w_33 hw) (rm70 l Z a0 hw [] b4 b5_b5 x20 x12 x21 k5_k5 T19.heap n0 z5 o19_5 o19_1 o19_4 o19_7') rfl (Ls := #[.val (.int p1), .val (.long p2), .second, .val (.long p3), .second, .val (.long p4), .second, .val (.int p5), .val (.int p6), .val (.int 3), .val (.int (p1 >>> ((2 : Int32) &&& 31))), .val (.float (sC p2)), .val (.float (sC p3)), .val (.float (sC p4)), .val (.ref b4), .val (.int 1)]) (by rw [hml]; rfl) (argsL := []) (rest := []) (lenOf pd_3 rfl) (hb hby at_158) (W := 0)
  obtain ⟨rfl, Nq26, e26⟩ := hQ26
  have N26 := Fr.app N19 Nq26
  obtain ⟨_, T27, L27, X27, hQ27, st27⟩ := own_callS X26 hx hZ hown (y := y_8) (w_56 hw) (w_57 hw) (w_58 hw) (w_59 hw) (rm71 l Z a0 hw [] (sC p2) (sC p3) (sC p4) T19.heap n0 z5) e26 (Ls := #[.val (.int p1), .val (.long p2), .second, .val (.long p3), .second, .val (.long p4), .second, .val (.int p5), .val (.int p6), .val (.int 3), .val (.int (p1 >>> ((2 : Int32) &&& 31))), .val (.float (sC p2)), .val (.float (sC p3)), .val (.float (sC p4)), .val (.ref b4), .val (.int 1)]) (by rw [hml]; rfl) (argsL := [(.int 3), (.int 3), (.float (sC p2)), (.float (sC p3)), (.float (sC p4))]) (rest := [(.float x20)]) (lenOf pd_7 rfl) (hb hby at_170) (W := 1)
  obtain ⟨rfl, Nq27, e27⟩ := hQ27
  have N27 := Fr.app N26 Nq27
  obtain ⟨x28, ex28⟩ : ∃ z, z = (if (cmpValue (FP.fcmp (if (cmpValue (FP.fcmp (sC p2) (sC p3)) .g) < (0 : Int32) then (sC p2) else (sC p3)) (sC p4)) .g) < (0 : Int32) then (if (cmpValue (FP.fcmp (sC p2) (sC p3)) .g) < (0 : Int32) then (sC p2) else (sC p3)) else (sC p4)) := ⟨_, rfl⟩
  have cd29 : (cmpValue (FP.fcmp (if (if (cmpValue (FP.fcmp (sC p4) (if (if (cmpValue (FP.fcmp (sC p3) (sC p2)) .g) < (0 : Int32) then (1 : Int32) else (if (cmpValue (FP.fcmp (sC p3) (sC p2)) .l) = (0 : Int32) then (if p6 < p5 then (1 : Int32) else (0 : Int32)) else (0 : Int32))) = (0 : Int32) then (sC p2) else (sC p3))) .g) < (0 : Int32) then (1 : Int32) else (if (cmpValue (FP.fcmp (sC p4) (if (if (cmpValue (FP.fcmp (sC p3) (sC p2)) .g) < (0 : Int32) then (1 : Int32) else (if (cmpValue (FP.fcmp (sC p3) (sC p2)) .l) = (0 : Int32) then (if p6 < p5 then (1 : Int32) else (0 : Int32)) else (0 : Int32))) = (0 : Int32) then (sC p2) else (sC p3))) .l) = (0 : Int32) then (if (p1 >>> ((2 : Int32) &&& 31)) < (if (if (cmpValue (FP.fcmp (sC p3) (sC p2)) .g) < (0 : Int32) then (1 : Int32) else (if (cmpValue (FP.fcmp (sC p3) (sC p2)) .l) = (0 : Int32) then (if p6 < p5 then (1 : Int32) else (0 : Int32)) else (0 : Int32))) = (0 : Int32) then p5 else p6) then (1 : Int32) else (0 : Int32)) else (0 : Int32))) = (0 : Int32) then (if (if (cmpValue (FP.fcmp (sC p3) (sC p2)) .g) < (0 : Int32) then (1 : Int32) else (if (cmpValue (FP.fcmp (sC p3) (sC p2)) .l) = (0 : Int32) then (if p6 < p5 then (1 : Int32) else (0 : Int32)) else (0 : Int32))) = (0 : Int32) then (sC p2) else (sC p3)) else (sC p4)) (if (cmpValue (FP.fcmp (if (cmpValue (FP.fcmp (sC p2) (sC p3)) .g) < (0 : Int32) then (sC p2) else (sC p3)) (sC p4)) .g) < (0 : Int32) then (if (cmpValue (FP.fcmp (sC p2) (sC p3)) .g) < (0 : Int32) then (sC p2) else (sC p3)) else (sC p4))) .l) = (0 : Int32) := (by rw []; exact own_fin_4 (sC p2) (sC p3) (sC p4) p5 p6 (p1 >>> ((2 : Int32) &&& 31)) (own_nn32 p2) (own_nn32 p3) (own_nn32 p4))
  refine ⟨T27, _, _, _, (some (.int 1)), X27, nofun, by decide, by decide, ?_, fun fs hr => ?_⟩
  · show Q0 n0 _ T27.heap _
    rw [e27]
    subst ex28
    subst ex25
    subst ex24
    subst ex23
    subst ex22
    subst ex21
    subst ex20
    subst ex16
    subst ex15
    subst ex14
    subst ex13
    subst ex12
    subst ex11
    exact ⟨rfl, N27⟩
  · refine XS.iloadN X0.here hx rfl (hb hby at_0) rfl ?_
    refine XS.iconst X0.here hx rfl (hb hby at_1) ?_
    refine XS.iand X0.here hx rfl (hb hby at_2) rfl ?_
    show Steps p.tables e below (s₁.setTop (mkF m 3 #[.val (.int p1), .val (.long p2), .second, .val (.long p3), .second, .val (.long p4), .second, .val (.int p5), .val (.int p6), .unset, .unset, .unset, .unset, .unset, .unset, .unset] [(.int (p1 &&& (3 : Int32)))])) _
    rw [hk]
    refine XS.iconst X0.here hx rfl (hb hby at_3) ?_
    refine XS.iadd X0.here hx rfl (hb hby at_4) rfl ?_
    refine XS.istore X0.here hx rfl (hb hby at_5) rfl (l' := #[.val (.int p1), .val (.long p2), .second, .val (.long p3), .second, .val (.long p4), .second, .val (.int p5), .val (.int p6), .val (.int 3), .unset, .unset, .unset, .unset, .unset, .unset]) rfl ?_
    refine XS.iloadN X0.here hx rfl (hb hby at_7) rfl ?_
    refine XS.iconst X0.here hx rfl (hb hby at_8) ?_
    refine XS.ishr X0.here hx rfl (hb hby at_9) rfl ?_
    refine XS.istore X0.here hx rfl (hb hby at_10) rfl (l' := #[.val (.int p1), .val (.long p2), .second, .val (.long p3), .second, .val (.long p4), .second, .val (.int p5), .val (.int p6), .val (.int 3), .val (.int (p1 >>> ((2 : Int32) &&& 31))), .unset, .unset, .unset, .unset, .unset]) rfl ?_
    refine XS.lloadN X0.here hx rfl (hb hby at_12) rfl ?_
    refine st1 _ ?_
    refine XS.fstore X1.here hx rfl (hb hby at_16) rfl (l' := #[.val (.int p1), .val (.long p2), .second, .val (.long p3), .second, .val (.long p4), .second, .val (.int p5), .val (.int p6), .val (.int 3), .val (.int (p1 >>> ((2 : Int32) &&& 31))), .val (.float (sC p2)), .unset, .unset, .unset, .unset]) rfl ?_
    refine XS.lloadN X1.here hx rfl (hb hby at_18) rfl ?_
    refine st2 _ ?_
    refine XS.fstore X2.here hx rfl (hb hby at_22) rfl (l' := #[.val (.int p1), .val (.long p2), .second, .val (.long p3), .second, .val (.long p4), .second, .val (.int p5), .val (.int p6), .val (.int 3), .val (.int (p1 >>> ((2 : Int32) &&& 31))), .val (.float (sC p2)), .val (.float (sC p3)), .unset, .unset, .unset]) rfl ?_
    refine XS.lload X2.here hx rfl (hb hby at_24) rfl ?_
    refine st3 _ ?_
    refine XS.fstore X3.here hx rfl (hb hby at_29) rfl (l' := #[.val (.int p1), .val (.long p2), .second, .val (.long p3), .second, .val (.long p4), .second, .val (.int p5), .val (.int p6), .val (.int 3), .val (.int (p1 >>> ((2 : Int32) &&& 31))), .val (.float (sC p2)), .val (.float (sC p3)), .val (.float (sC p4)), .unset, .unset]) rfl ?_
    refine st4 _ ?_
    refine XS.dup X4.here hx rfl (hb hby at_34) rfl rfl ?_
    refine XS.iload X4.here hx rfl (hb hby at_35) rfl ?_
    refine st5 _ ?_
    refine XS.astore X5.here hx rfl (hb hby at_40) rfl rfl (l' := #[.val (.int p1), .val (.long p2), .second, .val (.long p3), .second, .val (.long p4), .second, .val (.int p5), .val (.int p6), .val (.int 3), .val (.int (p1 >>> ((2 : Int32) &&& 31))), .val (.float (sC p2)), .val (.float (sC p3)), .val (.float (sC p4)), .val (.ref b4), .unset]) rfl ?_
    refine XS.aload X5.here hx rfl (hb hby at_42) rfl rfl ?_
    refine st6 _ ?_
    refine X6.ldcFloatC hx hown (mvT hZ (w_37 hw)) (g := (mkF m 47 #[.val (.int p1), .val (.long p2), .second, .val (.long p3), .second, .val (.long p4), .second, .val (.int p5), .val (.int p6), .val (.int 3), .val (.int (p1 >>> ((2 : Int32) &&& 31))), .val (.float (sC p2)), .val (.float (sC p3)), .val (.float (sC p4)), .val (.ref b4), .unset] [(.float 4286578688)])) rfl (hb hby at_47) _ ?_
    refine XS.fcmpS X6.here hx rfl (hb hby at_49) rfl (by decide +kernel : (cmpValue (FP.fcmp (4286578688 : UInt32) (4286578688 : UInt32)) .l) = (0 : Int32)) ?_
    refine XS.ifNo X6.here hx rfl (hb hby at_50) rfl ((if0 _ _).trans (teq ((by decide : (0 : Int32) = (0 : Int32)) : (0 : Int32) = (0 : Int32))).2) ?_
    refine XS.iconst X6.here hx rfl (hb hby at_53) ?_
    refine XS.goto X6.here hx rfl (pc0 := 54) (pc' := 58) rfl (hb hby at_54) (by decide) (by decide) ?_
    refine XS.istore X6.here hx rfl (hb hby at_58) rfl (l' := #[.val (.int p1), .val (.long p2), .second, .val (.long p3), .second, .val (.long p4), .second, .val (.int p5), .val (.int p6), .val (.int 3), .val (.int (p1 >>> ((2 : Int32) &&& 31))), .val (.float (sC p2)), .val (.float (sC p3)), .val (.float (sC p4)), .val (.ref b4), .val (.int 1)]) rfl ?_
    refine XS.aload X6.here hx rfl (hb hby at_60) rfl rfl ?_
    refine XS.lloadN X6.here hx rfl (hb hby at_62) rfl ?_
    refine XS.iload X6.here hx rfl (hb hby at_63) rfl ?_
    refine st7 _ ?_
    refine XS.iload X7.here hx rfl (hb hby at_68) rfl ?_
    refine XS.ifNo X7.here hx rfl (hb hby at_70) rfl ((if0 _ _).trans (feq ((by decide : ¬ ((1 : Int32) = (0 : Int32))) : ¬ ((1 : Int32) = (0 : Int32)))).1) ?_
    refine XS.aload X7.here hx rfl (hb hby at_73) rfl rfl ?_
    refine st8 _ ?_
    refine XS.iload X8.here hx rfl (hb hby at_78) rfl ?_
    refine XS.iconst X8.here hx rfl (hb hby at_80) ?_
    refine XS.fload X8.here hx rfl (hb hby at_81) rfl ?_
    refine XS.fload X8.here hx rfl (hb hby at_83) rfl ?_
    refine XS.fload X8.here hx rfl (hb hby at_85) rfl ?_
    refine st9 _ ?_
    refine XS.fcmpS X9.here hx rfl (hb hby at_90) rfl (by decide +kernel : (cmpValue (FP.fcmp (4286578688 : UInt32) (4286578688 : UInt32)) .l) = (0 : Int32)) ?_
    refine XS.ifNo X9.here hx rfl (hb hby at_91) rfl ((if0 _ _).trans (teq ((by decide : (0 : Int32) = (0 : Int32)) : (0 : Int32) = (0 : Int32))).2) ?_
    refine XS.iconst X9.here hx rfl (hb hby at_94) ?_
    refine XS.goto X9.here hx rfl (pc0 := 95) (pc' := 99) rfl (hb hby at_95) (by decide) (by decide) ?_
    refine XS.istore X9.here hx rfl (hb hby at_99) rfl (l' := #[.val (.int p1), .val (.long p2), .second, .val (.long p3), .second, .val (.long p4), .second, .val (.int p5), .val (.int p6), .val (.int 3), .val (.int (p1 >>> ((2 : Int32) &&& 31))), .val (.float (sC p2)), .val (.float (sC p3)), .val (.float (sC p4)), .val (.ref b4), .val (.int 1)]) rfl ?_
    refine XS.aload X9.here hx rfl (hb hby at_101) rfl rfl ?_
    refine XS.lloadN X9.here hx rfl (hb hby at_103) rfl ?_
    refine XS.iload X9.here hx rfl (hb hby at_104) rfl ?_
    refine st10 _ ?_
    refine XS.iload X10.here hx rfl (hb hby at_109) rfl ?_
    refine XS.ifNo X10.here hx rfl (hb hby at_111) rfl ((if0 _ _).trans (feq ((by decide : ¬ ((1 : Int32) = (0 : Int32))) : ¬ ((1 : Int32) = (0 : Int32)))).1) ?_
    refine XS.aload X10.here hx rfl (hb hby at_114) rfl rfl ?_
    refine st17 _ ?_
    refine XS.iload X17.here hx rfl (hb hby at_119) rfl ?_
    refine XS.iconst X17.here hx rfl (hb hby at_121) ?_
    refine XS.fload X17.here hx rfl (hb hby at_122) rfl ?_
    refine XS.fload X17.here hx rfl (hb hby at_124) rfl ?_
    refine XS.fload X17.here hx rfl (hb hby at_126) rfl ?_
    refine st18 _ ?_
    refine XS.fcmpS X18.here hx rfl (hb hby at_131) rfl (by decide +kernel : (cmpValue (FP.fcmp (4286578688 : UInt32) (4286578688 : UInt32)) .l) = (0 : Int32)) ?_
    refine XS.ifNo X18.here hx rfl (hb hby at_132) rfl ((if0 _ _).trans (teq ((by decide : (0 : Int32) = (0 : Int32)) : (0 : Int32) = (0 : Int32))).2) ?_
    refine XS.iconst X18.here hx rfl (hb hby at_135) ?_
    refine XS.goto X18.here hx rfl (pc0 := 136) (pc' := 140) rfl (hb hby at_136) (by decide) (by decide) ?_
    refine XS.istore X18.here hx rfl (hb hby at_140) rfl (l' := #[.val (.int p1), .val (.long p2), .second, .val (.long p3), .second, .val (.long p4), .second, .val (.int p5), .val (.int p6), .val (.int 3), .val (.int (p1 >>> ((2 : Int32) &&& 31))), .val (.float (sC p2)), .val (.float (sC p3)), .val (.float (sC p4)), .val (.ref b4), .val (.int 1)]) rfl ?_
    refine XS.aload X18.here hx rfl (hb hby at_142) rfl rfl ?_
    refine XS.lload X18.here hx rfl (hb hby at_144) rfl ?_
    refine XS.iload X18.here hx rfl (hb hby at_146) rfl ?_
    refine st19 _ ?_
    refine XS.iload X19.here hx rfl (hb hby at_151) rfl ?_
    refine XS.ifNo X19.here hx rfl (hb hby at_153) rfl ((if0 _ _).trans (feq ((by decide : ¬ ((1 : Int32) = (0 : Int32))) : ¬ ((1 : Int32) = (0 : Int32)))).1) ?_
    refine XS.aload X19.here hx rfl (hb hby at_156) rfl rfl ?_
    refine st26 _ ?_
    refine XS.iload X26.here hx rfl (hb hby at_161) rfl ?_
    refine XS.iconst X26.here hx rfl (hb hby at_163) ?_
    refine XS.fload X26.here hx rfl (hb hby at_164) rfl ?_
    refine XS.fload X26.here hx rfl (hb hby at_166) rfl ?_
    refine XS.fload X26.here hx rfl (hb hby at_168) rfl ?_
    refine st27 _ ?_
    show Steps p.tables e below (T27.setTop (mkF m 173 #[.val (.int p1), .val (.long p2), .second, .val (.long p3), .second, .val (.long p4), .second, .val (.int p5), .val (.int p6), .val (.int 3), .val (.int (p1 >>> ((2 : Int32) &&& 31))), .val (.float (sC p2)), .val (.float (sC p3)), .val (.float (sC p4)), .val (.ref b4), .val (.int 1)] [(.float (if (cmpValue (FP.fcmp (if (cmpValue (FP.fcmp (sC p2) (sC p3)) .g) < (0 : Int32) then (sC p2) else (sC p3)) (sC p4)) .g) < (0 : Int32) then (if (cmpValue (FP.fcmp (sC p2) (sC p3)) .g) < (0 : Int32) then (sC p2) else (sC p3)) else (sC p4))), (.float x20)])) _
    rw [← ex28]
    refine XS.fcmpS X27.here hx rfl (hb hby at_173) rfl rfl ?_
    refine XS.ifNo X27.here hx rfl (hb hby at_174) rfl ((if0 _ _).trans (teq ((by rw [ex28, ex20, ex15, ex11]; exact cd29) : (cmpValue (FP.fcmp x20 x28) .l) = (0 : Int32))).2) ?_
    refine XS.iconst X27.here hx rfl (hb hby at_177) ?_
    refine XS.goto X27.here hx rfl (pc0 := 178) (pc' := 182) rfl (hb hby at_178) (by decide) (by decide) ?_
    refine XS.istore X27.here hx rfl (hb hby at_182) rfl (l' := #[.val (.int p1), .val (.long p2), .second, .val (.long p3), .second, .val (.long p4), .second, .val (.int p5), .val (.int p6), .val (.int 3), .val (.int (p1 >>> ((2 : Int32) &&& 31))), .val (.float (sC p2)), .val (.float (sC p3)), .val (.float (sC p4)), .val (.ref b4), .val (.int 1)]) rfl ?_
    refine XS.iload X27.here hx rfl (hb hby at_184) rfl ?_
    exact retN X27 hx (t := .boolean) hret (by simp) (hb hby at_186) hr
theorem ef_1b2618  (m : MethodId) : entryFrame m #[(.int 4), (.int 1024)] 2 = mkF m 0 #[.val (.int 4), .val (.int 1024)] [] := by first | (simp [entryFrame, mkF, argsToLocals, Value.category]; done) | rfl
-- java/lang/Math.min(II)I
abbrev Rm72 : Room := { frames := 0, cells := 0, slots := 0, locals := 0 }
def Q72 (Z : State)  (h0 : Heap) (n0 : Nat) (v : Option Value) (h : Heap) (L : List Loc) : Prop := v = some (.int 4) ∧ Fr n0 L ∧ h = h0
-- ef_1b2618
theorem rm72 (l : Launch) (Z : State) (a0 : Array Value) (hw : HW a0 Z) (ws : List Jvm.Cond)  (h0 : Heap) (n0 : Nat) (Z0 : n0 ≤ h0.size) :
    OwnMet l Z y_1 jdk_29_method_69_code 2 (some .int) ws Rm72 #[(.int 4), (.int 1024)] h0 (Q72 Z  h0 n0) := by
  refine own_body (Jvm.Free.JP.mathPlain rfl (by decide +kernel)) (ef_1b2618) ?_
  intro p e s m below meth c s₁ hx hby hml hown hnm hret hZ X0 e0
  have N0 := Fr.nil n0
  refine ⟨s₁, _, _, _, (some (.int 4)), X0, nofun, by decide, by decide, ?_, fun fs hr => ?_⟩
  · rw [e0]
    exact ⟨rfl, N0, rfl⟩
  · refine XS.iloadN X0.here hx rfl (hb hby d4_0) rfl ?_
    refine XS.iloadN X0.here hx rfl (hb hby d4_1) rfl ?_
    refine XS.icmpNo X0.here hx rfl (hb hby d4_2) rfl (flt ((by decide : ¬ ((1024 : Int32) < (4 : Int32))) : ¬ ((1024 : Int32) < (4 : Int32)))).2.2.1 ?_
    refine XS.iloadN X0.here hx rfl (hb hby d4_5) rfl ?_
    refine XS.goto X0.here hx rfl (pc0 := 6) (pc' := 10) rfl (hb hby d4_6) (by decide) (by decide) ?_
    exact retI X0 hx hret (hb hby d4_10) hr
theorem ef_333429 (a1 : Addr) (m : MethodId) : entryFrame m #[(.ref a1), (.int 4)] 3 = mkF m 0 #[.val (.ref a1), .val (.int 4), .unset] [] := by first | (simp [entryFrame, mkF, argsToLocals, Value.category]; done) | rfl
-- com/example/senret/senret/TopSentences.<init>(I)V
abbrev Rm73 : Room := { frames := 1, cells := 3, slots := 12, locals := 13 }
def Q73 (Z : State) (a1 : Addr) (h0 : Heap) (n0 : Nat) (v : Option Value) (h : Heap) (L : List Loc) : Prop := ∃ b13 : Addr, ∃ k13 : ClassId, ∃ b9 : Addr, ∃ k9 : ClassId, ∃ b5 : Addr, ∃ k5 : ClassId, v = none ∧ Fr n0 L ∧ Keep h0 h [a1] ∧ Exa Z h a1 kT ∧ Fld Z h a1 kT "depth" "I" (.int 4) ∧ Fld Z h a1 kT "ordinals" "[I" (.ref b13) ∧ Fld Z h a1 kT "scores" "[J" (.ref b9) ∧ Fld Z h a1 kT "scoresAsRead" "[F" (.ref b5) ∧ Fld Z h a1 kT "size" "I" (.int 0) ∧ h0.size ≤ b13 ∧ Exa Z h b13 "[I" ∧ Arv Z h b13 k13 .int (4 : Int32) [(.int 0), (.int 0), (.int 0), (.int 0)] (.int 0) ∧ h0.size ≤ b9 ∧ Exa Z h b9 "[J" ∧ Arv Z h b9 k9 .long (4 : Int32) [(.long 0), (.long 0), (.long 0), (.long 0)] (.long 0) ∧ h0.size ≤ b5 ∧ Exa Z h b5 "[F" ∧ Arv Z h b5 k5 .float (4 : Int32) [(.float 0), (.float 0), (.float 0), (.float 0)] (.float 0) ∧ b13 ≠ b9 ∧ b13 ≠ b5 ∧ b9 ≠ b5
-- ef_333429
theorem rm73 (l : Launch) (Z : State) (a0 : Array Value) (hw : HW a0 Z) (ws : List Jvm.Cond) (a1 : Addr) (h0 : Heap) (n0 : Nat) (Z0 : n0 ≤ h0.size) (F_depth_a1 : Fld Z h0 a1 kT "depth" "I" (.int 0)) (E_a1 : Exa Z h0 a1 kT) (g_a1 : n0 ≤ a1) (F_scoresAsRead_a1 : Fld Z h0 a1 kT "scoresAsRead" "[F" .null) (F_scores_a1 : Fld Z h0 a1 kT "scores" "[J" .null) (F_ordinals_a1 : Fld Z h0 a1 kT "ordinals" "[I" .null) (F_size_a1 : Fld Z h0 a1 kT "size" "I" (.int 0)) :
    OwnMet l Z y_2 prog_25_method_1_code 3 none ws Rm73 #[(.ref a1), (.int 4)] h0 (Q73 Z a1 h0 n0) := by
  refine own_body (plainFor_of_name pn_1) (ef_333429 a1) ?_
  intro p e s m below meth c s₁ hx hby hml hown hnm hret hZ X0 e0
  have N0 := Fr.nil n0
  obtain ⟨T2, X2, e2, st2⟩ := initO X0 hx hZ hown (w_11 hw) (w_12 hw) (w_13 hw) e0 (g := (mkF m 1 #[.val (.ref a1), .val (.int 4), .unset] [(.ref a1)])) rfl (by rw [hml]; rfl) rfl (hb hby d2_1) (by decide) (W := 0) (by show 2 * 0 + _ ≤ _; exact Nat.le_of_eq rfl) (by decide)
  obtain ⟨T3, h3, X3, e3, W3, st3⟩ := putF X2 hx hZ hown (host := "") (Or.inl (w_14 hw)) Via.refl e2 F_depth_a1 E_a1 (Or.inr ⟨(w_15 hw), rfl, hnm⟩) (w_6 hw) (ty := .int) (by decide) rfl rfl (g := (mkF m 6 #[.val (.ref a1), .val (.int 4), .unset] [(.int 4), (.ref a1)])) rfl rfl (hb hby d2_6)
  have s0 := (Keep.of_wr W3).1
  have N3 := Fr.snoc X3 N0 g_a1
  have Fw3 : Fld Z h3 a1 kT "depth" "I" (.int 4) := F_depth_a1.same W3
  have z1 := Nat.le_trans Z0 s0
  obtain ⟨_, T4, L4, X4, hQ4, st4⟩ := own_callS X3 hx hZ hown (y := y_1) (w_16 hw) (w_17 hw) (w_18 hw) (w_19 hw) (rm72 l Z a0 hw []  h3 n0 z1) e3 (Ls := #[.val (.ref a1), .val (.int 4), .unset]) (by rw [hml]; rfl) (argsL := [(.int 4), (.int 1024)]) (rest := []) (lenOf pd_1 rfl) (hb hby d2_13) (W := 0)
  obtain ⟨rfl, Nq4, e4⟩ := hQ4
  have N4 := Fr.app N3 Nq4
  obtain ⟨T5, h5, k5, X5, e5, E5, A5, B5, st5⟩ := newPE (aty := .float) X4 hx hZ (w_20 hw) e4 (g := (mkF m 19 #[.val (.ref a1), .val (.int 4), .val (.int 4)] [(.int 4), (.ref a1)])) rfl (hb hby d2_19) rfl (by decide) (cap := 4) (by decide) (by decide) (by decide) (by decide) (ad := "[F") (by decide)
  obtain ⟨b5, g5⟩ : ∃ z, z = h3.size := ⟨_, rfl⟩
  rw [← g5] at A5 B5 st5
  have s1 := E5.1
  have Vn5 : Arv Z h5 b5 k5 .float (4 : Int32) [(.float 0), (.float 0), (.float 0), (.float 0)] (.float 0) := (Arv.new A5 (by decide)).pad (pad_rep [] (.float 0) 4)
  have Ex6 := ((E_a1.wr W3).ext E5)
  have Fl7 := ((F_scoresAsRead_a1.other W3 (Or.inr (slot_ne (Or.inl (w_22 hw)) (Or.inr (w_15 hw)) (by decide) (t := (.array .float)) (t' := .int) (by decide) (by decide)))).ext E5)
  obtain ⟨T8, h8, X8, e8, W8, st8⟩ := putF X5 hx hZ hown (host := "") (Or.inl (w_21 hw)) Via.refl e5 Fl7 Ex6 (Or.inl (w_22 hw)) (w_6 hw) (ty := (.array .float)) (by decide) rfl rfl (g := (mkF m 21 #[.val (.ref a1), .val (.int 4), .val (.int 4)] [(.ref b5), (.ref a1)])) rfl rfl (hb hby d2_21)
  have s2 := (Keep.of_wr W8).1
  have N8 := Fr.snoc X8 N4 g_a1
  have Fw8 : Fld Z h8 a1 kT "scoresAsRead" "[F" (.ref b5) := Fl7.same W8
  obtain ⟨T9, h9, k9, X9, e9, E9, A9, B9, st9⟩ := newPE (aty := .long) X8 hx hZ (w_23 hw) e8 (g := (mkF m 26 #[.val (.ref a1), .val (.int 4), .val (.int 4)] [(.int 4), (.ref a1)])) rfl (hb hby d2_26) rfl (by decide) (cap := 4) (by decide) (by decide) (by decide) (by decide) (ad := "[J") (by decide)
  obtain ⟨b9, g9⟩ : ∃ z, z = h8.size := ⟨_, rfl⟩
  rw [← g9] at A9 B9 st9
  have s3 := E9.1
  have Vn9 : Arv Z h9 b9 k9 .long (4 : Int32) [(.long 0), (.long 0), (.long 0), (.long 0)] (.long 0) := (Arv.new A9 (by decide)).pad (pad_rep [] (.long 0) 4)
  have Ex10 := ((Ex6.wr W8).ext E9)
  have Fl11 := ((((F_scores_a1.other W3 (Or.inr (slot_ne (Or.inl (w_25 hw)) (Or.inr (w_15 hw)) (by decide) (t := (.array .long)) (t' := .int) (by decide) (by decide)))).ext E5).other W8 (Or.inr (slot_ne (Or.inl (w_25 hw)) (Or.inl (w_22 hw)) (by decide) (t := (.array .long)) (t' := (.array .float)) (by decide) (by decide)))).ext E9)
  obtain ⟨T12, h12, X12, e12, W12, st12⟩ := putF X9 hx hZ hown (host := "") (Or.inl (w_24 hw)) Via.refl e9 Fl11 Ex10 (Or.inl (w_25 hw)) (w_6 hw) (ty := (.array .long)) (by decide) rfl rfl (g := (mkF m 28 #[.val (.ref a1), .val (.int 4), .val (.int 4)] [(.ref b9), (.ref a1)])) rfl rfl (hb hby d2_28)
  have s4 := (Keep.of_wr W12).1
  have N12 := Fr.snoc X12 N8 g_a1
  have Fw12 : Fld Z h12 a1 kT "scores" "[J" (.ref b9) := Fl11.same W12
  obtain ⟨T13, h13, k13, X13, e13, E13, A13, B13, st13⟩ := newPE (aty := .int) X12 hx hZ (w_26 hw) e12 (g := (mkF m 33 #[.val (.ref a1), .val (.int 4), .val (.int 4)] [(.int 4), (.ref a1)])) rfl (hb hby d2_33) rfl (by decide) (cap := 4) (by decide) (by decide) (by decide) (by decide) (ad := "[I") (by decide)
  obtain ⟨b13, g13⟩ : ∃ z, z = h12.size := ⟨_, rfl⟩
  rw [← g13] at A13 B13 st13
  have s5 := E13.1
  have Vn13 : Arv Z h13 b13 k13 .int (4 : Int32) [(.int 0), (.int 0), (.int 0), (.int 0)] (.int 0) := (Arv.new A13 (by decide)).pad (pad_rep [] (.int 0) 4)
  have Ex14 := ((Ex10.wr W12).ext E13)
  have Fl15 := ((((((F_ordinals_a1.other W3 (Or.inr (slot_ne (Or.inl (w_28 hw)) (Or.inr (w_15 hw)) (by decide) (t := (.array .int)) (t' := .int) (by decide) (by decide)))).ext E5).other W8 (Or.inr (slot_ne (Or.inl (w_28 hw)) (Or.inl (w_22 hw)) (by decide) (t := (.array .int)) (t' := (.array .float)) (by decide) (by decide)))).ext E9).other W12 (Or.inr (slot_ne (Or.inl (w_28 hw)) (Or.inl (w_25 hw)) (by decide) (t := (.array .int)) (t' := (.array .long)) (by decide) (by decide)))).ext E13)
  obtain ⟨T16, h16, X16, e16, W16, st16⟩ := putF X13 hx hZ hown (host := "") (Or.inl (w_27 hw)) Via.refl e13 Fl15 Ex14 (Or.inl (w_28 hw)) (w_6 hw) (ty := (.array .int)) (by decide) rfl rfl (g := (mkF m 35 #[.val (.ref a1), .val (.int 4), .val (.int 4)] [(.ref b13), (.ref a1)])) rfl rfl (hb hby d2_35)
  have s6 := (Keep.of_wr W16).1
  have N16 := Fr.snoc X16 N12 g_a1
  have Fw16 : Fld Z h16 a1 kT "ordinals" "[I" (.ref b13) := Fl15.same W16
  have Ex17 := (Ex14.wr W16)
  have Fl18 := ((((((Fw3.ext E5).other W8 (Or.inr (slot_ne (Or.inr (w_15 hw)) (Or.inl (w_22 hw)) (by decide) (t := .int) (t' := (.array .float)) (by decide) (by decide)))).ext E9).other W12 (Or.inr (slot_ne (Or.inr (w_15 hw)) (Or.inl (w_25 hw)) (by decide) (t := .int) (t' := (.array .long)) (by decide) (by decide)))).ext E13).other W16 (Or.inr (slot_ne (Or.inr (w_15 hw)) (Or.inl (w_28 hw)) (by decide) (t := .int) (t' := (.array .int)) (by decide) (by decide))))
  have Fl19 := ((Fw12.ext E13).other W16 (Or.inr (slot_ne (Or.inl (w_25 hw)) (Or.inl (w_28 hw)) (by decide) (t := (.array .long)) (t' := (.array .int)) (by decide) (by decide))))
  have Fl20 := ((((Fw8.ext E9).other W12 (Or.inr (slot_ne (Or.inl (w_22 hw)) (Or.inl (w_25 hw)) (by decide) (t := (.array .float)) (t' := (.array .long)) (by decide) (by decide)))).ext E13).other W16 (Or.inr (slot_ne (Or.inl (w_22 hw)) (Or.inl (w_28 hw)) (by decide) (t := (.array .float)) (t' := (.array .int)) (by decide) (by decide))))
  have Fl21 := (((((((F_size_a1.other W3 (Or.inr (slot_ne (Or.inl (w_35 hw)) (Or.inr (w_15 hw)) (by decide) (t := .int) (t' := .int) (by decide) (by decide)))).ext E5).other W8 (Or.inr (slot_ne (Or.inl (w_35 hw)) (Or.inl (w_22 hw)) (by decide) (t := .int) (t' := (.array .float)) (by decide) (by decide)))).ext E9).other W12 (Or.inr (slot_ne (Or.inl (w_35 hw)) (Or.inl (w_25 hw)) (by decide) (t := .int) (t' := (.array .long)) (by decide) (by decide)))).ext E13).other W16 (Or.inr (slot_ne (Or.inl (w_35 hw)) (Or.inl (w_28 hw)) (by decide) (t := .int) (t' := (.array .int)) (by decide) (by decide))))
  have sz_b13 : h0.size ≤ b13 := Nat.le_trans (Nat.le_trans (Nat.le_trans (Nat.le_trans (Nat.le_trans s0 s1) s2) s3) s4) (Nat.le_of_eq g13.symm)
  have Ex22 := (B13.wr W16)
  have ne_a1_b13 := Nat.ne_of_lt (Nat.lt_of_lt_of_le Fw12.lt (Nat.le_of_eq g13.symm))
  have Va23 := (Vn13.other W16 (Ne.symm ne_a1_b13))
  have sz_b9 : h0.size ≤ b9 := Nat.le_trans (Nat.le_trans (Nat.le_trans s0 s1) s2) (Nat.le_of_eq g9.symm)
  have Ex24 := (((B9.wr W12).ext E13).wr W16)
  have ne_a1_b9 := Nat.ne_of_lt (Nat.lt_of_lt_of_le Fw8.lt (Nat.le_of_eq g9.symm))
  have Va25 := (((Vn9.other W12 (Ne.symm ne_a1_b9)).ext E13).other W16 (Ne.symm ne_a1_b9))
  have sz_b5 : h0.size ≤ b5 := Nat.le_trans s0 (Nat.le_of_eq g5.symm)
  have Ex26 := (((((B5.wr W8).ext E9).wr W12).ext E13).wr W16)
  have ne_a1_b5 := Nat.ne_of_lt (Nat.lt_of_lt_of_le Fw3.lt (Nat.le_of_eq g5.symm))
  have Va27 := (((((Vn5.other W8 (Ne.symm ne_a1_b5)).ext E9).other W12 (Ne.symm ne_a1_b5)).ext E13).other W16 (Ne.symm ne_a1_b5))
  have ne_b9_b13 := Nat.ne_of_lt (Nat.lt_of_lt_of_le (Nat.lt_of_lt_of_le Vn9.lt s4) (Nat.le_of_eq g13.symm))
  have ne_b5_b13 := Nat.ne_of_lt (Nat.lt_of_lt_of_le (Nat.lt_of_lt_of_le Vn5.lt (Nat.le_trans (Nat.le_trans s2 s3) s4)) (Nat.le_of_eq g13.symm))
  have ne_b5_b9 := Nat.ne_of_lt (Nat.lt_of_lt_of_le (Nat.lt_of_lt_of_le Vn5.lt s2) (Nat.le_of_eq g9.symm))
  have Kp0 : Keep h0 h3 [a1] := (Keep.refl h0 [a1]).wr W3 (Or.inl (List.mem_of_getElem? (i := 0) rfl))
  have Kp1 : Keep h0 h5 [a1] := Kp0.ext E5
  have Kp2 : Keep h0 h8 [a1] := Kp1.wr W8 (Or.inl (List.mem_of_getElem? (i := 0) rfl))
  have Kp3 : Keep h0 h9 [a1] := Kp2.ext E9
  have Kp4 : Keep h0 h12 [a1] := Kp3.wr W12 (Or.inl (List.mem_of_getElem? (i := 0) rfl))
  have Kp5 : Keep h0 h13 [a1] := Kp4.ext E13
  have Kp6 : Keep h0 h16 [a1] := Kp5.wr W16 (Or.inl (List.mem_of_getElem? (i := 0) rfl))
  refine ⟨T16, _, _, _, none, X16, (fun _ => rfl), by decide, by decide, ?_, fun fs hr => ?_⟩
  · rw [e16]
    exact ⟨b13, k13, b9, k9, b5, k5, rfl, N16, Kp6, Ex17, Fl18, Fw16, Fl19, Fl20, Fl21, sz_b13, Ex22, Va23, sz_b9, Ex24, Va25, sz_b5, Ex26, Va27, (Ne.symm ne_b9_b13), (Ne.symm ne_b5_b13), (Ne.symm ne_b5_b9)⟩
  · refine XS.aloadN X0.here hx rfl (hb hby d2_0) rfl rfl ?_
    refine st2 _ ?_
    refine XS.aloadN X2.here hx rfl (hb hby d2_4) rfl rfl ?_
    refine XS.iloadN X2.here hx rfl (hb hby d2_5) rfl ?_
    refine st3 _ ?_
    refine XS.iloadN X3.here hx rfl (hb hby d2_9) rfl ?_
    refine XS.sipush X3.here hx rfl (hb hby d2_10) ?_
    refine st4 _ ?_
    refine XS.istoreN X4.here hx rfl (hb hby d2_16) rfl (l' := #[.val (.ref a1), .val (.int 4), .val (.int 4)]) rfl ?_
    refine XS.aloadN X4.here hx rfl (hb hby d2_17) rfl rfl ?_
    refine XS.iloadN X4.here hx rfl (hb hby d2_18) rfl ?_
    refine st5 _ ?_
    refine st8 _ ?_
    refine XS.aloadN X8.here hx rfl (hb hby d2_24) rfl rfl ?_
    refine XS.iloadN X8.here hx rfl (hb hby d2_25) rfl ?_
    refine st9 _ ?_
    refine st12 _ ?_
    refine XS.aloadN X12.here hx rfl (hb hby d2_31) rfl rfl ?_
    refine XS.iloadN X12.here hx rfl (hb hby d2_32) rfl ?_
    refine st13 _ ?_
    refine st16 _ ?_
    exact X16.returnOut hx hret (hb hby d2_38) hr
-- com/example/senret/senret/TopSentences.lowestAdmitted()F
abbrev Rm74 : Room := { frames := 0, cells := 0, slots := 0, locals := 0 }
def Q74 (Z : State) (a1 : Addr) (h0 : Heap) (n0 : Nat) (v : Option Value) (h : Heap) (L : List Loc) : Prop := v = some (.float 4286578688) ∧ Fr n0 L ∧ h = h0
-- ef_26f21a
theorem rm74 (l : Launch) (Z : State) (a0 : Array Value) (hw : HW a0 Z) (ws : List Jvm.Cond) (a1 : Addr) (h0 : Heap) (n0 : Nat) (Z0 : n0 ≤ h0.size) (F_size_a1 : Fld Z h0 a1 kT "size" "I" (.int 0)) (F_depth_a1 : Fld Z h0 a1 kT "depth" "I" (.int 4)) :
    OwnMet l Z y_3 prog_25_method_3_code 1 (some .float) ws Rm74 #[(.ref a1)] h0 (Q74 Z a1 h0 n0) := by
  refine own_body (plainFor_of_name pn_1) (ef_26f21a a1) ?_
  intro p e s m below meth c s₁ hx hby hml hown hnm hret hZ X0 e0
  have N0 := Fr.nil n0
  obtain ⟨T2, X2, e2, st2⟩ := getF X0 hx hZ hown (host := "") (Or.inl (w_34 hw)) Via.refl e0 F_size_a1 (g := (mkF m 1 #[.val (.ref a1)] [(.ref a1)])) rfl rfl (hb hby d5_1)
  obtain ⟨T3, X3, e3, st3⟩ := getF X2 hx hZ hown (host := "") (Or.inl (w_14 hw)) Via.refl e2 F_depth_a1 (g := (mkF m 5 #[.val (.ref a1)] [(.ref a1), (.int 0)])) rfl rfl (hb hby d5_5)
  refine ⟨T3, _, _, _, (some (.float 4286578688)), X3, nofun, by decide, by decide, ?_, fun fs hr => ?_⟩
  · rw [e3]
    exact ⟨rfl, N0, rfl⟩
  · refine XS.aloadN X0.here hx rfl (hb hby d5_0) rfl rfl ?_
    refine st2 _ ?_
    refine XS.aloadN X2.here hx rfl (hb hby d5_4) rfl rfl ?_
    refine st3 _ ?_
    refine XS.icmpNo X3.here hx rfl (hb hby d5_8) rfl (tlt ((by decide : (0 : Int32) < (4 : Int32)) : (0 : Int32) < (4 : Int32))).2.1 ?_
    refine X3.ldcFloatC hx hown (mvT hZ (w_36 hw)) (g := (mkF m 11 #[.val (.ref a1)] [])) rfl (hb hby d5_11) _ ?_
    refine XS.goto X3.here hx rfl (pc0 := 13) (pc' := 22) rfl (hb hby d5_13) (by decide) (by decide) ?_
    exact retOut X3 hx hret rfl (Or.inr (Or.inr (Or.inr (Or.inl ⟨rfl, rfl, _, rfl⟩)))) (hb hby d5_22) hr
-- com/example/senret/senret/TopSentences.grow()V
abbrev Rm75 : Room := { frames := 0, cells := 0, slots := 0, locals := 0 }
def Q75 (Z : State) (a1 : Addr) (a3 : Addr) (k5 : ClassId) (h0 : Heap) (n0 : Nat) (v : Option Value) (h : Heap) (L : List Loc) : Prop := v = none ∧ Fr n0 L ∧ h = h0
-- ef_692380
theorem rm75 (l : Launch) (Z : State) (a0 : Array Value) (hw : HW a0 Z) (ws : List Jvm.Cond) (a1 : Addr) (a3 : Addr) (k5 : ClassId) (h0 : Heap) (n0 : Nat) (Z0 : n0 ≤ h0.size) (F_size_a1 : Fld Z h0 a1 kT "size" "I" (.int 0)) (F_scores_a1 : Fld Z h0 a1 kT "scores" "[J" (.ref a3)) (V_a3 : Arv Z h0 a3 k5 .long (4 : Int32) [(.long 0), (.long 0), (.long 0), (.long 0)] (.long 0)) :
    OwnMet l Z y_4 prog_25_method_7_code 2 none ws Rm75 #[(.ref a1)] h0 (Q75 Z a1 a3 k5 h0 n0) := by
  refine own_body (plainFor_of_name pn_1) (ef_692380 a1) ?_
  intro p e s m below meth c s₁ hx hby hml hown hnm hret hZ X0 e0
  have N0 := Fr.nil n0
  obtain ⟨T2, X2, e2, st2⟩ := getF X0 hx hZ hown (host := "") (Or.inl (w_34 hw)) Via.refl e0 F_size_a1 (g := (mkF m 1 #[.val (.ref a1), .unset] [(.ref a1)])) rfl rfl (hb hby d7_1)
  obtain ⟨T4, X4, e4, st4⟩ := getF X2 hx hZ hown (host := "") (Or.inl (w_24 hw)) Via.refl e2 F_scores_a1 (g := (mkF m 5 #[.val (.ref a1), .unset] [(.ref a1), (.int 0)])) rfl rfl (hb hby d7_5)
  obtain ⟨cl6, Ar6, q6, S6, M6, Hs6, G6⟩ := id V_a3
  refine ⟨T4, _, _, _, none, X4, (fun _ => rfl), by decide, by decide, ?_, fun fs hr => ?_⟩
  · rw [e4]
    exact ⟨rfl, N0, rfl⟩
  · refine XS.aloadN X0.here hx rfl (hb hby d7_0) rfl rfl ?_
    refine st2 _ ?_
    refine XS.aloadN X2.here hx rfl (hb hby d7_4) rfl rfl ?_
    refine st4 _ ?_
    refine X4.arraylength hx (by rw [e4]; exact Ar6.1) (State.isArrayOf_alike hZ.alike Ar6.2.1) (g := (mkF m 8 #[.val (.ref a1), .unset] [(.ref a3), (.int 0)])) rfl rfl (hb hby d7_8) _ ?_
    show Steps p.tables e below (T4.setTop (mkF m 9 #[.val (.ref a1), .unset] [(.int cl6.slots.size.toInt32), (.int 0)])) _
    rw [len_of S6 M6]
    refine XS.icmpYes X4.here hx rfl (pc0 := 9) (pc' := 68) rfl (hb hby d7_9) rfl (feq ((by decide : ¬ ((0 : Int32) = (4 : Int32))) : ¬ ((0 : Int32) = (4 : Int32)))).2 (by decide) (by decide) ?_
    exact X4.returnOut hx hret (hb hby d7_68) hr
-- com/example/senret/senret/TopSentences.put(IFJI)V
abbrev Rm76 : Room := { frames := 0, cells := 0, slots := 0, locals := 0 }
def Q76 (Z : State) (a1 : Addr) (f2 : UInt32) (q3 : Int64) (p4 : Int32) (a5 : Addr) (k7 : ClassId) (a11 : Addr) (k14 : ClassId) (a19 : Addr) (k22 : ClassId) (h0 : Heap) (n0 : Nat) (v : Option Value) (h : Heap) (L : List Loc) : Prop := v = none ∧ Fr n0 L ∧ Keep h0 h [a5, a11, a19] ∧ Exa Z h a5 "[F" ∧ Arv Z h a5 k7 .float (4 : Int32) [(.float f2), (.float 0), (.float 0), (.float 0)] (.float 0) ∧ Exa Z h a11 "[J" ∧ Arv Z h a11 k14 .long (4 : Int32) [(.long q3), (.long 0), (.long 0), (.long 0)] (.long 0) ∧ Exa Z h a19 "[I" ∧ Arv Z h a19 k22 .int (4 : Int32) [(.int p4), (.int 0), (.int 0), (.int 0)] (.int 0)
-- ef_bf04c5
theorem rm76 (l : Launch) (Z : State) (a0 : Array Value) (hw : HW a0 Z) (ws : List Jvm.Cond) (a1 : Addr) (f2 : UInt32) (q3 : Int64) (p4 : Int32) (a5 : Addr) (k7 : ClassId) (a11 : Addr) (k14 : ClassId) (a19 : Addr) (k22 : ClassId) (h0 : Heap) (n0 : Nat) (Z0 : n0 ≤ h0.size) (F_scoresAsRead_a1 : Fld Z h0 a1 kT "scoresAsRead" "[F" (.ref a5)) (V_a5 : Arv Z h0 a5 k7 .float (4 : Int32) [(.float 0), (.float 0), (.float 0), (.float 0)] (.float 0)) (g_a5 : n0 ≤ a5) (F_scores_a1 : Fld Z h0 a1 kT "scores" "[J" (.ref a11)) (ne_a1_a5 : a1 ≠ a5) (V_a11 : Arv Z h0 a11 k14 .long (4 : Int32) [(.long 0), (.long 0), (.long 0), (.long 0)] (.long 0)) (ne_a11_a5 : a11 ≠ a5) (g_a11 : n0 ≤ a11) (F_ordinals_a1 : Fld Z h0 a1 kT "ordinals" "[I" (.ref a19)) (ne_a1_a11 : a1 ≠ a11) (V_a19 : Arv Z h0 a19 k22 .int (4 : Int32) [(.int 0), (.int 0), (.int 0), (.int 0)] (.int 0)) (ne_a19_a5 : a19 ≠ a5) (ne_a19_a11 : a19 ≠ a11) (g_a19 : n0 ≤ a19) (E_a5 : Exa Z h0 a5 "[F") (E_a11 : Exa Z h0 a11 "[J") (E_a19 : Exa Z h0 a19 "[I") :
    OwnMet l Z y_5 prog_25_method_11_code 6 none ws Rm76 #[(.ref a1), (.int 0), (.float f2), (.long q3), (.int p4)] h0 (Q76 Z a1 f2 q3 p4 a5 k7 a11 k14 a19 k22 h0 n0) := by
  refine own_body (plainFor_of_name pn_1) (ef_bf04c5 a1 f2 q3 p4) ?_
  intro p e s m below meth c s₁ hx hby hml hown hnm hret hZ X0 e0
  have N0 := Fr.nil n0
  obtain ⟨T6, X6, e6, st6⟩ := getF X0 hx hZ hown (host := "") (Or.inl (w_21 hw)) Via.refl e0 F_scoresAsRead_a1 (g := (mkF m 1 #[.val (.ref a1), .val (.int 0), .val (.float f2), .val (.long q3), .second, .val (.int p4)] [(.ref a1)])) rfl rfl (hb hby d9_1)
  obtain ⟨cl8, Ar8, q8, S8, M8, Hs8, G8⟩ := id V_a5
  have hin9 : ¬ ((0 : Int32) < 0 ∨ cl8.slots.size ≤ ((0 : Int32)).toNatClampNeg) := inb_of S8 ⟨(by decide : ¬ ((0 : Int32) < (0 : Int32))), (by decide : (0 : Int32) < (4 : Int32))⟩
  obtain ⟨T10, h10, X10, e10, W10, st10⟩ := stF X6 hx hZ e6 Ar8 (j := (0 : Int32)) hin9 (g := (mkF m 6 #[.val (.ref a1), .val (.int 0), .val (.float f2), .val (.long q3), .second, .val (.int p4)] [(.float f2), (.int 0), (.ref a5)])) rfl rfl (hb hby d9_6)
  have s0 := (Keep.of_wr W10).1
  have N10 := Fr.snoc X10 N0 g_a5
  have Vs10 : Arv Z h10 a5 k7 .float (4 : Int32) [(.float f2), (.float 0), (.float 0), (.float 0)] (.float 0) := Arv.set Ar8 q8 S8 M8 Hs8 G8 rfl W10 0 rfl (Nat.le_of_ble_eq_true rfl)
  have Fl12 := (F_scores_a1.other W10 (Or.inl ne_a1_a5))
  obtain ⟨T13, X13, e13, st13⟩ := getF X10 hx hZ hown (host := "") (Or.inl (w_24 hw)) Via.refl e10 Fl12 (g := (mkF m 8 #[.val (.ref a1), .val (.int 0), .val (.float f2), .val (.long q3), .second, .val (.int p4)] [(.ref a1)])) rfl rfl (hb hby d9_8)
  have Va15 := (V_a11.other W10 ne_a11_a5)
  obtain ⟨cl16, Ar16, q16, S16, M16, Hs16, G16⟩ := id Va15
  have hin17 : ¬ ((0 : Int32) < 0 ∨ cl16.slots.size ≤ ((0 : Int32)).toNatClampNeg) := inb_of S16 ⟨(by decide : ¬ ((0 : Int32) < (0 : Int32))), (by decide : (0 : Int32) < (4 : Int32))⟩
  obtain ⟨T18, h18, X18, e18, W18, st18⟩ := stJ X13 hx hZ e13 Ar16 (j := (0 : Int32)) hin17 (g := (mkF m 13 #[.val (.ref a1), .val (.int 0), .val (.float f2), .val (.long q3), .second, .val (.int p4)] [(.long q3), (.int 0), (.ref a11)])) rfl rfl (hb hby d9_13)
  have s1 := (Keep.of_wr W18).1
  have N18 := Fr.snoc X18 N10 g_a11
  have Vs18 : Arv Z h18 a11 k14 .long (4 : Int32) [(.long q3), (.long 0), (.long 0), (.long 0)] (.long 0) := Arv.set Ar16 q16 S16 M16 Hs16 G16 rfl W18 0 rfl (Nat.le_of_ble_eq_true rfl)
  have Fl20 := ((F_ordinals_a1.other W10 (Or.inl ne_a1_a5)).other W18 (Or.inl ne_a1_a11))
  obtain ⟨T21, X21, e21, st21⟩ := getF X18 hx hZ hown (host := "") (Or.inl (w_27 hw)) Via.refl e18 Fl20 (g := (mkF m 15 #[.val (.ref a1), .val (.int 0), .val (.float f2), .val (.long q3), .second, .val (.int p4)] [(.ref a1)])) rfl rfl (hb hby d9_15)
  have Va23 := ((V_a19.other W10 ne_a19_a5).other W18 ne_a19_a11)
  obtain ⟨cl24, Ar24, q24, S24, M24, Hs24, G24⟩ := id Va23
  have hin25 : ¬ ((0 : Int32) < 0 ∨ cl24.slots.size ≤ ((0 : Int32)).toNatClampNeg) := inb_of S24 ⟨(by decide : ¬ ((0 : Int32) < (0 : Int32))), (by decide : (0 : Int32) < (4 : Int32))⟩
  obtain ⟨T26, h26, X26, e26, W26, st26⟩ := stI X21 hx hZ e21 Ar24 (j := (0 : Int32)) hin25 (g := (mkF m 21 #[.val (.ref a1), .val (.int 0), .val (.float f2), .val (.long q3), .second, .val (.int p4)] [(.int p4), (.int 0), (.ref a19)])) rfl rfl (hb hby d9_21)
  have s2 := (Keep.of_wr W26).1
  have N26 := Fr.snoc X26 N18 g_a19
  have Vs26 : Arv Z h26 a19 k22 .int (4 : Int32) [(.int p4), (.int 0), (.int 0), (.int 0)] (.int 0) := Arv.set Ar24 q24 S24 M24 Hs24 G24 rfl W26 0 rfl (Nat.le_of_ble_eq_true rfl)
  have Ex27 := (((E_a5.wr W10).wr W18).wr W26)
  have Va28 := ((Vs10.other W18 (Ne.symm ne_a11_a5)).other W26 (Ne.symm ne_a19_a5))
  have Ex29 := (((E_a11.wr W10).wr W18).wr W26)
  have Va30 := (Vs18.other W26 (Ne.symm ne_a19_a11))
  have Ex31 := (((E_a19.wr W10).wr W18).wr W26)
  have Kp0 : Keep h0 h10 [a5, a11, a19] := (Keep.refl h0 [a5, a11, a19]).wr W10 (Or.inl (List.mem_of_getElem? (i := 0) rfl))
  have Kp1 : Keep h0 h18 [a5, a11, a19] := Kp0.wr W18 (Or.inl (List.mem_of_getElem? (i := 1) rfl))
  have Kp2 : Keep h0 h26 [a5, a11, a19] := Kp1.wr W26 (Or.inl (List.mem_of_getElem? (i := 2) rfl))
  refine ⟨T26, _, _, _, none, X26, (fun _ => rfl), by decide, by decide, ?_, fun fs hr => ?_⟩
  · rw [e26]
    exact ⟨rfl, N26, Kp2, Ex27, Va28, Ex29, Va30, Ex31, Vs26⟩
  · refine XS.aloadN X0.here hx rfl (hb hby d9_0) rfl rfl ?_
    refine st6 _ ?_
    refine XS.iloadN X6.here hx rfl (hb hby d9_4) rfl ?_
    refine XS.floadN X6.here hx rfl (hb hby d9_5) rfl ?_
    refine st10 _ ?_
    refine XS.aloadN X10.here hx rfl (hb hby d9_7) rfl rfl ?_
    refine st13 _ ?_
    refine XS.iloadN X13.here hx rfl (hb hby d9_11) rfl ?_
    refine XS.lloadN X13.here hx rfl (hb hby d9_12) rfl ?_
    refine st18 _ ?_
    refine XS.aloadN X18.here hx rfl (hb hby d9_14) rfl rfl ?_
    refine st21 _ ?_
    refine XS.iloadN X21.here hx rfl (hb hby d9_18) rfl ?_
    refine XS.iload X21.here hx rfl (hb hby d9_19) rfl ?_
    refine st26 _ ?_
    exact X26.returnOut hx hret (hb hby d9_22) hr
-- com/example/senret/senret/TopSentences.siftUp(IFJI)V
abbrev Rm77 : Room := { frames := 1, cells := 0, slots := 0, locals := 17 }
def Q77 (Z : State) (a1 : Addr) (f2 : UInt32) (q3 : Int64) (p4 : Int32) (a5 : Addr) (k6 : ClassId) (a7 : Addr) (k8 : ClassId) (a9 : Addr) (k10 : ClassId) (h0 : Heap) (n0 : Nat) (v : Option Value) (h : Heap) (L : List Loc) : Prop := v = none ∧ Fr n0 L ∧ Keep h0 h [a5, a7, a9] ∧ Exa Z h a5 "[F" ∧ Arv Z h a5 k6 .float (4 : Int32) [(.float f2), (.float 0), (.float 0), (.float 0)] (.float 0) ∧ Exa Z h a7 "[J" ∧ Arv Z h a7 k8 .long (4 : Int32) [(.long q3), (.long 0), (.long 0), (.long 0)] (.long 0) ∧ Exa Z h a9 "[I" ∧ Arv Z h a9 k10 .int (4 : Int32) [(.int p4), (.int 0), (.int 0), (.int 0)] (.int 0)
-- ef_b865c2
theorem rm77 (l : Launch) (Z : State) (a0 : Array Value) (hw : HW a0 Z) (ws : List Jvm.Cond) (a1 : Addr) (f2 : UInt32) (q3 : Int64) (p4 : Int32) (a5 : Addr) (k6 : ClassId) (a7 : Addr) (k8 : ClassId) (a9 : Addr) (k10 : ClassId) (h0 : Heap) (n0 : Nat) (Z0 : n0 ≤ h0.size) (F_scoresAsRead_a1 : Fld Z h0 a1 kT "scoresAsRead" "[F" (.ref a5)) (V_a5 : Arv Z h0 a5 k6 .float (4 : Int32) [(.float 0), (.float 0), (.float 0), (.float 0)] (.float 0)) (g_a5 : n0 ≤ a5) (F_scores_a1 : Fld Z h0 a1 kT "scores" "[J" (.ref a7)) (ne_a1_a5 : a1 ≠ a5) (V_a7 : Arv Z h0 a7 k8 .long (4 : Int32) [(.long 0), (.long 0), (.long 0), (.long 0)] (.long 0)) (ne_a7_a5 : a7 ≠ a5) (g_a7 : n0 ≤ a7) (F_ordinals_a1 : Fld Z h0 a1 kT "ordinals" "[I" (.ref a9)) (ne_a1_a7 : a1 ≠ a7) (V_a9 : Arv Z h0 a9 k10 .int (4 : Int32) [(.int 0), (.int 0), (.int 0), (.int 0)] (.int 0)) (ne_a9_a5 : a9 ≠ a5) (ne_a9_a7 : a9 ≠ a7) (g_a9 : n0 ≤ a9) (E_a5 : Exa Z h0 a5 "[F") (E_a7 : Exa Z h0 a7 "[J") (E_a9 : Exa Z h0 a9 "[I") (E_a1 : Exa Z h0 a1 kT) :
    OwnMet l Z y_6 prog_25_method_8_code 8 none ws Rm77 #[(.ref a1), (.int 0), (.float f2), (.long q3), (.int p4)] h0 (Q77 Z a1 f2 q3 p4 a5 k6 a7 k8 a9 k10 h0 n0) := by
  refine own_body (plainFor_of_name pn_1) (ef_b865c2 a1 f2 q3 p4) ?_
  intro p e s m below meth c s₁ hx hby hml hown hnm hret hZ X0 e0
  have N0 := Fr.nil n0
  obtain ⟨_, T11, L11, X11, hQ11, st11⟩ := own_private X0 hx hZ hown (y := y_5) E_a1 (w_52 hw) (w_53 hw) (Jvm.Kit.selects_private (by decide) (mvT hZ (w_6 hw)) (mvP hZ (w_54 hw)) (mvT hZ (w_53 hw))) (w_54 hw) (w_7 hw) (w_55 hw) (rm76 l Z a0 hw [] a1 f2 q3 p4 a5 k6 a7 k8 a9 k10 h0 n0 Z0 F_scoresAsRead_a1 V_a5 g_a5 F_scores_a1 ne_a1_a5 V_a7 ne_a7_a5 g_a7 F_ordinals_a1 ne_a1_a7 V_a9 ne_a9_a5 ne_a9_a7 g_a9 E_a5 E_a7 E_a9) e0 (Ls := #[.val (.ref a1), .val (.int 0), .val (.float f2), .val (.long q3), .second, .val (.int p4), .val (.int 0), .unset]) (by rw [hml]; rfl) (argsL := [(.int 0), (.float f2), (.long q3), (.int p4)]) (rest := []) (lenOf pd_5 rfl) (hb hby d8_64) (W := 0)
  obtain ⟨rfl, Nq11, K11, o11_0, o11_1, o11_2, o11_3, o11_4, o11_5⟩ := hQ11
  have N11 := Fr.app N0 Nq11
  have s0 := K11.1
  have Kp0 : Keep h0 T11.heap [a5, a7, a9] := (Keep.refl h0 [a5, a7, a9]).trans K11 (allS (Or.inl (List.mem_of_getElem? (i := 0) rfl)) (allS (Or.inl (List.mem_of_getElem? (i := 1) rfl)) (allS (Or.inl (List.mem_of_getElem? (i := 2) rfl)) all0)))
  refine ⟨T11, _, _, _, none, X11, (fun _ => rfl), by decide, by decide, ?_, fun fs hr => ?_⟩
  · exact ⟨rfl, N11, Kp0, o11_0, o11_1, o11_2, o11_3, o11_4, o11_5⟩
  · refine XS.iloadN X0.here hx rfl (hb hby d8_0) rfl ?_
    refine XS.istore X0.here hx rfl (hb hby d8_1) rfl (l' := #[.val (.ref a1), .val (.int 0), .val (.float f2), .val (.long q3), .second, .val (.int p4), .val (.int 0), .unset]) rfl ?_
    refine XS.iload X0.here hx rfl (hb hby d8_3) rfl ?_
    refine XS.ifYes X0.here hx rfl (pc0 := 5) (pc' := 57) rfl (hb hby d8_5) rfl ((if0 _ _).trans (flt ((by decide : ¬ ((0 : Int32) < (0 : Int32))) : ¬ ((0 : Int32) < (0 : Int32)))).2.2.2) (by decide) (by decide) ?_
    refine XS.aloadN X0.here hx rfl (hb hby d8_57) rfl rfl ?_
    refine XS.iload X0.here hx rfl (hb hby d8_58) rfl ?_
    refine XS.floadN X0.here hx rfl (hb hby d8_60) rfl ?_
    refine XS.lloadN X0.here hx rfl (hb hby d8_61) rfl ?_
    refine XS.iload X0.here hx rfl (hb hby d8_62) rfl ?_
    refine st11 _ ?_
    exact X11.returnOut hx hret (hb hby d8_67) hr
-- com/example/senret/senret/TopSentences.offer(JI)V
abbrev Rm78 : Room := { frames := 2, cells := 0, slots := 0, locals := 36 }
def Q78 (Z : State) (a1 : Addr) (q2 : Int64) (p3 : Int32) (a7 : Addr) (k8 : ClassId) (a13 : Addr) (k16 : ClassId) (a20 : Addr) (k22 : ClassId) (h0 : Heap) (n0 : Nat) (v : Option Value) (h : Heap) (L : List Loc) : Prop := v = none ∧ Fr n0 L ∧ Keep h0 h [a1, a13, a7, a20] ∧ Exa Z h a1 kT ∧ Fld Z h a1 kT "depth" "I" (.int 4) ∧ Fld Z h a1 kT "ordinals" "[I" (.ref a20) ∧ Fld Z h a1 kT "scores" "[J" (.ref a7) ∧ Fld Z h a1 kT "scoresAsRead" "[F" (.ref a13) ∧ Fld Z h a1 kT "size" "I" (.int 1) ∧ Exa Z h a13 "[F" ∧ Arv Z h a13 k16 .float (4 : Int32) [(.float (sC q2)), (.float 0), (.float 0), (.float 0)] (.float 0) ∧ Exa Z h a7 "[J" ∧ Arv Z h a7 k8 .long (4 : Int32) [(.long q2), (.long 0), (.long 0), (.long 0)] (.long 0) ∧ Exa Z h a20 "[I" ∧ Arv Z h a20 k22 .int (4 : Int32) [(.int p3), (.int 0), (.int 0), (.int 0)] (.int 0)
-- ef_8cdad2
theorem rm78 (l : Launch) (Z : State) (a0 : Array Value) (hw : HW a0 Z) (ws : List Jvm.Cond) (a1 : Addr) (q2 : Int64) (p3 : Int32) (a7 : Addr) (k8 : ClassId) (a13 : Addr) (k16 : ClassId) (a20 : Addr) (k22 : ClassId) (h0 : Heap) (n0 : Nat) (Z0 : n0 ≤ h0.size) (F_size_a1 : Fld Z h0 a1 kT "size" "I" (.int 0)) (F_depth_a1 : Fld Z h0 a1 kT "depth" "I" (.int 4)) (F_scores_a1 : Fld Z h0 a1 kT "scores" "[J" (.ref a7)) (V_a7 : Arv Z h0 a7 k8 .long (4 : Int32) [(.long 0), (.long 0), (.long 0), (.long 0)] (.long 0)) (E_a1 : Exa Z h0 a1 kT) (g_a1 : n0 ≤ a1) (F_scoresAsRead_a1 : Fld Z h0 a1 kT "scoresAsRead" "[F" (.ref a13)) (V_a13 : Arv Z h0 a13 k16 .float (4 : Int32) [(.float 0), (.float 0), (.float 0), (.float 0)] (.float 0)) (ne_a13_a1 : a13 ≠ a1) (g_a13 : n0 ≤ a13) (ne_a7_a1 : a7 ≠ a1) (ne_a7_a13 : a7 ≠ a13) (g_a7 : n0 ≤ a7) (F_ordinals_a1 : Fld Z h0 a1 kT "ordinals" "[I" (.ref a20)) (V_a20 : Arv Z h0 a20 k22 .int (4 : Int32) [(.int 0), (.int 0), (.int 0), (.int 0)] (.int 0)) (ne_a20_a1 : a20 ≠ a1) (ne_a20_a13 : a20 ≠ a13) (ne_a20_a7 : a20 ≠ a7) (g_a20 : n0 ≤ a20) (E_a13 : Exa Z h0 a13 "[F") (E_a7 : Exa Z h0 a7 "[J") (E_a20 : Exa Z h0 a20 "[I") :
    OwnMet l Z y_7 prog_25_method_4_code 5 none ws Rm78 #[(.ref a1), (.long q2), (.int p3)] h0 (Q78 Z a1 q2 p3 a7 k8 a13 k16 a20 k22 h0 n0) := by
  refine own_body (plainFor_of_name pn_1) (ef_8cdad2 a1 q2 p3) ?_
  intro p e s m below meth c s₁ hx hby hml hown hnm hret hZ X0 e0
  have N0 := Fr.nil n0
  obtain ⟨_, T4, L4, X4, hQ4, st4⟩ := own_callS X0 hx hZ hown (y := y_0) (w_43 hw) (w_1 hw) (w_2 hw) (w_3 hw) (rm1 l Z a0 hw [] q2 h0 n0 Z0) e0 (Ls := #[.val (.ref a1), .val (.long q2), .second, .val (.int p3), .unset]) (by rw [hml]; rfl) (argsL := [(.long q2)]) (rest := []) (lenOf pd_0 rfl) (hb hby d6_1) (W := 0)
  obtain ⟨rfl, Nq4, e4⟩ := hQ4
  have N4 := Fr.app N0 Nq4
  obtain ⟨T5, X5, e5, st5⟩ := getF X4 hx hZ hown (host := "") (Or.inl (w_34 hw)) Via.refl e4 F_size_a1 (g := (mkF m 7 #[.val (.ref a1), .val (.long q2), .second, .val (.int p3), .val (.float (sC q2))] [(.ref a1)])) rfl rfl (hb hby d6_7)
  obtain ⟨T6, X6, e6, st6⟩ := getF X5 hx hZ hown (host := "") (Or.inl (w_14 hw)) Via.refl e5 F_depth_a1 (g := (mkF m 11 #[.val (.ref a1), .val (.long q2), .second, .val (.int p3), .val (.float (sC q2))] [(.ref a1), (.int 0)])) rfl rfl (hb hby d6_11)
  obtain ⟨_, T9, L9, X9, hQ9, st9⟩ := own_private X6 hx hZ hown (y := y_4) E_a1 (w_44 hw) (w_45 hw) (Jvm.Kit.selects_private (by decide) (mvT hZ (w_6 hw)) (mvP hZ (w_46 hw)) (mvT hZ (w_45 hw))) (w_46 hw) (w_7 hw) (w_47 hw) (rm75 l Z a0 hw [] a1 a7 k8 h0 n0 Z0 F_size_a1 F_scores_a1 V_a7) e6 (Ls := #[.val (.ref a1), .val (.long q2), .second, .val (.int p3), .val (.float (sC q2))]) (by rw [hml]; rfl) (argsL := []) (rest := []) (lenOf pd_4 rfl) (hb hby d6_18) (W := 0)
  obtain ⟨rfl, Nq9, e9⟩ := hQ9
  have N9 := Fr.app N4 Nq9
  obtain ⟨T10, X10, e10, st10⟩ := getF X9 hx hZ hown (host := "") (Or.inl (w_34 hw)) Via.refl e9 F_size_a1 (g := (mkF m 23 #[.val (.ref a1), .val (.long q2), .second, .val (.int p3), .val (.float (sC q2))] [(.ref a1), (.ref a1)])) rfl rfl (hb hby d6_23)
  obtain ⟨T11, h11, X11, e11, W11, st11⟩ := putF X10 hx hZ hown (host := "") (Or.inl (w_34 hw)) Via.refl e10 F_size_a1 E_a1 (Or.inl (w_35 hw)) (w_6 hw) (ty := .int) (by decide) rfl rfl (g := (mkF m 28 #[.val (.ref a1), .val (.long q2), .second, .val (.int p3), .val (.float (sC q2))] [(.int 1), (.ref a1)])) rfl rfl (hb hby d6_28)
  have s0 := (Keep.of_wr W11).1
  have N11 := Fr.snoc X11 N9 g_a1
  have Fw11 : Fld Z h11 a1 kT "size" "I" (.int 1) := F_size_a1.same W11
  obtain ⟨T12, X12, e12, st12⟩ := getF X11 hx hZ hown (host := "") (Or.inl (w_34 hw)) Via.refl e11 Fw11 (g := (mkF m 33 #[.val (.ref a1), .val (.long q2), .second, .val (.int p3), .val (.float (sC q2))] [(.ref a1), (.ref a1)])) rfl rfl (hb hby d6_33)
  have Ex14 := (E_a1.wr W11)
  have Fl15 := (F_scoresAsRead_a1.other W11 (Or.inr (slot_ne (Or.inl (w_22 hw)) (Or.inl (w_35 hw)) (by decide) (t := (.array .float)) (t' := .int) (by decide) (by decide))))
  have Va17 := (V_a13.other W11 ne_a13_a1)
  have Fl18 := (F_scores_a1.other W11 (Or.inr (slot_ne (Or.inl (w_25 hw)) (Or.inl (w_35 hw)) (by decide) (t := (.array .long)) (t' := .int) (by decide) (by decide))))
  have Va19 := (V_a7.other W11 ne_a7_a1)
  have Fl21 := (F_ordinals_a1.other W11 (Or.inr (slot_ne (Or.inl (w_28 hw)) (Or.inl (w_35 hw)) (by decide) (t := (.array .int)) (t' := .int) (by decide) (by decide))))
  have Va23 := (V_a20.other W11 ne_a20_a1)
  have Ex24 := (E_a13.wr W11)
  have Ex25 := (E_a7.wr W11)
  have Ex26 := (E_a20.wr W11)
  have z1 := Nat.le_trans Z0 s0
  obtain ⟨_, T27, L27, X27, hQ27, st27⟩ := own_private X12 hx hZ hown (y := y_6) Ex14 (w_48 hw) (w_49 hw) (Jvm.Kit.selects_private (by decide) (mvT hZ (w_6 hw)) (mvP hZ (w_50 hw)) (mvT hZ (w_49 hw))) (w_50 hw) (w_7 hw) (w_51 hw) (rm77 l Z a0 hw [] a1 (sC q2) q2 p3 a13 k16 a7 k8 a20 k22 h11 n0 z1 Fl15 Va17 g_a13 Fl18 (Ne.symm ne_a13_a1) Va19 ne_a7_a13 g_a7 Fl21 (Ne.symm ne_a7_a1) Va23 ne_a20_a13 ne_a20_a7 g_a20 Ex24 Ex25 Ex26 Ex14) e12 (Ls := #[.val (.ref a1), .val (.long q2), .second, .val (.int p3), .val (.float (sC q2))]) (by rw [hml]; rfl) (argsL := [(.int 0), (.float (sC q2)), (.long q2), (.int p3)]) (rest := []) (lenOf pd_5 rfl) (hb hby d6_42) (W := 0)
  obtain ⟨rfl, Nq27, K27, o27_0, o27_1, o27_2, o27_3, o27_4, o27_5⟩ := hQ27
  have N27 := Fr.app N11 Nq27
  have s1 := K27.1
  have Ex28 := (Ex14.keep K27)
  have Fl29 := ((F_depth_a1.other W11 (Or.inr (slot_ne (Or.inr (w_15 hw)) (Or.inl (w_35 hw)) (by decide) (t := .int) (t' := .int) (by decide) (by decide)))).keep K27 (ninS (Ne.symm ne_a13_a1) (ninS (Ne.symm ne_a7_a1) (ninS (Ne.symm ne_a20_a1) nin0))))
  have Fl30 := (Fl21.keep K27 (ninS (Ne.symm ne_a13_a1) (ninS (Ne.symm ne_a7_a1) (ninS (Ne.symm ne_a20_a1) nin0))))
  have Fl31 := (Fl18.keep K27 (ninS (Ne.symm ne_a13_a1) (ninS (Ne.symm ne_a7_a1) (ninS (Ne.symm ne_a20_a1) nin0))))
  have Fl32 := (Fl15.keep K27 (ninS (Ne.symm ne_a13_a1) (ninS (Ne.symm ne_a7_a1) (ninS (Ne.symm ne_a20_a1) nin0))))
  have Fl33 := (Fw11.keep K27 (ninS (Ne.symm ne_a13_a1) (ninS (Ne.symm ne_a7_a1) (ninS (Ne.symm ne_a20_a1) nin0))))
  have Kp0 : Keep h0 h11 [a1, a13, a7, a20] := (Keep.refl h0 [a1, a13, a7, a20]).wr W11 (Or.inl (List.mem_of_getElem? (i := 0) rfl))
  have Kp1 : Keep h0 T27.heap [a1, a13, a7, a20] := Kp0.trans K27 (allS (Or.inl (List.mem_of_getElem? (i := 1) rfl)) (allS (Or.inl (List.mem_of_getElem? (i := 2) rfl)) (allS (Or.inl (List.mem_of_getElem? (i := 3) rfl)) all0)))
  refine ⟨T27, _, _, _, none, X27, (fun _ => rfl), by decide, by decide, ?_, fun fs hr => ?_⟩
  · exact ⟨rfl, N27, Kp1, Ex28, Fl29, Fl30, Fl31, Fl32, Fl33, o27_0, o27_1, o27_2, o27_3, o27_4, o27_5⟩
  · refine XS.lloadN X0.here hx rfl (hb hby d6_0) rfl ?_
    refine st4 _ ?_
    refine XS.fstore X4.here hx rfl (hb hby d6_4) rfl (l' := #[.val (.ref a1), .val (.long q2), .second, .val (.int p3), .val (.float (sC q2))]) rfl ?_
    refine XS.aloadN X4.here hx rfl (hb hby d6_6) rfl rfl ?_
    refine st5 _ ?_
    refine XS.aloadN X5.here hx rfl (hb hby d6_10) rfl rfl ?_
    refine st6 _ ?_
    refine XS.icmpNo X6.here hx rfl (hb hby d6_14) rfl (tlt ((by decide : (0 : Int32) < (4 : Int32)) : (0 : Int32) < (4 : Int32))).2.1 ?_
    refine XS.aloadN X6.here hx rfl (hb hby d6_17) rfl rfl ?_
    refine st9 _ ?_
    refine XS.aloadN X9.here hx rfl (hb hby d6_21) rfl rfl ?_
    refine XS.dup X9.here hx rfl (hb hby d6_22) rfl rfl ?_
    refine st10 _ ?_
    refine XS.iconst X10.here hx rfl (hb hby d6_26) ?_
    refine XS.iadd X10.here hx rfl (hb hby d6_27) rfl ?_
    refine st11 _ ?_
    refine XS.aloadN X11.here hx rfl (hb hby d6_31) rfl rfl ?_
    refine XS.aloadN X11.here hx rfl (hb hby d6_32) rfl rfl ?_
    refine st12 _ ?_
    refine XS.iconst X12.here hx rfl (hb hby d6_36) ?_
    refine XS.isub X12.here hx rfl (hb hby d6_37) rfl ?_
    refine XS.fload X12.here hx rfl (hb hby d6_38) rfl ?_
    refine XS.lloadN X12.here hx rfl (hb hby d6_40) rfl ?_
    refine XS.iloadN X12.here hx rfl (hb hby d6_41) rfl ?_
    refine st27 _ ?_
    refine XS.goto X27.here hx rfl (pc0 := 45) (pc' := 77) rfl (hb hby d6_45) (by decide) (by decide) ?_
    exact X27.returnOut hx hret (hb hby d6_77) hr
-- com/example/senret/senret/TopSentences.lowestAdmitted()F
abbrev Rm79 : Room := { frames := 0, cells := 0, slots := 0, locals := 0 }
def Q79 (Z : State) (a1 : Addr) (h0 : Heap) (n0 : Nat) (v : Option Value) (h : Heap) (L : List Loc) : Prop := v = some (.float 4286578688) ∧ Fr n0 L ∧ h = h0
-- ef_26f21a
theorem rm79 (l : Launch) (Z : State) (a0 : Array Value) (hw : HW a0 Z) (ws : List Jvm.Cond) (a1 : Addr) (h0 : Heap) (n0 : Nat) (Z0 : n0 ≤ h0.size) (F_size_a1 : Fld Z h0 a1 kT "size" "I" (.int 1)) (F_depth_a1 : Fld Z h0 a1 kT "depth" "I" (.int 4)) :
    OwnMet l Z y_3 prog_25_method_3_code 1 (some .float) ws Rm79 #[(.ref a1)] h0 (Q79 Z a1 h0 n0) := by
  refine own_body (plainFor_of_name pn_1) (ef_26f21a a1) ?_
  intro p e s m below meth c s₁ hx hby hml hown hnm hret hZ X0 e0
  have N0 := Fr.nil n0
  obtain ⟨T2, X2, e2, st2⟩ := getF X0 hx hZ hown (host := "") (Or.inl (w_34 hw)) Via.refl e0 F_size_a1 (g := (mkF m 1 #[.val (.ref a1)] [(.ref a1)])) rfl rfl (hb hby d5_1)
  obtain ⟨T3, X3, e3, st3⟩ := getF X2 hx hZ hown (host := "") (Or.inl (w_14 hw)) Via.refl e2 F_depth_a1 (g := (mkF m 5 #[.val (.ref a1)] [(.ref a1), (.int 1)])) rfl rfl (hb hby d5_5)
  refine ⟨T3, _, _, _, (some (.float 4286578688)), X3, nofun, by decide, by decide, ?_, fun fs hr => ?_⟩
  · rw [e3]
    exact ⟨rfl, N0, rfl⟩
  · refine XS.aloadN X0.here hx rfl (hb hby d5_0) rfl rfl ?_
    refine st2 _ ?_
    refine XS.aloadN X2.here hx rfl (hb hby d5_4) rfl rfl ?_
    refine st3 _ ?_
    refine XS.icmpNo X3.here hx rfl (hb hby d5_8) rfl (tlt ((by decide : (1 : Int32) < (4 : Int32)) : (1 : Int32) < (4 : Int32))).2.1 ?_
    refine X3.ldcFloatC hx hown (mvT hZ (w_36 hw)) (g := (mkF m 11 #[.val (.ref a1)] [])) rfl (hb hby d5_11) _ ?_
    refine XS.goto X3.here hx rfl (pc0 := 13) (pc' := 22) rfl (hb hby d5_13) (by decide) (by decide) ?_
    exact retOut X3 hx hret rfl (Or.inr (Or.inr (Or.inr (Or.inl ⟨rfl, rfl, _, rfl⟩)))) (hb hby d5_22) hr
theorem ef_52cccc (f1 : UInt32) (f2 : UInt32) (f3 : UInt32) (m : MethodId) : entryFrame m #[(.int 4), (.int 1), (.float f1), (.float f2), (.float f3)] 5 = mkF m 0 #[.val (.int 4), .val (.int 1), .val (.float f1), .val (.float f2), .val (.float f3)] [] := by first | (simp [entryFrame, mkF, argsToLocals, Value.category]; done) | rfl
-- com/example/senret/senret/TopSentencesLowestAdmittedPinLaw.expected(IIFFF)F
abbrev Rm80 : Room := { frames := 0, cells := 0, slots := 0, locals := 0 }
def Q80 (Z : State) (f1 : UInt32) (f2 : UInt32) (f3 : UInt32) (h0 : Heap) (n0 : Nat) (v : Option Value) (h : Heap) (L : List Loc) : Prop := v = some (.float 4286578688) ∧ Fr n0 L ∧ h = h0
-- ef_52cccc
theorem rm80 (l : Launch) (Z : State) (a0 : Array Value) (hw : HW a0 Z) (ws : List Jvm.Cond) (f1 : UInt32) (f2 : UInt32) (f3 : UInt32) (h0 : Heap) (n0 : Nat) (Z0 : n0 ≤ h0.size) :
    OwnMet l Z y_8 method_3_code 5 (some .float) ws Rm80 #[(.int 4), (.int 1), (.float f1), (.float f2), (.float f3)] h0 (Q80 Z f1 f2 f3 h0 n0) := by
  refine own_body (plainFor_of_name pn_2) (ef_52cccc f1 f2 f3) ?_
  intro p e s m below meth c s₁ hx hby hml hown hnm hret hZ X0 e0
  have N0 := Fr.nil n0
  refine ⟨s₁, _, _, _, (some (.float 4286578688)), X0, nofun, by decide, by decide, ?_, fun fs hr => ?_⟩
  · rw [e0]
    exact ⟨rfl, N0, rfl⟩
  · refine XS.iloadN X0.here hx rfl (hb hby d10_0) rfl ?_
    refine XS.iloadN X0.here hx rfl (hb hby d10_1) rfl ?_
    refine XS.icmpNo X0.here hx rfl (hb hby d10_2) rfl (tlt ((by decide : (1 : Int32) < (4 : Int32)) : (1 : Int32) < (4 : Int32))).2.1 ?_
    refine X0.ldcFloatC hx hown (mvT hZ (w_37 hw)) (g := (mkF m 5 #[.val (.int 4), .val (.int 1), .val (.float f1), .val (.float f2), .val (.float f3)] [])) rfl (hb hby d10_5) _ ?_
    exact retOut X0 hx hret rfl (Or.inr (Or.inr (Or.inr (Or.inl ⟨rfl, rfl, _, rfl⟩)))) (hb hby d10_7) hr
-- com/example/senret/senret/TopSentences.grow()V
abbrev Rm81 : Room := { frames := 0, cells := 0, slots := 0, locals := 0 }
def Q81 (Z : State) (a1 : Addr) (a3 : Addr) (q5 : Int64) (k6 : ClassId) (h0 : Heap) (n0 : Nat) (v : Option Value) (h : Heap) (L : List Loc) : Prop := v = none ∧ Fr n0 L ∧ h = h0
-- ef_692380
theorem rm81 (l : Launch) (Z : State) (a0 : Array Value) (hw : HW a0 Z) (ws : List Jvm.Cond) (a1 : Addr) (a3 : Addr) (q5 : Int64) (k6 : ClassId) (h0 : Heap) (n0 : Nat) (Z0 : n0 ≤ h0.size) (F_size_a1 : Fld Z h0 a1 kT "size" "I" (.int 1)) (F_scores_a1 : Fld Z h0 a1 kT "scores" "[J" (.ref a3)) (V_a3 : Arv Z h0 a3 k6 .long (4 : Int32) [(.long q5), (.long 0), (.long 0), (.long 0)] (.long 0)) :
    OwnMet l Z y_4 prog_25_method_7_code 2 none ws Rm81 #[(.ref a1)] h0 (Q81 Z a1 a3 q5 k6 h0 n0) := by
  refine own_body (plainFor_of_name pn_1) (ef_692380 a1) ?_
  intro p e s m below meth c s₁ hx hby hml hown hnm hret hZ X0 e0
  have N0 := Fr.nil n0
  obtain ⟨T2, X2, e2, st2⟩ := getF X0 hx hZ hown (host := "") (Or.inl (w_34 hw)) Via.refl e0 F_size_a1 (g := (mkF m 1 #[.val (.ref a1), .unset] [(.ref a1)])) rfl rfl (hb hby d7_1)
  obtain ⟨T4, X4, e4, st4⟩ := getF X2 hx hZ hown (host := "") (Or.inl (w_24 hw)) Via.refl e2 F_scores_a1 (g := (mkF m 5 #[.val (.ref a1), .unset] [(.ref a1), (.int 1)])) rfl rfl (hb hby d7_5)
  obtain ⟨cl7, Ar7, q7, S7, M7, Hs7, G7⟩ := id V_a3
  refine ⟨T4, _, _, _, none, X4, (fun _ => rfl), by decide, by decide, ?_, fun fs hr => ?_⟩
  · rw [e4]
    exact ⟨rfl, N0, rfl⟩
  · refine XS.aloadN X0.here hx rfl (hb hby d7_0) rfl rfl ?_
    refine st2 _ ?_
    refine XS.aloadN X2.here hx rfl (hb hby d7_4) rfl rfl ?_
    refine st4 _ ?_
    refine X4.arraylength hx (by rw [e4]; exact Ar7.1) (State.isArrayOf_alike hZ.alike Ar7.2.1) (g := (mkF m 8 #[.val (.ref a1), .unset] [(.ref a3), (.int 1)])) rfl rfl (hb hby d7_8) _ ?_
    show Steps p.tables e below (T4.setTop (mkF m 9 #[.val (.ref a1), .unset] [(.int cl7.slots.size.toInt32), (.int 1)])) _
    rw [len_of S7 M7]
    refine XS.icmpYes X4.here hx rfl (pc0 := 9) (pc' := 68) rfl (hb hby d7_9) rfl (feq ((by decide : ¬ ((1 : Int32) = (4 : Int32))) : ¬ ((1 : Int32) = (4 : Int32)))).2 (by decide) (by decide) ?_
    exact X4.returnOut hx hret (hb hby d7_68) hr
-- com/example/senret/senret/TopSentences.put(IFJI)V
abbrev Rm82 : Room := { frames := 0, cells := 0, slots := 0, locals := 0 }
def Q82 (Z : State) (a1 : Addr) (f2 : UInt32) (q3 : Int64) (p4 : Int32) (a5 : Addr) (f7 : UInt32) (k8 : ClassId) (a12 : Addr) (q15 : Int64) (k16 : ClassId) (a21 : Addr) (p24 : Int32) (k25 : ClassId) (h0 : Heap) (n0 : Nat) (v : Option Value) (h : Heap) (L : List Loc) : Prop := v = none ∧ Fr n0 L ∧ Keep h0 h [a5, a12, a21] ∧ Exa Z h a5 "[F" ∧ Arv Z h a5 k8 .float (4 : Int32) [(.float f7), (.float f2), (.float 0), (.float 0)] (.float 0) ∧ Exa Z h a12 "[J" ∧ Arv Z h a12 k16 .long (4 : Int32) [(.long q15), (.long q3), (.long 0), (.long 0)] (.long 0) ∧ Exa Z h a21 "[I" ∧ Arv Z h a21 k25 .int (4 : Int32) [(.int p24), (.int p4), (.int 0), (.int 0)] (.int 0)
-- ef_ea78cb
theorem rm82 (l : Launch) (Z : State) (a0 : Array Value) (hw : HW a0 Z) (ws : List Jvm.Cond) (a1 : Addr) (f2 : UInt32) (q3 : Int64) (p4 : Int32) (a5 : Addr) (f7 : UInt32) (k8 : ClassId) (a12 : Addr) (q15 : Int64) (k16 : ClassId) (a21 : Addr) (p24 : Int32) (k25 : ClassId) (h0 : Heap) (n0 : Nat) (Z0 : n0 ≤ h0.size) (F_scoresAsRead_a1 : Fld Z h0 a1 kT "scoresAsRead" "[F" (.ref a5)) (V_a5 : Arv Z h0 a5 k8 .float (4 : Int32) [(.float f7), (.float 0), (.float 0), (.float 0)] (.float 0)) (g_a5 : n0 ≤ a5) (F_scores_a1 : Fld Z h0 a1 kT "scores" "[J" (.ref a12)) (ne_a1_a5 : a1 ≠ a5) (V_a12 : Arv Z h0 a12 k16 .long (4 : Int32) [(.long q15), (.long 0), (.long 0), (.long 0)] (.long 0)) (ne_a12_a5 : a12 ≠ a5) (g_a12 : n0 ≤ a12) (F_ordinals_a1 : Fld Z h0 a1 kT "ordinals" "[I" (.ref a21)) (ne_a1_a12 : a1 ≠ a12) (V_a21 : Arv Z h0 a21 k25 .int (4 : Int32) [(.int p24), (.int 0), (.int 0), (.int 0)] (.int 0)) (ne_a21_a5 : a21 ≠ a5) (ne_a21_a12 : a21 ≠ a12) (g_a21 : n0 ≤ a21) (E_a5 : Exa Z h0 a5 "[F") (E_a12 : Exa Z h0 a12 "[J") (E_a21 : Exa Z h0 a21 "[I") :
    OwnMet l Z y_5 prog_25_method_11_code 6 none ws Rm82 #[(.ref a1), (.int 1), (.float f2), (.long q3), (.int p4)] h0 (Q82 Z a1 f2 q3 p4 a5 f7 k8 a12 q15 k16 a21 p24 k25 h0 n0) := by
  refine own_body (plainFor_of_name pn_1) (ef_ea78cb a1 f2 q3 p4) ?_
  intro p e s m below meth c s₁ hx hby hml hown hnm hret hZ X0 e0
  have N0 := Fr.nil n0
  obtain ⟨T6, X6, e6, st6⟩ := getF X0 hx hZ hown (host := "") (Or.inl (w_21 hw)) Via.refl e0 F_scoresAsRead_a1 (g := (mkF m 1 #[.val (.ref a1), .val (.int 1), .val (.float f2), .val (.long q3), .second, .val (.int p4)] [(.ref a1)])) rfl rfl (hb hby d9_1)
  obtain ⟨cl9, Ar9, q9, S9, M9, Hs9, G9⟩ := id V_a5
  have hin10 : ¬ ((1 : Int32) < 0 ∨ cl9.slots.size ≤ ((1 : Int32)).toNatClampNeg) := inb_of S9 ⟨(by decide : ¬ ((1 : Int32) < (0 : Int32))), (by decide : (1 : Int32) < (4 : Int32))⟩
  obtain ⟨T11, h11, X11, e11, W11, st11⟩ := stF X6 hx hZ e6 Ar9 (j := (1 : Int32)) hin10 (g := (mkF m 6 #[.val (.ref a1), .val (.int 1), .val (.float f2), .val (.long q3), .second, .val (.int p4)] [(.float f2), (.int 1), (.ref a5)])) rfl rfl (hb hby d9_6)
  have s0 := (Keep.of_wr W11).1
  have N11 := Fr.snoc X11 N0 g_a5
  have Vs11 : Arv Z h11 a5 k8 .float (4 : Int32) [(.float f7), (.float f2), (.float 0), (.float 0)] (.float 0) := Arv.set Ar9 q9 S9 M9 Hs9 G9 rfl W11 1 rfl (Nat.le_of_ble_eq_true rfl)
  have Fl13 := (F_scores_a1.other W11 (Or.inl ne_a1_a5))
  obtain ⟨T14, X14, e14, st14⟩ := getF X11 hx hZ hown (host := "") (Or.inl (w_24 hw)) Via.refl e11 Fl13 (g := (mkF m 8 #[.val (.ref a1), .val (.int 1), .val (.float f2), .val (.long q3), .second, .val (.int p4)] [(.ref a1)])) rfl rfl (hb hby d9_8)
  have Va17 := (V_a12.other W11 ne_a12_a5)
  obtain ⟨cl18, Ar18, q18, S18, M18, Hs18, G18⟩ := id Va17
  have hin19 : ¬ ((1 : Int32) < 0 ∨ cl18.slots.size ≤ ((1 : Int32)).toNatClampNeg) := inb_of S18 ⟨(by decide : ¬ ((1 : Int32) < (0 : Int32))), (by decide : (1 : Int32) < (4 : Int32))⟩
  obtain ⟨T20, h20, X20, e20, W20, st20⟩ := stJ X14 hx hZ e14 Ar18 (j := (1 : Int32)) hin19 (g := (mkF m 13 #[.val (.ref a1), .val (.int 1), .val (.float f2), .val (.long q3), .second, .val (.int p4)] [(.long q3), (.int 1), (.ref a12)])) rfl rfl (hb hby d9_13)
  have s1 := (Keep.of_wr W20).1
  have N20 := Fr.snoc X20 N11 g_a12
  have Vs20 : Arv Z h20 a12 k16 .long (4 : Int32) [(.long q15), (.long q3), (.long 0), (.long 0)] (.long 0) := Arv.set Ar18 q18 S18 M18 Hs18 G18 rfl W20 1 rfl (Nat.le_of_ble_eq_true rfl)
  have Fl22 := ((F_ordinals_a1.other W11 (Or.inl ne_a1_a5)).other W20 (Or.inl ne_a1_a12))
  obtain ⟨T23, X23, e23, st23⟩ := getF X20 hx hZ hown (host := "") (Or.inl (w_27 hw)) Via.refl e20 Fl22 (g := (mkF m 15 #[.val (.ref a1), .val (.int 1), .val (.float f2), .val (.long q3), .second, .val (.int p4)] [(.ref a1)])) rfl rfl (hb hby d9_15)
  have Va26 := ((V_a21.other W11 ne_a21_a5).other W20 ne_a21_a12)
  obtain ⟨cl27, Ar27, q27, S27, M27, Hs27, G27⟩ := id Va26
  have hin28 : ¬ ((1 : Int32) < 0 ∨ cl27.slots.size ≤ ((1 : Int32)).toNatClampNeg) := inb_of S27 ⟨(by decide : ¬ ((1 : Int32) < (0 : Int32))), (by decide : (1 : Int32) < (4 : Int32))⟩
  obtain ⟨T29, h29, X29, e29, W29, st29⟩ := stI X23 hx hZ e23 Ar27 (j := (1 : Int32)) hin28 (g := (mkF m 21 #[.val (.ref a1), .val (.int 1), .val (.float f2), .val (.long q3), .second, .val (.int p4)] [(.int p4), (.int 1), (.ref a21)])) rfl rfl (hb hby d9_21)
  have s2 := (Keep.of_wr W29).1
  have N29 := Fr.snoc X29 N20 g_a21
  have Vs29 : Arv Z h29 a21 k25 .int (4 : Int32) [(.int p24), (.int p4), (.int 0), (.int 0)] (.int 0) := Arv.set Ar27 q27 S27 M27 Hs27 G27 rfl W29 1 rfl (Nat.le_of_ble_eq_true rfl)
  have Ex30 := (((E_a5.wr W11).wr W20).wr W29)
  have Va31 := ((Vs11.other W20 (Ne.symm ne_a12_a5)).other W29 (Ne.symm ne_a21_a5))
  have Ex32 := (((E_a12.wr W11).wr W20).wr W29)
  have Va33 := (Vs20.other W29 (Ne.symm ne_a21_a12))
  have Ex34 := (((E_a21.wr W11).wr W20).wr W29)
  have Kp0 : Keep h0 h11 [a5, a12, a21] := (Keep.refl h0 [a5, a12, a21]).wr W11 (Or.inl (List.mem_of_getElem? (i := 0) rfl))
  have Kp1 : Keep h0 h20 [a5, a12, a21] := Kp0.wr W20 (Or.inl (List.mem_of_getElem? (i := 1) rfl))
  have Kp2 : Keep h0 h29 [a5, a12, a21] := Kp1.wr W29 (Or.inl (List.mem_of_getElem? (i := 2) rfl))
  refine ⟨T29, _, _, _, none, X29, (fun _ => rfl), by decide, by decide, ?_, fun fs hr => ?_⟩
  · rw [e29]
    exact ⟨rfl, N29, Kp2, Ex30, Va31, Ex32, Va33, Ex34, Vs29⟩
  · refine XS.aloadN X0.here hx rfl (hb hby d9_0) rfl rfl ?_
    refine st6 _ ?_
    refine XS.iloadN X6.here hx rfl (hb hby d9_4) rfl ?_
    refine XS.floadN X6.here hx rfl (hb hby d9_5) rfl ?_
    refine st11 _ ?_
    refine XS.aloadN X11.here hx rfl (hb hby d9_7) rfl rfl ?_
    refine st14 _ ?_
    refine XS.iloadN X14.here hx rfl (hb hby d9_11) rfl ?_
    refine XS.lloadN X14.here hx rfl (hb hby d9_12) rfl ?_
    refine st20 _ ?_
    refine XS.aloadN X20.here hx rfl (hb hby d9_14) rfl rfl ?_
    refine st23 _ ?_
    refine XS.iloadN X23.here hx rfl (hb hby d9_18) rfl ?_
    refine XS.iload X23.here hx rfl (hb hby d9_19) rfl ?_
    refine st29 _ ?_
    exact X29.returnOut hx hret (hb hby d9_22) hr
-- com/example/senret/senret/TopSentences.put(IFJI)V
abbrev Rm83 : Room := { frames := 0, cells := 0, slots := 0, locals := 0 }
def Q83 (Z : State) (a1 : Addr) (f2 : UInt32) (q3 : Int64) (p4 : Int32) (a5 : Addr) (k7 : ClassId) (a11 : Addr) (k14 : ClassId) (a19 : Addr) (k22 : ClassId) (h0 : Heap) (n0 : Nat) (v : Option Value) (h : Heap) (L : List Loc) : Prop := v = none ∧ Fr n0 L ∧ Keep h0 h [a5, a11, a19] ∧ Exa Z h a5 "[F" ∧ Arv Z h a5 k7 .float (4 : Int32) [(.float f2), (.float f2), (.float 0), (.float 0)] (.float 0) ∧ Exa Z h a11 "[J" ∧ Arv Z h a11 k14 .long (4 : Int32) [(.long q3), (.long q3), (.long 0), (.long 0)] (.long 0) ∧ Exa Z h a19 "[I" ∧ Arv Z h a19 k22 .int (4 : Int32) [(.int p4), (.int p4), (.int 0), (.int 0)] (.int 0)
-- ef_ea78cb
theorem rm83 (l : Launch) (Z : State) (a0 : Array Value) (hw : HW a0 Z) (ws : List Jvm.Cond) (a1 : Addr) (f2 : UInt32) (q3 : Int64) (p4 : Int32) (a5 : Addr) (k7 : ClassId) (a11 : Addr) (k14 : ClassId) (a19 : Addr) (k22 : ClassId) (h0 : Heap) (n0 : Nat) (Z0 : n0 ≤ h0.size) (F_scoresAsRead_a1 : Fld Z h0 a1 kT "scoresAsRead" "[F" (.ref a5)) (V_a5 : Arv Z h0 a5 k7 .float (4 : Int32) [(.float f2), (.float 0), (.float 0), (.float 0)] (.float 0)) (g_a5 : n0 ≤ a5) (F_scores_a1 : Fld Z h0 a1 kT "scores" "[J" (.ref a11)) (ne_a1_a5 : a1 ≠ a5) (V_a11 : Arv Z h0 a11 k14 .long (4 : Int32) [(.long q3), (.long 0), (.long 0), (.long 0)] (.long 0)) (ne_a11_a5 : a11 ≠ a5) (g_a11 : n0 ≤ a11) (F_ordinals_a1 : Fld Z h0 a1 kT "ordinals" "[I" (.ref a19)) (ne_a1_a11 : a1 ≠ a11) (V_a19 : Arv Z h0 a19 k22 .int (4 : Int32) [(.int p4), (.int 0), (.int 0), (.int 0)] (.int 0)) (ne_a19_a5 : a19 ≠ a5) (ne_a19_a11 : a19 ≠ a11) (g_a19 : n0 ≤ a19) (E_a5 : Exa Z h0 a5 "[F") (E_a11 : Exa Z h0 a11 "[J") (E_a19 : Exa Z h0 a19 "[I") :
    OwnMet l Z y_5 prog_25_method_11_code 6 none ws Rm83 #[(.ref a1), (.int 1), (.float f2), (.long q3), (.int p4)] h0 (Q83 Z a1 f2 q3 p4 a5 k7 a11 k14 a19 k22 h0 n0) := by
  refine own_body (plainFor_of_name pn_1) (ef_ea78cb a1 f2 q3 p4) ?_
  intro p e s m below meth c s₁ hx hby hml hown hnm hret hZ X0 e0
  have N0 := Fr.nil n0
  obtain ⟨T6, X6, e6, st6⟩ := getF X0 hx hZ hown (host := "") (Or.inl (w_21 hw)) Via.refl e0 F_scoresAsRead_a1 (g := (mkF m 1 #[.val (.ref a1), .val (.int 1), .val (.float f2), .val (.long q3), .second, .val (.int p4)] [(.ref a1)])) rfl rfl (hb hby d9_1)
  obtain ⟨cl8, Ar8, q8, S8, M8, Hs8, G8⟩ := id V_a5
  have hin9 : ¬ ((1 : Int32) < 0 ∨ cl8.slots.size ≤ ((1 : Int32)).toNatClampNeg) := inb_of S8 ⟨(by decide : ¬ ((1 : Int32) < (0 : Int32))), (by decide : (1 : Int32) < (4 : Int32))⟩
  obtain ⟨T10, h10, X10, e10, W10, st10⟩ := stF X6 hx hZ e6 Ar8 (j := (1 : Int32)) hin9 (g := (mkF m 6 #[.val (.ref a1), .val (.int 1), .val (.float f2), .val (.long q3), .second, .val (.int p4)] [(.float f2), (.int 1), (.ref a5)])) rfl rfl (hb hby d9_6)
  have s0 := (Keep.of_wr W10).1
  have N10 := Fr.snoc X10 N0 g_a5
  have Vs10 : Arv Z h10 a5 k7 .float (4 : Int32) [(.float f2), (.float f2), (.float 0), (.float 0)] (.float 0) := Arv.set Ar8 q8 S8 M8 Hs8 G8 rfl W10 1 rfl (Nat.le_of_ble_eq_true rfl)
  have Fl12 := (F_scores_a1.other W10 (Or.inl ne_a1_a5))
  obtain ⟨T13, X13, e13, st13⟩ := getF X10 hx hZ hown (host := "") (Or.inl (w_24 hw)) Via.refl e10 Fl12 (g := (mkF m 8 #[.val (.ref a1), .val (.int 1), .val (.float f2), .val (.long q3), .second, .val (.int p4)] [(.ref a1)])) rfl rfl (hb hby d9_8)
  have Va15 := (V_a11.other W10 ne_a11_a5)
  obtain ⟨cl16, Ar16, q16, S16, M16, Hs16, G16⟩ := id Va15
  have hin17 : ¬ ((1 : Int32) < 0 ∨ cl16.slots.size ≤ ((1 : Int32)).toNatClampNeg) := inb_of S16 ⟨(by decide : ¬ ((1 : Int32) < (0 : Int32))), (by decide : (1 : Int32) < (4 : Int32))⟩
  obtain ⟨T18, h18, X18, e18, W18, st18⟩ := stJ X13 hx hZ e13 Ar16 (j := (1 : Int32)) hin17 (g := (mkF m 13 #[.val (.ref a1), .val (.int 1), .val (.float f2), .val (.long q3), .second, .val (.int p4)] [(.long q3), (.int 1), (.ref a11)])) rfl rfl (hb hby d9_13)
  have s1 := (Keep.of_wr W18).1
  have N18 := Fr.snoc X18 N10 g_a11
  have Vs18 : Arv Z h18 a11 k14 .long (4 : Int32) [(.long q3), (.long q3), (.long 0), (.long 0)] (.long 0) := Arv.set Ar16 q16 S16 M16 Hs16 G16 rfl W18 1 rfl (Nat.le_of_ble_eq_true rfl)
  have Fl20 := ((F_ordinals_a1.other W10 (Or.inl ne_a1_a5)).other W18 (Or.inl ne_a1_a11))
  obtain ⟨T21, X21, e21, st21⟩ := getF X18 hx hZ hown (host := "") (Or.inl (w_27 hw)) Via.refl e18 Fl20 (g := (mkF m 15 #[.val (.ref a1), .val (.int 1), .val (.float f2), .val (.long q3), .second, .val (.int p4)] [(.ref a1)])) rfl rfl (hb hby d9_15)
  have Va23 := ((V_a19.other W10 ne_a19_a5).other W18 ne_a19_a11)
  obtain ⟨cl24, Ar24, q24, S24, M24, Hs24, G24⟩ := id Va23
  have hin25 : ¬ ((1 : Int32) < 0 ∨ cl24.slots.size ≤ ((1 : Int32)).toNatClampNeg) := inb_of S24 ⟨(by decide : ¬ ((1 : Int32) < (0 : Int32))), (by decide : (1 : Int32) < (4 : Int32))⟩
  obtain ⟨T26, h26, X26, e26, W26, st26⟩ := stI X21 hx hZ e21 Ar24 (j := (1 : Int32)) hin25 (g := (mkF m 21 #[.val (.ref a1), .val (.int 1), .val (.float f2), .val (.long q3), .second, .val (.int p4)] [(.int p4), (.int 1), (.ref a19)])) rfl rfl (hb hby d9_21)
  have s2 := (Keep.of_wr W26).1
  have N26 := Fr.snoc X26 N18 g_a19
  have Vs26 : Arv Z h26 a19 k22 .int (4 : Int32) [(.int p4), (.int p4), (.int 0), (.int 0)] (.int 0) := Arv.set Ar24 q24 S24 M24 Hs24 G24 rfl W26 1 rfl (Nat.le_of_ble_eq_true rfl)
  have Ex27 := (((E_a5.wr W10).wr W18).wr W26)
  have Va28 := ((Vs10.other W18 (Ne.symm ne_a11_a5)).other W26 (Ne.symm ne_a19_a5))
  have Ex29 := (((E_a11.wr W10).wr W18).wr W26)
  have Va30 := (Vs18.other W26 (Ne.symm ne_a19_a11))
  have Ex31 := (((E_a19.wr W10).wr W18).wr W26)
  have Kp0 : Keep h0 h10 [a5, a11, a19] := (Keep.refl h0 [a5, a11, a19]).wr W10 (Or.inl (List.mem_of_getElem? (i := 0) rfl))
  have Kp1 : Keep h0 h18 [a5, a11, a19] := Kp0.wr W18 (Or.inl (List.mem_of_getElem? (i := 1) rfl))
  have Kp2 : Keep h0 h26 [a5, a11, a19] := Kp1.wr W26 (Or.inl (List.mem_of_getElem? (i := 2) rfl))
  refine ⟨T26, _, _, _, none, X26, (fun _ => rfl), by decide, by decide, ?_, fun fs hr => ?_⟩
  · rw [e26]
    exact ⟨rfl, N26, Kp2, Ex27, Va28, Ex29, Va30, Ex31, Vs26⟩
  · refine XS.aloadN X0.here hx rfl (hb hby d9_0) rfl rfl ?_
    refine st6 _ ?_
    refine XS.iloadN X6.here hx rfl (hb hby d9_4) rfl ?_
    refine XS.floadN X6.here hx rfl (hb hby d9_5) rfl ?_
    refine st10 _ ?_
    refine XS.aloadN X10.here hx rfl (hb hby d9_7) rfl rfl ?_
    refine st13 _ ?_
    refine XS.iloadN X13.here hx rfl (hb hby d9_11) rfl ?_
    refine XS.lloadN X13.here hx rfl (hb hby d9_12) rfl ?_
    refine st18 _ ?_
    refine XS.aloadN X18.here hx rfl (hb hby d9_14) rfl rfl ?_
    refine st21 _ ?_
    refine XS.iloadN X21.here hx rfl (hb hby d9_18) rfl ?_
    refine XS.iload X21.here hx rfl (hb hby d9_19) rfl ?_
    refine st26 _ ?_
    exact X26.returnOut hx hret (hb hby d9_22) hr
-- com/example/senret/senret/TopSentences.move(II)V
abbrev Rm84 : Room := { frames := 1, cells := 0, slots := 0, locals := 17 }
def Q84 (Z : State) (a1 : Addr) (a2 : Addr) (f4 : UInt32) (k5 : ClassId) (a8 : Addr) (q10 : Int64) (k11 : ClassId) (a14 : Addr) (p16 : Int32) (k17 : ClassId) (h0 : Heap) (n0 : Nat) (v : Option Value) (h : Heap) (L : List Loc) : Prop := v = none ∧ Fr n0 L ∧ Keep h0 h [a2, a8, a14] ∧ Exa Z h a2 "[F" ∧ Arv Z h a2 k5 .float (4 : Int32) [(.float f4), (.float f4), (.float 0), (.float 0)] (.float 0) ∧ Exa Z h a8 "[J" ∧ Arv Z h a8 k11 .long (4 : Int32) [(.long q10), (.long q10), (.long 0), (.long 0)] (.long 0) ∧ Exa Z h a14 "[I" ∧ Arv Z h a14 k17 .int (4 : Int32) [(.int p16), (.int p16), (.int 0), (.int 0)] (.int 0)
-- ef_c4acf6
theorem rm84 (l : Launch) (Z : State) (a0 : Array Value) (hw : HW a0 Z) (ws : List Jvm.Cond) (a1 : Addr) (a2 : Addr) (f4 : UInt32) (k5 : ClassId) (a8 : Addr) (q10 : Int64) (k11 : ClassId) (a14 : Addr) (p16 : Int32) (k17 : ClassId) (h0 : Heap) (n0 : Nat) (Z0 : n0 ≤ h0.size) (F_scoresAsRead_a1 : Fld Z h0 a1 kT "scoresAsRead" "[F" (.ref a2)) (V_a2 : Arv Z h0 a2 k5 .float (4 : Int32) [(.float f4), (.float 0), (.float 0), (.float 0)] (.float 0)) (F_scores_a1 : Fld Z h0 a1 kT "scores" "[J" (.ref a8)) (V_a8 : Arv Z h0 a8 k11 .long (4 : Int32) [(.long q10), (.long 0), (.long 0), (.long 0)] (.long 0)) (F_ordinals_a1 : Fld Z h0 a1 kT "ordinals" "[I" (.ref a14)) (V_a14 : Arv Z h0 a14 k17 .int (4 : Int32) [(.int p16), (.int 0), (.int 0), (.int 0)] (.int 0)) (g_a2 : n0 ≤ a2) (ne_a1_a2 : a1 ≠ a2) (ne_a8_a2 : a8 ≠ a2) (g_a8 : n0 ≤ a8) (ne_a1_a8 : a1 ≠ a8) (ne_a14_a2 : a14 ≠ a2) (ne_a14_a8 : a14 ≠ a8) (g_a14 : n0 ≤ a14) (E_a2 : Exa Z h0 a2 "[F") (E_a8 : Exa Z h0 a8 "[J") (E_a14 : Exa Z h0 a14 "[I") (E_a1 : Exa Z h0 a1 kT) :
    OwnMet l Z y_12 prog_25_method_10_code 3 none ws Rm84 #[(.ref a1), (.int 0), (.int 1)] h0 (Q84 Z a1 a2 f4 k5 a8 q10 k11 a14 p16 k17 h0 n0) := by
  refine own_body (plainFor_of_name pn_1) (ef_c4acf6 a1) ?_
  intro p e s m below meth c s₁ hx hby hml hown hnm hret hZ X0 e0
  have N0 := Fr.nil n0
  obtain ⟨T3, X3, e3, st3⟩ := getF X0 hx hZ hown (host := "") (Or.inl (w_21 hw)) Via.refl e0 F_scoresAsRead_a1 (g := (mkF m 3 #[.val (.ref a1), .val (.int 0), .val (.int 1)] [(.ref a1), (.int 1), (.ref a1)])) rfl rfl (hb hby d13_3)
  obtain ⟨cl6, Ar6, q6, S6, M6, Hs6, G6⟩ := id V_a2
  have hin7 : ¬ ((0 : Int32) < 0 ∨ cl6.slots.size ≤ ((0 : Int32)).toNatClampNeg) := inb_of S6 ⟨(by decide : ¬ ((0 : Int32) < (0 : Int32))), (by decide : (0 : Int32) < (4 : Int32))⟩
  obtain ⟨T9, X9, e9, st9⟩ := getF X3 hx hZ hown (host := "") (Or.inl (w_24 hw)) Via.refl e3 F_scores_a1 (g := (mkF m 9 #[.val (.ref a1), .val (.int 0), .val (.int 1)] [(.ref a1), (.float f4), (.int 1), (.ref a1)])) rfl rfl (hb hby d13_9)
  obtain ⟨cl12, Ar12, q12, S12, M12, Hs12, G12⟩ := id V_a8
  have hin13 : ¬ ((0 : Int32) < 0 ∨ cl12.slots.size ≤ ((0 : Int32)).toNatClampNeg) := inb_of S12 ⟨(by decide : ¬ ((0 : Int32) < (0 : Int32))), (by decide : (0 : Int32) < (4 : Int32))⟩
  obtain ⟨T15, X15, e15, st15⟩ := getF X9 hx hZ hown (host := "") (Or.inl (w_27 hw)) Via.refl e9 F_ordinals_a1 (g := (mkF m 15 #[.val (.ref a1), .val (.int 0), .val (.int 1)] [(.ref a1), (.long q10), (.float f4), (.int 1), (.ref a1)])) rfl rfl (hb hby d13_15)
  obtain ⟨cl18, Ar18, q18, S18, M18, Hs18, G18⟩ := id V_a14
  have hin19 : ¬ ((0 : Int32) < 0 ∨ cl18.slots.size ≤ ((0 : Int32)).toNatClampNeg) := inb_of S18 ⟨(by decide : ¬ ((0 : Int32) < (0 : Int32))), (by decide : (0 : Int32) < (4 : Int32))⟩
  obtain ⟨_, T20, L20, X20, hQ20, st20⟩ := own_private X15 hx hZ hown (y := y_5) E_a1 (w_52 hw) (w_53 hw) (Jvm.Kit.selects_private (by decide) (mvT hZ (w_6 hw)) (mvP hZ (w_54 hw)) (mvT hZ (w_53 hw))) (w_54 hw) (w_7 hw) (w_55 hw) (rm83 l Z a0 hw [] a1 f4 q10 p16 a2 k5 a8 k11 a14 k17 h0 n0 Z0 F_scoresAsRead_a1 V_a2 g_a2 F_scores_a1 ne_a1_a2 V_a8 ne_a8_a2 g_a8 F_ordinals_a1 ne_a1_a8 V_a14 ne_a14_a2 ne_a14_a8 g_a14 E_a2 E_a8 E_a14) e15 (Ls := #[.val (.ref a1), .val (.int 0), .val (.int 1)]) (by rw [hml]; rfl) (argsL := [(.int 1), (.float f4), (.long q10), (.int p16)]) (rest := []) (lenOf pd_5 rfl) (hb hby d13_20) (W := 0)
  obtain ⟨rfl, Nq20, K20, o20_0, o20_1, o20_2, o20_3, o20_4, o20_5⟩ := hQ20
  have N20 := Fr.app N0 Nq20
  have s0 := K20.1
  have Kp0 : Keep h0 T20.heap [a2, a8, a14] := (Keep.refl h0 [a2, a8, a14]).trans K20 (allS (Or.inl (List.mem_of_getElem? (i := 0) rfl)) (allS (Or.inl (List.mem_of_getElem? (i := 1) rfl)) (allS (Or.inl (List.mem_of_getElem? (i := 2) rfl)) all0)))
  refine ⟨T20, _, _, _, none, X20, (fun _ => rfl), by decide, by decide, ?_, fun fs hr => ?_⟩
  · exact ⟨rfl, N20, Kp0, o20_0, o20_1, o20_2, o20_3, o20_4, o20_5⟩
  · refine XS.aloadN X0.here hx rfl (hb hby d13_0) rfl rfl ?_
    refine XS.iloadN X0.here hx rfl (hb hby d13_1) rfl ?_
    refine XS.aloadN X0.here hx rfl (hb hby d13_2) rfl rfl ?_
    refine st3 _ ?_
    refine XS.iloadN X3.here hx rfl (hb hby d13_6) rfl ?_
    refine X3.faload hx (j := (0 : Int32)) (v := (.float f4)) (by rw [e3]; exact Ar6.1) (State.isArrayOf_alike hZ.alike Ar6.2.1) Ar6.2.2 hin7 (Has.at Hs6 hin7 rfl) (g := (mkF m 7 #[.val (.ref a1), .val (.int 0), .val (.int 1)] [(.int 0), (.ref a2), (.int 1), (.ref a1)])) rfl rfl (hb hby d13_7) _ ?_
    refine XS.aloadN X3.here hx rfl (hb hby d13_8) rfl rfl ?_
    refine st9 _ ?_
    refine XS.iloadN X9.here hx rfl (hb hby d13_12) rfl ?_
    refine X9.laload hx (j := (0 : Int32)) (v := (.long q10)) (by rw [e9]; exact Ar12.1) (State.isArrayOf_alike hZ.alike Ar12.2.1) Ar12.2.2 hin13 (Has.at Hs12 hin13 rfl) (g := (mkF m 13 #[.val (.ref a1), .val (.int 0), .val (.int 1)] [(.int 0), (.ref a8), (.float f4), (.int 1), (.ref a1)])) rfl rfl (hb hby d13_13) _ ?_
    refine XS.aloadN X9.here hx rfl (hb hby d13_14) rfl rfl ?_
    refine st15 _ ?_
    refine XS.iloadN X15.here hx rfl (hb hby d13_18) rfl ?_
    refine X15.iaload hx (j := (0 : Int32)) (v := (.int p16)) (by rw [e15]; exact Ar18.1) (State.isArrayOf_alike hZ.alike Ar18.2.1) Ar18.2.2 hin19 (Has.at Hs18 hin19 rfl) (g := (mkF m 19 #[.val (.ref a1), .val (.int 0), .val (.int 1)] [(.int 0), (.ref a14), (.long q10), (.float f4), (.int 1), (.ref a1)])) rfl rfl (hb hby d13_19) _ ?_
    refine st20 _ ?_
    exact X20.returnOut hx hret (hb hby d13_23) hr
-- com/example/senret/senret/TopSentences.put(IFJI)V
abbrev Rm85 : Room := { frames := 0, cells := 0, slots := 0, locals := 0 }
def Q85 (Z : State) (a1 : Addr) (f2 : UInt32) (q3 : Int64) (p4 : Int32) (a5 : Addr) (f7 : UInt32) (k8 : ClassId) (a12 : Addr) (q15 : Int64) (k16 : ClassId) (a21 : Addr) (p24 : Int32) (k25 : ClassId) (h0 : Heap) (n0 : Nat) (v : Option Value) (h : Heap) (L : List Loc) : Prop := v = none ∧ Fr n0 L ∧ Keep h0 h [a5, a12, a21] ∧ Exa Z h a5 "[F" ∧ Arv Z h a5 k8 .float (4 : Int32) [(.float f2), (.float f7), (.float 0), (.float 0)] (.float 0) ∧ Exa Z h a12 "[J" ∧ Arv Z h a12 k16 .long (4 : Int32) [(.long q3), (.long q15), (.long 0), (.long 0)] (.long 0) ∧ Exa Z h a21 "[I" ∧ Arv Z h a21 k25 .int (4 : Int32) [(.int p4), (.int p24), (.int 0), (.int 0)] (.int 0)
-- ef_bf04c5
theorem rm85 (l : Launch) (Z : State) (a0 : Array Value) (hw : HW a0 Z) (ws : List Jvm.Cond) (a1 : Addr) (f2 : UInt32) (q3 : Int64) (p4 : Int32) (a5 : Addr) (f7 : UInt32) (k8 : ClassId) (a12 : Addr) (q15 : Int64) (k16 : ClassId) (a21 : Addr) (p24 : Int32) (k25 : ClassId) (h0 : Heap) (n0 : Nat) (Z0 : n0 ≤ h0.size) (F_scoresAsRead_a1 : Fld Z h0 a1 kT "scoresAsRead" "[F" (.ref a5)) (V_a5 : Arv Z h0 a5 k8 .float (4 : Int32) [(.float f7), (.float f7), (.float 0), (.float 0)] (.float 0)) (g_a5 : n0 ≤ a5) (F_scores_a1 : Fld Z h0 a1 kT "scores" "[J" (.ref a12)) (ne_a1_a5 : a1 ≠ a5) (V_a12 : Arv Z h0 a12 k16 .long (4 : Int32) [(.long q15), (.long q15), (.long 0), (.long 0)] (.long 0)) (ne_a12_a5 : a12 ≠ a5) (g_a12 : n0 ≤ a12) (F_ordinals_a1 : Fld Z h0 a1 kT "ordinals" "[I" (.ref a21)) (ne_a1_a12 : a1 ≠ a12) (V_a21 : Arv Z h0 a21 k25 .int (4 : Int32) [(.int p24), (.int p24), (.int 0), (.int 0)] (.int 0)) (ne_a21_a5 : a21 ≠ a5) (ne_a21_a12 : a21 ≠ a12) (g_a21 : n0 ≤ a21) (E_a5 : Exa Z h0 a5 "[F") (E_a12 : Exa Z h0 a12 "[J") (E_a21 : Exa Z h0 a21 "[I") :
    OwnMet l Z y_5 prog_25_method_11_code 6 none ws Rm85 #[(.ref a1), (.int 0), (.float f2), (.long q3), (.int p4)] h0 (Q85 Z a1 f2 q3 p4 a5 f7 k8 a12 q15 k16 a21 p24 k25 h0 n0) := by
  refine own_body (plainFor_of_name pn_1) (ef_bf04c5 a1 f2 q3 p4) ?_
  intro p e s m below meth c s₁ hx hby hml hown hnm hret hZ X0 e0
  have N0 := Fr.nil n0
  obtain ⟨T6, X6, e6, st6⟩ := getF X0 hx hZ hown (host := "") (Or.inl (w_21 hw)) Via.refl e0 F_scoresAsRead_a1 (g := (mkF m 1 #[.val (.ref a1), .val (.int 0), .val (.float f2), .val (.long q3), .second, .val (.int p4)] [(.ref a1)])) rfl rfl (hb hby d9_1)
  obtain ⟨cl9, Ar9, q9, S9, M9, Hs9, G9⟩ := id V_a5
  have hin10 : ¬ ((0 : Int32) < 0 ∨ cl9.slots.size ≤ ((0 : Int32)).toNatClampNeg) := inb_of S9 ⟨(by decide : ¬ ((0 : Int32) < (0 : Int32))), (by decide : (0 : Int32) < (4 : Int32))⟩
  obtain ⟨T11, h11, X11, e11, W11, st11⟩ := stF X6 hx hZ e6 Ar9 (j := (0 : Int32)) hin10 (g := (mkF m 6 #[.val (.ref a1), .val (.int 0), .val (.float f2), .val (.long q3), .second, .val (.int p4)] [(.float f2), (.int 0), (.ref a5)])) rfl rfl (hb hby d9_6)
  have s0 := (Keep.of_wr W11).1
  have N11 := Fr.snoc X11 N0 g_a5
  have Vs11 : Arv Z h11 a5 k8 .float (4 : Int32) [(.float f2), (.float f7), (.float 0), (.float 0)] (.float 0) := Arv.set Ar9 q9 S9 M9 Hs9 G9 rfl W11 0 rfl (Nat.le_of_ble_eq_true rfl)
  have Fl13 := (F_scores_a1.other W11 (Or.inl ne_a1_a5))
  obtain ⟨T14, X14, e14, st14⟩ := getF X11 hx hZ hown (host := "") (Or.inl (w_24 hw)) Via.refl e11 Fl13 (g := (mkF m 8 #[.val (.ref a1), .val (.int 0), .val (.float f2), .val (.long q3), .second, .val (.int p4)] [(.ref a1)])) rfl rfl (hb hby d9_8)
  have Va17 := (V_a12.other W11 ne_a12_a5)
  obtain ⟨cl18, Ar18, q18, S18, M18, Hs18, G18⟩ := id Va17
  have hin19 : ¬ ((0 : Int32) < 0 ∨ cl18.slots.size ≤ ((0 : Int32)).toNatClampNeg) := inb_of S18 ⟨(by decide : ¬ ((0 : Int32) < (0 : Int32))), (by decide : (0 : Int32) < (4 : Int32))⟩
  obtain ⟨T20, h20, X20, e20, W20, st20⟩ := stJ X14 hx hZ e14 Ar18 (j := (0 : Int32)) hin19 (g := (mkF m 13 #[.val (.ref a1), .val (.int 0), .val (.float f2), .val (.long q3), .second, .val (.int p4)] [(.long q3), (.int 0), (.ref a12)])) rfl rfl (hb hby d9_13)
  have s1 := (Keep.of_wr W20).1
  have N20 := Fr.snoc X20 N11 g_a12
  have Vs20 : Arv Z h20 a12 k16 .long (4 : Int32) [(.long q3), (.long q15), (.long 0), (.long 0)] (.long 0) := Arv.set Ar18 q18 S18 M18 Hs18 G18 rfl W20 0 rfl (Nat.le_of_ble_eq_true rfl)
  have Fl22 := ((F_ordinals_a1.other W11 (Or.inl ne_a1_a5)).other W20 (Or.inl ne_a1_a12))
  obtain ⟨T23, X23, e23, st23⟩ := getF X20 hx hZ hown (host := "") (Or.inl (w_27 hw)) Via.refl e20 Fl22 (g := (mkF m 15 #[.val (.ref a1), .val (.int 0), .val (.float f2), .val (.long q3), .second, .val (.int p4)] [(.ref a1)])) rfl rfl (hb hby d9_15)
  have Va26 := ((V_a21.other W11 ne_a21_a5).other W20 ne_a21_a12)
  obtain ⟨cl27, Ar27, q27, S27, M27, Hs27, G27⟩ := id Va26
  have hin28 : ¬ ((0 : Int32) < 0 ∨ cl27.slots.size ≤ ((0 : Int32)).toNatClampNeg) := inb_of S27 ⟨(by decide : ¬ ((0 : Int32) < (0 : Int32))), (by decide : (0 : Int32) < (4 : Int32))⟩
  obtain ⟨T29, h29, X29, e29, W29, st29⟩ := stI X23 hx hZ e23 Ar27 (j := (0 : Int32)) hin28 (g := (mkF m 21 #[.val (.ref a1), .val (.int 0), .val (.float f2), .val (.long q3), .second, .val (.int p4)] [(.int p4), (.int 0), (.ref a21)])) rfl rfl (hb hby d9_21)
  have s2 := (Keep.of_wr W29).1
  have N29 := Fr.snoc X29 N20 g_a21
  have Vs29 : Arv Z h29 a21 k25 .int (4 : Int32) [(.int p4), (.int p24), (.int 0), (.int 0)] (.int 0) := Arv.set Ar27 q27 S27 M27 Hs27 G27 rfl W29 0 rfl (Nat.le_of_ble_eq_true rfl)
  have Ex30 := (((E_a5.wr W11).wr W20).wr W29)
  have Va31 := ((Vs11.other W20 (Ne.symm ne_a12_a5)).other W29 (Ne.symm ne_a21_a5))
  have Ex32 := (((E_a12.wr W11).wr W20).wr W29)
  have Va33 := (Vs20.other W29 (Ne.symm ne_a21_a12))
  have Ex34 := (((E_a21.wr W11).wr W20).wr W29)
  have Kp0 : Keep h0 h11 [a5, a12, a21] := (Keep.refl h0 [a5, a12, a21]).wr W11 (Or.inl (List.mem_of_getElem? (i := 0) rfl))
  have Kp1 : Keep h0 h20 [a5, a12, a21] := Kp0.wr W20 (Or.inl (List.mem_of_getElem? (i := 1) rfl))
  have Kp2 : Keep h0 h29 [a5, a12, a21] := Kp1.wr W29 (Or.inl (List.mem_of_getElem? (i := 2) rfl))
  refine ⟨T29, _, _, _, none, X29, (fun _ => rfl), by decide, by decide, ?_, fun fs hr => ?_⟩
  · rw [e29]
    exact ⟨rfl, N29, Kp2, Ex30, Va31, Ex32, Va33, Ex34, Vs29⟩
  · refine XS.aloadN X0.here hx rfl (hb hby d9_0) rfl rfl ?_
    refine st6 _ ?_
    refine XS.iloadN X6.here hx rfl (hb hby d9_4) rfl ?_
    refine XS.floadN X6.here hx rfl (hb hby d9_5) rfl ?_
    refine st11 _ ?_
    refine XS.aloadN X11.here hx rfl (hb hby d9_7) rfl rfl ?_
    refine st14 _ ?_
    refine XS.iloadN X14.here hx rfl (hb hby d9_11) rfl ?_
    refine XS.lloadN X14.here hx rfl (hb hby d9_12) rfl ?_
    refine st20 _ ?_
    refine XS.aloadN X20.here hx rfl (hb hby d9_14) rfl rfl ?_
    refine st23 _ ?_
    refine XS.iloadN X23.here hx rfl (hb hby d9_18) rfl ?_
    refine XS.iload X23.here hx rfl (hb hby d9_19) rfl ?_
    refine st29 _ ?_
    exact X29.returnOut hx hret (hb hby d9_22) hr
-- com/example/senret/senret/TopSentences.siftUp(IFJI)V
abbrev Rm86 : Room := { frames := 2, cells := 0, slots := 0, locals := 31 }
def Q86 (Z : State) (a1 : Addr) (f2 : UInt32) (q3 : Int64) (p4 : Int32) (a5 : Addr) (f7 : UInt32) (k8 : ClassId) (a11 : Addr) (p13 : Int32) (k14 : ClassId) (a27 : Addr) (q28 : Int64) (k29 : ClassId) (h0 : Heap) (n0 : Nat) (v : Option Value) (h : Heap) (L : List Loc) : Prop := v = none ∧ Fr n0 L ∧ Keep h0 h [a5, a27, a11] ∧ Exa Z h a5 "[F" ∧ Arv Z h a5 k8 .float (4 : Int32) [(.float (if (if (cmpValue (FP.fcmp f2 f7) .g) < (0 : Int32) then (1 : Int32) else (if (cmpValue (FP.fcmp f2 f7) .l) = (0 : Int32) then (if p4 < p13 then (1 : Int32) else (0 : Int32)) else (0 : Int32))) = (0 : Int32) then f7 else f2)), (.float (if (if (cmpValue (FP.fcmp f2 f7) .g) < (0 : Int32) then (1 : Int32) else (if (cmpValue (FP.fcmp f2 f7) .l) = (0 : Int32) then (if p4 < p13 then (1 : Int32) else (0 : Int32)) else (0 : Int32))) = (0 : Int32) then f2 else f7)), (.float 0), (.float 0)] (.float 0) ∧ Exa Z h a27 "[J" ∧ Arv Z h a27 k29 .long (4 : Int32) [(.long (if (if (cmpValue (FP.fcmp f2 f7) .g) < (0 : Int32) then (1 : Int32) else (if (cmpValue (FP.fcmp f2 f7) .l) = (0 : Int32) then (if p4 < p13 then (1 : Int32) else (0 : Int32)) else (0 : Int32))) = (0 : Int32) then q28 else q3)), (.long (if (if (cmpValue (FP.fcmp f2 f7) .g) < (0 : Int32) then (1 : Int32) else (if (cmpValue (FP.fcmp f2 f7) .l) = (0 : Int32) then (if p4 < p13 then (1 : Int32) else (0 : Int32)) else (0 : Int32))) = (0 : Int32) then q3 else q28)), (.long 0), (.long 0)] (.long 0) ∧ Exa Z h a11 "[I" ∧ Arv Z h a11 k14 .int (4 : Int32) [(.int (if (if (cmpValue (FP.fcmp f2 f7) .g) < (0 : Int32) then (1 : Int32) else (if (cmpValue (FP.fcmp f2 f7) .l) = (0 : Int32) then (if p4 < p13 then (1 : Int32) else (0 : Int32)) else (0 : Int32))) = (0 : Int32) then p13 else p4)), (.int (if (if (cmpValue (FP.fcmp f2 f7) .g) < (0 : Int32) then (1 : Int32) else (if (cmpValue (FP.fcmp f2 f7) .l) = (0 : Int32) then (if p4 < p13 then (1 : Int32) else (0 : Int32)) else (0 : Int32))) = (0 : Int32) then p4 else p13)), (.int 0), (.int 0)] (.int 0)
-- ef_281084
theorem rm86_0 (l : Launch) (Z : State) (a0 : Array Value) (hw : HW a0 Z) (ws : List Jvm.Cond) (a1 : Addr) (f2 : UInt32) (q3 : Int64) (p4 : Int32) (a5 : Addr) (f7 : UInt32) (k8 : ClassId) (a11 : Addr) (p13 : Int32) (k14 : ClassId) (a27 : Addr) (q28 : Int64) (k29 : ClassId) (h0 : Heap) (n0 : Nat) (Z0 : n0 ≤ h0.size) (F_scoresAsRead_a1 : Fld Z h0 a1 kT "scoresAsRead" "[F" (.ref a5)) (V_a5 : Arv Z h0 a5 k8 .float (4 : Int32) [(.float f7), (.float 0), (.float 0), (.float 0)] (.float 0)) (F_ordinals_a1 : Fld Z h0 a1 kT "ordinals" "[I" (.ref a11)) (V_a11 : Arv Z h0 a11 k14 .int (4 : Int32) [(.int p13), (.int 0), (.int 0), (.int 0)] (.int 0)) (g_a5 : n0 ≤ a5) (F_scores_a1 : Fld Z h0 a1 kT "scores" "[J" (.ref a27)) (ne_a1_a5 : a1 ≠ a5) (V_a27 : Arv Z h0 a27 k29 .long (4 : Int32) [(.long q28), (.long 0), (.long 0), (.long 0)] (.long 0)) (ne_a27_a5 : a27 ≠ a5) (g_a27 : n0 ≤ a27) (ne_a1_a27 : a1 ≠ a27) (ne_a11_a5 : a11 ≠ a5) (ne_a11_a27 : a11 ≠ a27) (g_a11 : n0 ≤ a11) (E_a5 : Exa Z h0 a5 "[F") (E_a27 : Exa Z h0 a27 "[J") (E_a11 : Exa Z h0 a11 "[I") (E_a1 : Exa Z h0 a1 kT) (ne_a1_a11 : a1 ≠ a11) (cc1 : (if (cmpValue (FP.fcmp f2 f7) .g) < (0 : Int32) then (1 : Int32) else (if (cmpValue (FP.fcmp f2 f7) .l) = (0 : Int32) then (if p4 < p13 then (1 : Int32) else (0 : Int32)) else (0 : Int32))) = (0 : Int32)) :
    OwnMet l Z y_6 prog_25_method_8_code 8 none ws Rm86 #[(.ref a1), (.int 1), (.float f2), (.long q3), (.int p4)] h0 (Q86 Z a1 f2 q3 p4 a5 f7 k8 a11 p13 k14 a27 q28 k29 h0 n0) := by
  refine own_body (plainFor_of_name pn_1) (ef_281084 a1 f2 q3 p4) ?_
  intro p e s m below meth c s₁ hx hby hml hown hnm hret hZ X0 e0
  have N0 := Fr.nil n0
  obtain ⟨T19, X19, e19, st19⟩ := getF X0 hx hZ hown (host := "") (Or.inl (w_21 hw)) Via.refl e0 F_scoresAsRead_a1 (g := (mkF m 20 #[.val (.ref a1), .val (.int 1), .val (.float f2), .val (.long q3), .second, .val (.int p4), .val (.int 1), .val (.int 0)] [(.ref a1), (.int p4), (.float f2)])) rfl rfl (hb hby d8_20)
  obtain ⟨cl20, Ar20, q20, S20, M20, Hs20, G20⟩ := id V_a5
  have hin21 : ¬ ((0 : Int32) < 0 ∨ cl20.slots.size ≤ ((0 : Int32)).toNatClampNeg) := inb_of S20 ⟨(by decide : ¬ ((0 : Int32) < (0 : Int32))), (by decide : (0 : Int32) < (4 : Int32))⟩
  obtain ⟨T22, X22, e22, st22⟩ := getF X19 hx hZ hown (host := "") (Or.inl (w_27 hw)) Via.refl e19 F_ordinals_a1 (g := (mkF m 27 #[.val (.ref a1), .val (.int 1), .val (.float f2), .val (.long q3), .second, .val (.int p4), .val (.int 1), .val (.int 0)] [(.ref a1), (.float f7), (.int p4), (.float f2)])) rfl rfl (hb hby d8_27)
  obtain ⟨cl23, Ar23, q23, S23, M23, Hs23, G23⟩ := id V_a11
  have hin24 : ¬ ((0 : Int32) < 0 ∨ cl23.slots.size ≤ ((0 : Int32)).toNatClampNeg) := inb_of S23 ⟨(by decide : ¬ ((0 : Int32) < (0 : Int32))), (by decide : (0 : Int32) < (4 : Int32))⟩
  obtain ⟨_, T25, L25, X25, hQ25, st25⟩ := own_callS X22 hx hZ hown (y := y_9) (w_60 hw) (w_61 hw) (w_7 hw) (w_62 hw) (rm11 l Z a0 hw [] f2 p4 f7 p13 h0 n0 Z0) e22 (Ls := #[.val (.ref a1), .val (.int 1), .val (.float f2), .val (.long q3), .second, .val (.int p4), .val (.int 1), .val (.int 0)]) (by rw [hml]; rfl) (argsL := [(.float f2), (.int p4), (.float f7), (.int p13)]) (rest := []) (lenOf pd_8 rfl) (hb hby d8_33) (W := 0)
  obtain ⟨rfl, Nq25, e25⟩ := hQ25
  have N25 := Fr.app N0 Nq25
  obtain ⟨x26, ex26⟩ : ∃ z, z = (if (cmpValue (FP.fcmp f2 f7) .g) < (0 : Int32) then (1 : Int32) else (if (cmpValue (FP.fcmp f2 f7) .l) = (0 : Int32) then (if p4 < p13 then (1 : Int32) else (0 : Int32)) else (0 : Int32))) := ⟨_, rfl⟩
  obtain ⟨_, T30, L30, X30, hQ30, st30⟩ := own_private X25 hx hZ hown (y := y_5) E_a1 (w_52 hw) (w_53 hw) (Jvm.Kit.selects_private (by decide) (mvT hZ (w_6 hw)) (mvP hZ (w_54 hw)) (mvT hZ (w_53 hw))) (w_54 hw) (w_7 hw) (w_55 hw) (rm82 l Z a0 hw [] a1 f2 q3 p4 a5 f7 k8 a27 q28 k29 a11 p13 k14 h0 n0 Z0 F_scoresAsRead_a1 V_a5 g_a5 F_scores_a1 ne_a1_a5 V_a27 ne_a27_a5 g_a27 F_ordinals_a1 ne_a1_a27 V_a11 ne_a11_a5 ne_a11_a27 g_a11 E_a5 E_a27 E_a11) e25 (Ls := #[.val (.ref a1), .val (.int 1), .val (.float f2), .val (.long q3), .second, .val (.int p4), .val (.int 1), .val (.int 0)]) (by rw [hml]; rfl) (argsL := [(.int 1), (.float f2), (.long q3), (.int p4)]) (rest := []) (lenOf pd_5 rfl) (hb hby d8_64) (W := 0)
  obtain ⟨rfl, Nq30, K30, o30_0, o30_1, o30_2, o30_3, o30_4, o30_5⟩ := hQ30
  have N30 := Fr.app N25 Nq30
  have s0 := K30.1
  have Kp0 : Keep h0 T30.heap [a5, a27, a11] := (Keep.refl h0 [a5, a27, a11]).trans K30 (allS (Or.inl (List.mem_of_getElem? (i := 0) rfl)) (allS (Or.inl (List.mem_of_getElem? (i := 1) rfl)) (allS (Or.inl (List.mem_of_getElem? (i := 2) rfl)) all0)))
  refine ⟨T30, _, _, _, none, X30, (fun _ => rfl), by decide, by decide, ?_, fun fs hr => ?_⟩
  · subst ex26
    unfold Q86
    rw [show (if (if (cmpValue (FP.fcmp f2 f7) .g) < (0 : Int32) then (1 : Int32) else (if (cmpValue (FP.fcmp f2 f7) .l) = (0 : Int32) then (if p4 < p13 then (1 : Int32) else (0 : Int32)) else (0 : Int32))) = (0 : Int32) then f7 else f2) = f7 from by rw [if_pos cc1]]
    rw [show (if (if (cmpValue (FP.fcmp f2 f7) .g) < (0 : Int32) then (1 : Int32) else (if (cmpValue (FP.fcmp f2 f7) .l) = (0 : Int32) then (if p4 < p13 then (1 : Int32) else (0 : Int32)) else (0 : Int32))) = (0 : Int32) then f2 else f7) = f2 from by rw [if_pos cc1]]
    rw [show (if (if (cmpValue (FP.fcmp f2 f7) .g) < (0 : Int32) then (1 : Int32) else (if (cmpValue (FP.fcmp f2 f7) .l) = (0 : Int32) then (if p4 < p13 then (1 : Int32) else (0 : Int32)) else (0 : Int32))) = (0 : Int32) then q28 else q3) = q28 from by rw [if_pos cc1]]
    rw [show (if (if (cmpValue (FP.fcmp f2 f7) .g) < (0 : Int32) then (1 : Int32) else (if (cmpValue (FP.fcmp f2 f7) .l) = (0 : Int32) then (if p4 < p13 then (1 : Int32) else (0 : Int32)) else (0 : Int32))) = (0 : Int32) then q3 else q28) = q3 from by rw [if_pos cc1]]
    rw [show (if (if (cmpValue (FP.fcmp f2 f7) .g) < (0 : Int32) then (1 : Int32) else (if (cmpValue (FP.fcmp f2 f7) .l) = (0 : Int32) then (if p4 < p13 then (1 : Int32) else (0 : Int32)) else (0 : Int32))) = (0 : Int32) then p13 else p4) = p13 from by rw [if_pos cc1]]
    rw [show (if (if (cmpValue (FP.fcmp f2 f7) .g) < (0 : Int32) then (1 : Int32) else (if (cmpValue (FP.fcmp f2 f7) .l) = (0 : Int32) then (if p4 < p13 then (1 : Int32) else (0 : Int32)) else (0 : Int32))) = (0 : Int32) then p4 else p13) = p4 from by rw [if_pos cc1]]
    exact ⟨rfl, N30, Kp0, o30_0, o30_1, o30_2, o30_3, o30_4, o30_5⟩
  · refine XS.iloadN X0.here hx rfl (hb hby d8_0) rfl ?_
    refine XS.istore X0.here hx rfl (hb hby d8_1) rfl (l' := #[.val (.ref a1), .val (.int 1), .val (.float f2), .val (.long q3), .second, .val (.int p4), .val (.int 1), .unset]) rfl ?_
    refine XS.iload X0.here hx rfl (hb hby d8_3) rfl ?_
    refine XS.ifNo X0.here hx rfl (hb hby d8_5) rfl ((if0 _ _).trans (tlt ((by decide : (0 : Int32) < (1 : Int32)) : (0 : Int32) < (1 : Int32))).2.2.2) ?_
    refine XS.iload X0.here hx rfl (hb hby d8_8) rfl ?_
    refine XS.iconst X0.here hx rfl (hb hby d8_10) ?_
    refine XS.isub X0.here hx rfl (hb hby d8_11) rfl ?_
    refine XS.iconst X0.here hx rfl (hb hby d8_12) ?_
    refine XS.idiv X0.here hx rfl (hb hby d8_13) rfl (by decide : ¬ ((2 : Int32) = (0 : Int32))) ?_
    refine XS.istore X0.here hx rfl (hb hby d8_14) rfl (l' := #[.val (.ref a1), .val (.int 1), .val (.float f2), .val (.long q3), .second, .val (.int p4), .val (.int 1), .val (.int 0)]) rfl ?_
    refine XS.floadN X0.here hx rfl (hb hby d8_16) rfl ?_
    refine XS.iload X0.here hx rfl (hb hby d8_17) rfl ?_
    refine XS.aloadN X0.here hx rfl (hb hby d8_19) rfl rfl ?_
    refine st19 _ ?_
    refine XS.iload X19.here hx rfl (hb hby d8_23) rfl ?_
    refine X19.faload hx (j := (0 : Int32)) (v := (.float f7)) (by rw [e19]; exact Ar20.1) (State.isArrayOf_alike hZ.alike Ar20.2.1) Ar20.2.2 hin21 (Has.at Hs20 hin21 rfl) (g := (mkF m 25 #[.val (.ref a1), .val (.int 1), .val (.float f2), .val (.long q3), .second, .val (.int p4), .val (.int 1), .val (.int 0)] [(.int 0), (.ref a5), (.int p4), (.float f2)])) rfl rfl (hb hby d8_25) _ ?_
    refine XS.aloadN X19.here hx rfl (hb hby d8_26) rfl rfl ?_
    refine st22 _ ?_
    refine XS.iload X22.here hx rfl (hb hby d8_30) rfl ?_
    refine X22.iaload hx (j := (0 : Int32)) (v := (.int p13)) (by rw [e22]; exact Ar23.1) (State.isArrayOf_alike hZ.alike Ar23.2.1) Ar23.2.2 hin24 (Has.at Hs23 hin24 rfl) (g := (mkF m 32 #[.val (.ref a1), .val (.int 1), .val (.float f2), .val (.long q3), .second, .val (.int p4), .val (.int 1), .val (.int 0)] [(.int 0), (.ref a11), (.float f7), (.int p4), (.float f2)])) rfl rfl (hb hby d8_32) _ ?_
    refine st25 _ ?_
    show Steps p.tables e below (T25.setTop (mkF m 36 #[.val (.ref a1), .val (.int 1), .val (.float f2), .val (.long q3), .second, .val (.int p4), .val (.int 1), .val (.int 0)] [(.int (if (cmpValue (FP.fcmp f2 f7) .g) < (0 : Int32) then (1 : Int32) else (if (cmpValue (FP.fcmp f2 f7) .l) = (0 : Int32) then (if p4 < p13 then (1 : Int32) else (0 : Int32)) else (0 : Int32))))])) _
    rw [← ex26]
    refine XS.ifNo X25.here hx rfl (hb hby d8_36) rfl ((if0 _ _).trans (teq ((by rw [ex26]; exact cc1) : x26 = (0 : Int32))).2) ?_
    refine XS.goto X25.here hx rfl (pc0 := 39) (pc' := 57) rfl (hb hby d8_39) (by decide) (by decide) ?_
    refine XS.aloadN X25.here hx rfl (hb hby d8_57) rfl rfl ?_
    refine XS.iload X25.here hx rfl (hb hby d8_58) rfl ?_
    refine XS.floadN X25.here hx rfl (hb hby d8_60) rfl ?_
    refine XS.lloadN X25.here hx rfl (hb hby d8_61) rfl ?_
    refine XS.iload X25.here hx rfl (hb hby d8_62) rfl ?_
    refine st30 _ ?_
    exact X30.returnOut hx hret (hb hby d8_67) hr
theorem rm86_1 (l : Launch) (Z : State) (a0 : Array Value) (hw : HW a0 Z) (ws : List Jvm.Cond) (a1 : Addr) (f2 : UInt32) (q3 : Int64) (p4 : Int32) (a5 : Addr) (f7 : UInt32) (k8 : ClassId) (a11 : Addr) (p13 : Int32) (k14 : ClassId) (a27 : Addr) (q28 : Int64) (k29 : ClassId) (h0 : Heap) (n0 : Nat) (Z0 : n0 ≤ h0.size) (F_scoresAsRead_a1 : Fld Z h0 a1 kT "scoresAsRead" "[F" (.ref a5)) (V_a5 : Arv Z h0 a5 k8 .float (4 : Int32) [(.float f7), (.float 0), (.float 0), (.float 0)] (.float 0)) (F_ordinals_a1 : Fld Z h0 a1 kT "ordinals" "[I" (.ref a11)) (V_a11 : Arv Z h0 a11 k14 .int (4 : Int32) [(.int p13), (.int 0), (.int 0), (.int 0)] (.int 0)) (g_a5 : n0 ≤ a5) (F_scores_a1 : Fld Z h0 a1 kT "scores" "[J" (.ref a27)) (ne_a1_a5 : a1 ≠ a5) (V_a27 : Arv Z h0 a27 k29 .long (4 : Int32) [(.long q28), (.long 0), (.long 0), (.long 0)] (.long 0)) (ne_a27_a5 : a27 ≠ a5) (g_a27 : n0 ≤ a27) (ne_a1_a27 : a1 ≠ a27) (ne_a11_a5 : a11 ≠ a5) (ne_a11_a27 : a11 ≠ a27) (g_a11 : n0 ≤ a11) (E_a5 : Exa Z h0 a5 "[F") (E_a27 : Exa Z h0 a27 "[J") (E_a11 : Exa Z h0 a11 "[I") (E_a1 : Exa Z h0 a1 kT) (ne_a1_a11 : a1 ≠ a11) (cc1 : ¬ ((if (cmpValue (FP.fcmp f2 f7) .g) < (0 : Int32) then (1 : Int32) else (if (cmpValue (FP.fcmp f2 f7) .l) = (0 : Int32) then (if p4 < p13 then (1 : Int32) else (0 : Int32)) else (0 : Int32))) = (0 : Int32))) :
    OwnMet l Z y_6 prog_25_method_8_code 8 none ws Rm86 #[(.ref a1), (.int 1), (.float f2), (.long q3), (.int p4)] h0 (Q86 Z a1 f2 q3 p4 a5 f7 k8 a11 p13 k14 a27 q28 k29 h0 n0) := by
  refine own_body (plainFor_of_name pn_1) (ef_281084 a1 f2 q3 p4) ?_
  intro p e s m below meth c s₁ hx hby hml hown hnm hret hZ X0 e0
  have N0 := Fr.nil n0
  obtain ⟨T31, X31, e31, st31⟩ := getF X0 hx hZ hown (host := "") (Or.inl (w_21 hw)) Via.refl e0 F_scoresAsRead_a1 (g := (mkF m 20 #[.val (.ref a1), .val (.int 1), .val (.float f2), .val (.long q3), .second, .val (.int p4), .val (.int 1), .val (.int 0)] [(.ref a1), (.int p4), (.float f2)])) rfl rfl (hb hby d8_20)
  obtain ⟨cl32, Ar32, q32, S32, M32, Hs32, G32⟩ := id V_a5
  have hin33 : ¬ ((0 : Int32) < 0 ∨ cl32.slots.size ≤ ((0 : Int32)).toNatClampNeg) := inb_of S32 ⟨(by decide : ¬ ((0 : Int32) < (0 : Int32))), (by decide : (0 : Int32) < (4 : Int32))⟩
  obtain ⟨T34, X34, e34, st34⟩ := getF X31 hx hZ hown (host := "") (Or.inl (w_27 hw)) Via.refl e31 F_ordinals_a1 (g := (mkF m 27 #[.val (.ref a1), .val (.int 1), .val (.float f2), .val (.long q3), .second, .val (.int p4), .val (.int 1), .val (.int 0)] [(.ref a1), (.float f7), (.int p4), (.float f2)])) rfl rfl (hb hby d8_27)
  obtain ⟨cl35, Ar35, q35, S35, M35, Hs35, G35⟩ := id V_a11
  have hin36 : ¬ ((0 : Int32) < 0 ∨ cl35.slots.size ≤ ((0 : Int32)).toNatClampNeg) := inb_of S35 ⟨(by decide : ¬ ((0 : Int32) < (0 : Int32))), (by decide : (0 : Int32) < (4 : Int32))⟩
  obtain ⟨_, T37, L37, X37, hQ37, st37⟩ := own_callS X34 hx hZ hown (y := y_9) (w_60 hw) (w_61 hw) (w_7 hw) (w_62 hw) (rm11 l Z a0 hw [] f2 p4 f7 p13 h0 n0 Z0) e34 (Ls := #[.val (.ref a1), .val (.int 1), .val (.float f2), .val (.long q3), .second, .val (.int p4), .val (.int 1), .val (.int 0)]) (by rw [hml]; rfl) (argsL := [(.float f2), (.int p4), (.float f7), (.int p13)]) (rest := []) (lenOf pd_8 rfl) (hb hby d8_33) (W := 0)
  obtain ⟨rfl, Nq37, e37⟩ := hQ37
  have N37 := Fr.app N0 Nq37
  obtain ⟨x38, ex38⟩ : ∃ z, z = (if (cmpValue (FP.fcmp f2 f7) .g) < (0 : Int32) then (1 : Int32) else (if (cmpValue (FP.fcmp f2 f7) .l) = (0 : Int32) then (if p4 < p13 then (1 : Int32) else (0 : Int32)) else (0 : Int32))) := ⟨_, rfl⟩
  obtain ⟨_, T39, L39, X39, hQ39, st39⟩ := own_private X37 hx hZ hown (y := y_12) E_a1 (w_66 hw) (w_67 hw) (Jvm.Kit.selects_private (by decide) (mvT hZ (w_6 hw)) (mvP hZ (w_68 hw)) (mvT hZ (w_67 hw))) (w_68 hw) (w_7 hw) (w_69 hw) (rm84 l Z a0 hw [] a1 a5 f7 k8 a27 q28 k29 a11 p13 k14 h0 n0 Z0 F_scoresAsRead_a1 V_a5 F_scores_a1 V_a27 F_ordinals_a1 V_a11 g_a5 ne_a1_a5 ne_a27_a5 g_a27 ne_a1_a27 ne_a11_a5 ne_a11_a27 g_a11 E_a5 E_a27 E_a11 E_a1) e37 (Ls := #[.val (.ref a1), .val (.int 1), .val (.float f2), .val (.long q3), .second, .val (.int p4), .val (.int 1), .val (.int 0)]) (by rw [hml]; rfl) (argsL := [(.int 0), (.int 1)]) (rest := []) (lenOf pd_11 rfl) (hb hby d8_47) (W := 0)
  obtain ⟨rfl, Nq39, K39, o39_0, o39_1, o39_2, o39_3, o39_4, o39_5⟩ := hQ39
  have N39 := Fr.app N37 Nq39
  have s0 := K39.1
  have Fl40 := (F_scoresAsRead_a1.keep K39 (ninS ne_a1_a5 (ninS ne_a1_a27 (ninS ne_a1_a11 nin0))))
  have Fl41 := (F_scores_a1.keep K39 (ninS ne_a1_a5 (ninS ne_a1_a27 (ninS ne_a1_a11 nin0))))
  have Fl42 := (F_ordinals_a1.keep K39 (ninS ne_a1_a5 (ninS ne_a1_a27 (ninS ne_a1_a11 nin0))))
  have z1 := Nat.le_trans Z0 s0
  have Ex44 := (E_a1.keep K39)
  obtain ⟨_, T43, L43, X43, hQ43, st43⟩ := own_private X39 hx hZ hown (y := y_5) Ex44 (w_52 hw) (w_53 hw) (Jvm.Kit.selects_private (by decide) (mvT hZ (w_6 hw)) (mvP hZ (w_54 hw)) (mvT hZ (w_53 hw))) (w_54 hw) (w_7 hw) (w_55 hw) (rm85 l Z a0 hw [] a1 f2 q3 p4 a5 f7 k8 a27 q28 k29 a11 p13 k14 T39.heap n0 z1 Fl40 o39_1 g_a5 Fl41 ne_a1_a5 o39_3 ne_a27_a5 g_a27 Fl42 ne_a1_a27 o39_5 ne_a11_a5 ne_a11_a27 g_a11 o39_0 o39_2 o39_4) rfl (Ls := #[.val (.ref a1), .val (.int 1), .val (.float f2), .val (.long q3), .second, .val (.int p4), .val (.int 0), .val (.int 0)]) (by rw [hml]; rfl) (argsL := [(.int 0), (.float f2), (.long q3), (.int p4)]) (rest := []) (lenOf pd_5 rfl) (hb hby d8_64) (W := 0)
  obtain ⟨rfl, Nq43, K43, o43_0, o43_1, o43_2, o43_3, o43_4, o43_5⟩ := hQ43
  have N43 := Fr.app N39 Nq43
  have s1 := K43.1
  have Kp0 : Keep h0 T39.heap [a5, a27, a11] := (Keep.refl h0 [a5, a27, a11]).trans K39 (allS (Or.inl (List.mem_of_getElem? (i := 0) rfl)) (allS (Or.inl (List.mem_of_getElem? (i := 1) rfl)) (allS (Or.inl (List.mem_of_getElem? (i := 2) rfl)) all0)))
  have Kp1 : Keep h0 T43.heap [a5, a27, a11] := Kp0.trans K43 (allS (Or.inl (List.mem_of_getElem? (i := 0) rfl)) (allS (Or.inl (List.mem_of_getElem? (i := 1) rfl)) (allS (Or.inl (List.mem_of_getElem? (i := 2) rfl)) all0)))
  refine ⟨T43, _, _, _, none, X43, (fun _ => rfl), by decide, by decide, ?_, fun fs hr => ?_⟩
  · subst ex38
    unfold Q86
    rw [show (if (if (cmpValue (FP.fcmp f2 f7) .g) < (0 : Int32) then (1 : Int32) else (if (cmpValue (FP.fcmp f2 f7) .l) = (0 : Int32) then (if p4 < p13 then (1 : Int32) else (0 : Int32)) else (0 : Int32))) = (0 : Int32) then f7 else f2) = f2 from by rw [if_neg cc1]]
    rw [show (if (if (cmpValue (FP.fcmp f2 f7) .g) < (0 : Int32) then (1 : Int32) else (if (cmpValue (FP.fcmp f2 f7) .l) = (0 : Int32) then (if p4 < p13 then (1 : Int32) else (0 : Int32)) else (0 : Int32))) = (0 : Int32) then f2 else f7) = f7 from by rw [if_neg cc1]]
    rw [show (if (if (cmpValue (FP.fcmp f2 f7) .g) < (0 : Int32) then (1 : Int32) else (if (cmpValue (FP.fcmp f2 f7) .l) = (0 : Int32) then (if p4 < p13 then (1 : Int32) else (0 : Int32)) else (0 : Int32))) = (0 : Int32) then q28 else q3) = q3 from by rw [if_neg cc1]]
    rw [show (if (if (cmpValue (FP.fcmp f2 f7) .g) < (0 : Int32) then (1 : Int32) else (if (cmpValue (FP.fcmp f2 f7) .l) = (0 : Int32) then (if p4 < p13 then (1 : Int32) else (0 : Int32)) else (0 : Int32))) = (0 : Int32) then q3 else q28) = q28 from by rw [if_neg cc1]]
    rw [show (if (if (cmpValue (FP.fcmp f2 f7) .g) < (0 : Int32) then (1 : Int32) else (if (cmpValue (FP.fcmp f2 f7) .l) = (0 : Int32) then (if p4 < p13 then (1 : Int32) else (0 : Int32)) else (0 : Int32))) = (0 : Int32) then p13 else p4) = p4 from by rw [if_neg cc1]]
    rw [show (if (if (cmpValue (FP.fcmp f2 f7) .g) < (0 : Int32) then (1 : Int32) else (if (cmpValue (FP.fcmp f2 f7) .l) = (0 : Int32) then (if p4 < p13 then (1 : Int32) else (0 : Int32)) else (0 : Int32))) = (0 : Int32) then p4 else p13) = p13 from by rw [if_neg cc1]]
    exact ⟨rfl, N43, Kp1, o43_0, o43_1, o43_2, o43_3, o43_4, o43_5⟩
  · refine XS.iloadN X0.here hx rfl (hb hby d8_0) rfl ?_
    refine XS.istore X0.here hx rfl (hb hby d8_1) rfl (l' := #[.val (.ref a1), .val (.int 1), .val (.float f2), .val (.long q3), .second, .val (.int p4), .val (.int 1), .unset]) rfl ?_
    refine XS.iload X0.here hx rfl (hb hby d8_3) rfl ?_
    refine XS.ifNo X0.here hx rfl (hb hby d8_5) rfl ((if0 _ _).trans (tlt ((by decide : (0 : Int32) < (1 : Int32)) : (0 : Int32) < (1 : Int32))).2.2.2) ?_
    refine XS.iload X0.here hx rfl (hb hby d8_8) rfl ?_
    refine XS.iconst X0.here hx rfl (hb hby d8_10) ?_
    refine XS.isub X0.here hx rfl (hb hby d8_11) rfl ?_
    refine XS.iconst X0.here hx rfl (hb hby d8_12) ?_
    refine XS.idiv X0.here hx rfl (hb hby d8_13) rfl (by decide : ¬ ((2 : Int32) = (0 : Int32))) ?_
    refine XS.istore X0.here hx rfl (hb hby d8_14) rfl (l' := #[.val (.ref a1), .val (.int 1), .val (.float f2), .val (.long q3), .second, .val (.int p4), .val (.int 1), .val (.int 0)]) rfl ?_
    refine XS.floadN X0.here hx rfl (hb hby d8_16) rfl ?_
    refine XS.iload X0.here hx rfl (hb hby d8_17) rfl ?_
    refine XS.aloadN X0.here hx rfl (hb hby d8_19) rfl rfl ?_
    refine st31 _ ?_
    refine XS.iload X31.here hx rfl (hb hby d8_23) rfl ?_
    refine X31.faload hx (j := (0 : Int32)) (v := (.float f7)) (by rw [e31]; exact Ar32.1) (State.isArrayOf_alike hZ.alike Ar32.2.1) Ar32.2.2 hin33 (Has.at Hs32 hin33 rfl) (g := (mkF m 25 #[.val (.ref a1), .val (.int 1), .val (.float f2), .val (.long q3), .second, .val (.int p4), .val (.int 1), .val (.int 0)] [(.int 0), (.ref a5), (.int p4), (.float f2)])) rfl rfl (hb hby d8_25) _ ?_
    refine XS.aloadN X31.here hx rfl (hb hby d8_26) rfl rfl ?_
    refine st34 _ ?_
    refine XS.iload X34.here hx rfl (hb hby d8_30) rfl ?_
    refine X34.iaload hx (j := (0 : Int32)) (v := (.int p13)) (by rw [e34]; exact Ar35.1) (State.isArrayOf_alike hZ.alike Ar35.2.1) Ar35.2.2 hin36 (Has.at Hs35 hin36 rfl) (g := (mkF m 32 #[.val (.ref a1), .val (.int 1), .val (.float f2), .val (.long q3), .second, .val (.int p4), .val (.int 1), .val (.int 0)] [(.int 0), (.ref a11), (.float f7), (.int p4), (.float f2)])) rfl rfl (hb hby d8_32) _ ?_
    refine st37 _ ?_
    show Steps p.tables e below (T37.setTop (mkF m 36 #[.val (.ref a1), .val (.int 1), .val (.float f2), .val (.long q3), .second, .val (.int p4), .val (.int 1), .val (.int 0)] [(.int (if (cmpValue (FP.fcmp f2 f7) .g) < (0 : Int32) then (1 : Int32) else (if (cmpValue (FP.fcmp f2 f7) .l) = (0 : Int32) then (if p4 < p13 then (1 : Int32) else (0 : Int32)) else (0 : Int32))))])) _
    rw [← ex38]
    refine XS.ifYes X37.here hx rfl (pc0 := 36) (pc' := 42) rfl (hb hby d8_36) rfl ((if0 _ _).trans (feq ((by rw [ex38]; exact cc1) : ¬ (x38 = (0 : Int32)))).2) (by decide) (by decide) ?_
    refine XS.aloadN X37.here hx rfl (hb hby d8_42) rfl rfl ?_
    refine XS.iload X37.here hx rfl (hb hby d8_43) rfl ?_
    refine XS.iload X37.here hx rfl (hb hby d8_45) rfl ?_
    refine st39 _ ?_
    refine XS.iload X39.here hx rfl (hb hby d8_50) rfl ?_
    refine XS.istore X39.here hx rfl (hb hby d8_52) rfl (l' := #[.val (.ref a1), .val (.int 1), .val (.float f2), .val (.long q3), .second, .val (.int p4), .val (.int 0), .val (.int 0)]) rfl ?_
    refine XS.goto X39.here hx rfl (pc0 := 54) (pc' := 3) rfl (hb hby d8_54) (by decide) (by decide) ?_
    refine XS.iload X39.here hx rfl (hb hby d8_3) rfl ?_
    refine XS.ifYes X39.here hx rfl (pc0 := 5) (pc' := 57) rfl (hb hby d8_5) rfl ((if0 _ _).trans (flt ((by decide : ¬ ((0 : Int32) < (0 : Int32))) : ¬ ((0 : Int32) < (0 : Int32)))).2.2.2) (by decide) (by decide) ?_
    refine XS.aloadN X39.here hx rfl (hb hby d8_57) rfl rfl ?_
    refine XS.iload X39.here hx rfl (hb hby d8_58) rfl ?_
    refine XS.floadN X39.here hx rfl (hb hby d8_60) rfl ?_
    refine XS.lloadN X39.here hx rfl (hb hby d8_61) rfl ?_
    refine XS.iload X39.here hx rfl (hb hby d8_62) rfl ?_
    refine st43 _ ?_
    exact X43.returnOut hx hret (hb hby d8_67) hr
theorem rm86 (l : Launch) (Z : State) (a0 : Array Value) (hw : HW a0 Z) (ws : List Jvm.Cond) (a1 : Addr) (f2 : UInt32) (q3 : Int64) (p4 : Int32) (a5 : Addr) (f7 : UInt32) (k8 : ClassId) (a11 : Addr) (p13 : Int32) (k14 : ClassId) (a27 : Addr) (q28 : Int64) (k29 : ClassId) (h0 : Heap) (n0 : Nat) (Z0 : n0 ≤ h0.size) (F_scoresAsRead_a1 : Fld Z h0 a1 kT "scoresAsRead" "[F" (.ref a5)) (V_a5 : Arv Z h0 a5 k8 .float (4 : Int32) [(.float f7), (.float 0), (.float 0), (.float 0)] (.float 0)) (F_ordinals_a1 : Fld Z h0 a1 kT "ordinals" "[I" (.ref a11)) (V_a11 : Arv Z h0 a11 k14 .int (4 : Int32) [(.int p13), (.int 0), (.int 0), (.int 0)] (.int 0)) (g_a5 : n0 ≤ a5) (F_scores_a1 : Fld Z h0 a1 kT "scores" "[J" (.ref a27)) (ne_a1_a5 : a1 ≠ a5) (V_a27 : Arv Z h0 a27 k29 .long (4 : Int32) [(.long q28), (.long 0), (.long 0), (.long 0)] (.long 0)) (ne_a27_a5 : a27 ≠ a5) (g_a27 : n0 ≤ a27) (ne_a1_a27 : a1 ≠ a27) (ne_a11_a5 : a11 ≠ a5) (ne_a11_a27 : a11 ≠ a27) (g_a11 : n0 ≤ a11) (E_a5 : Exa Z h0 a5 "[F") (E_a27 : Exa Z h0 a27 "[J") (E_a11 : Exa Z h0 a11 "[I") (E_a1 : Exa Z h0 a1 kT) (ne_a1_a11 : a1 ≠ a11) :
    OwnMet l Z y_6 prog_25_method_8_code 8 none ws Rm86 #[(.ref a1), (.int 1), (.float f2), (.long q3), (.int p4)] h0 (Q86 Z a1 f2 q3 p4 a5 f7 k8 a11 p13 k14 a27 q28 k29 h0 n0) := by
  by_cases cc1 : (if (cmpValue (FP.fcmp f2 f7) .g) < (0 : Int32) then (1 : Int32) else (if (cmpValue (FP.fcmp f2 f7) .l) = (0 : Int32) then (if p4 < p13 then (1 : Int32) else (0 : Int32)) else (0 : Int32))) = (0 : Int32)
  · exact rm86_0 l Z a0 hw ws a1 f2 q3 p4 a5 f7 k8 a11 p13 k14 a27 q28 k29 h0 n0 Z0 F_scoresAsRead_a1 V_a5 F_ordinals_a1 V_a11 g_a5 F_scores_a1 ne_a1_a5 V_a27 ne_a27_a5 g_a27 ne_a1_a27 ne_a11_a5 ne_a11_a27 g_a11 E_a5 E_a27 E_a11 E_a1 ne_a1_a11 cc1
  · exact rm86_1 l Z a0 hw ws a1 f2 q3 p4 a5 f7 k8 a11 p13 k14 a27 q28 k29 h0 n0 Z0 F_scoresAsRead_a1 V_a5 F_ordinals_a1 V_a11 g_a5 F_scores_a1 ne_a1_a5 V_a27 ne_a27_a5 g_a27 ne_a1_a27 ne_a11_a5 ne_a11_a27 g_a11 E_a5 E_a27 E_a11 E_a1 ne_a1_a11 cc1
-- com/example/senret/senret/TopSentences.offer(JI)V
abbrev Rm87 : Room := { frames := 3, cells := 0, slots := 0, locals := 50 }
def Q87 (Z : State) (a1 : Addr) (q2 : Int64) (p3 : Int32) (a7 : Addr) (q8 : Int64) (k9 : ClassId) (a14 : Addr) (f17 : UInt32) (k18 : ClassId) (a20 : Addr) (p22 : Int32) (k23 : ClassId) (h0 : Heap) (n0 : Nat) (v : Option Value) (h : Heap) (L : List Loc) : Prop := v = none ∧ Fr n0 L ∧ Keep h0 h [a1, a14, a7, a20] ∧ Exa Z h a1 kT ∧ Fld Z h a1 kT "depth" "I" (.int 4) ∧ Fld Z h a1 kT "ordinals" "[I" (.ref a20) ∧ Fld Z h a1 kT "scores" "[J" (.ref a7) ∧ Fld Z h a1 kT "scoresAsRead" "[F" (.ref a14) ∧ Fld Z h a1 kT "size" "I" (.int 2) ∧ Exa Z h a14 "[F" ∧ Arv Z h a14 k18 .float (4 : Int32) [(.float (if (if (cmpValue (FP.fcmp (sC q2) f17) .g) < (0 : Int32) then (1 : Int32) else (if (cmpValue (FP.fcmp (sC q2) f17) .l) = (0 : Int32) then (if p3 < p22 then (1 : Int32) else (0 : Int32)) else (0 : Int32))) = (0 : Int32) then f17 else (sC q2))), (.float (if (if (cmpValue (FP.fcmp (sC q2) f17) .g) < (0 : Int32) then (1 : Int32) else (if (cmpValue (FP.fcmp (sC q2) f17) .l) = (0 : Int32) then (if p3 < p22 then (1 : Int32) else (0 : Int32)) else (0 : Int32))) = (0 : Int32) then (sC q2) else f17)), (.float 0), (.float 0)] (.float 0) ∧ Exa Z h a7 "[J" ∧ Arv Z h a7 k9 .long (4 : Int32) [(.long (if (if (cmpValue (FP.fcmp (sC q2) f17) .g) < (0 : Int32) then (1 : Int32) else (if (cmpValue (FP.fcmp (sC q2) f17) .l) = (0 : Int32) then (if p3 < p22 then (1 : Int32) else (0 : Int32)) else (0 : Int32))) = (0 : Int32) then q8 else q2)), (.long (if (if (cmpValue (FP.fcmp (sC q2) f17) .g) < (0 : Int32) then (1 : Int32) else (if (cmpValue (FP.fcmp (sC q2) f17) .l) = (0 : Int32) then (if p3 < p22 then (1 : Int32) else (0 : Int32)) else (0 : Int32))) = (0 : Int32) then q2 else q8)), (.long 0), (.long 0)] (.long 0) ∧ Exa Z h a20 "[I" ∧ Arv Z h a20 k23 .int (4 : Int32) [(.int (if (if (cmpValue (FP.fcmp (sC q2) f17) .g) < (0 : Int32) then (1 : Int32) else (if (cmpValue (FP.fcmp (sC q2) f17) .l) = (0 : Int32) then (if p3 < p22 then (1 : Int32) else (0 : Int32)) else (0 : Int32))) = (0 : Int32) then p22 else p3)), (.int (if (if (cmpValue (FP.fcmp (sC q2) f17) .g) < (0 : Int32) then (1 : Int32) else (if (cmpValue (FP.fcmp (sC q2) f17) .l) = (0 : Int32) then (if p3 < p22 then (1 : Int32) else (0 : Int32)) else (0 : Int32))) = (0 : Int32) then p3 else p22)), (.int 0), (.int 0)] (.int 0)
-- ef_8cdad2
theorem rm87 (l : Launch) (Z : State) (a0 : Array Value) (hw : HW a0 Z) (ws : List Jvm.Cond) (a1 : Addr) (q2 : Int64) (p3 : Int32) (a7 : Addr) (q8 : Int64) (k9 : ClassId) (a14 : Addr) (f17 : UInt32) (k18 : ClassId) (a20 : Addr) (p22 : Int32) (k23 : ClassId) (h0 : Heap) (n0 : Nat) (Z0 : n0 ≤ h0.size) (F_size_a1 : Fld Z h0 a1 kT "size" "I" (.int 1)) (F_depth_a1 : Fld Z h0 a1 kT "depth" "I" (.int 4)) (F_scores_a1 : Fld Z h0 a1 kT "scores" "[J" (.ref a7)) (V_a7 : Arv Z h0 a7 k9 .long (4 : Int32) [(.long q8), (.long 0), (.long 0), (.long 0)] (.long 0)) (E_a1 : Exa Z h0 a1 kT) (g_a1 : n0 ≤ a1) (F_scoresAsRead_a1 : Fld Z h0 a1 kT "scoresAsRead" "[F" (.ref a14)) (V_a14 : Arv Z h0 a14 k18 .float (4 : Int32) [(.float f17), (.float 0), (.float 0), (.float 0)] (.float 0)) (ne_a14_a1 : a14 ≠ a1) (F_ordinals_a1 : Fld Z h0 a1 kT "ordinals" "[I" (.ref a20)) (V_a20 : Arv Z h0 a20 k23 .int (4 : Int32) [(.int p22), (.int 0), (.int 0), (.int 0)] (.int 0)) (ne_a20_a1 : a20 ≠ a1) (g_a14 : n0 ≤ a14) (ne_a7_a1 : a7 ≠ a1) (ne_a7_a14 : a7 ≠ a14) (g_a7 : n0 ≤ a7) (ne_a20_a14 : a20 ≠ a14) (ne_a20_a7 : a20 ≠ a7) (g_a20 : n0 ≤ a20) (E_a14 : Exa Z h0 a14 "[F") (E_a7 : Exa Z h0 a7 "[J") (E_a20 : Exa Z h0 a20 "[I") :
    OwnMet l Z y_7 prog_25_method_4_code 5 none ws Rm87 #[(.ref a1), (.long q2), (.int p3)] h0 (Q87 Z a1 q2 p3 a7 q8 k9 a14 f17 k18 a20 p22 k23 h0 n0) := by
  refine own_body (plainFor_of_name pn_1) (ef_8cdad2 a1 q2 p3) ?_
  intro p e s m below meth c s₁ hx hby hml hown hnm hret hZ X0 e0
  have N0 := Fr.nil n0
  obtain ⟨_, T4, L4, X4, hQ4, st4⟩ := own_callS X0 hx hZ hown (y := y_0) (w_43 hw) (w_1 hw) (w_2 hw) (w_3 hw) (rm1 l Z a0 hw [] q2 h0 n0 Z0) e0 (Ls := #[.val (.ref a1), .val (.long q2), .second, .val (.int p3), .unset]) (by rw [hml]; rfl) (argsL := [(.long q2)]) (rest := []) (lenOf pd_0 rfl) (hb hby d6_1) (W := 0)
  obtain ⟨rfl, Nq4, e4⟩ := hQ4
  have N4 := Fr.app N0 Nq4
  obtain ⟨T5, X5, e5, st5⟩ := getF X4 hx hZ hown (host := "") (Or.inl (w_34 hw)) Via.refl e4 F_size_a1 (g := (mkF m 7 #[.val (.ref a1), .val (.long q2), .second, .val (.int p3), .val (.float (sC q2))] [(.ref a1)])) rfl rfl (hb hby d6_7)
  obtain ⟨T6, X6, e6, st6⟩ := getF X5 hx hZ hown (host := "") (Or.inl (w_14 hw)) Via.refl e5 F_depth_a1 (g := (mkF m 11 #[.val (.ref a1), .val (.long q2), .second, .val (.int p3), .val (.float (sC q2))] [(.ref a1), (.int 1)])) rfl rfl (hb hby d6_11)
  obtain ⟨_, T10, L10, X10, hQ10, st10⟩ := own_private X6 hx hZ hown (y := y_4) E_a1 (w_44 hw) (w_45 hw) (Jvm.Kit.selects_private (by decide) (mvT hZ (w_6 hw)) (mvP hZ (w_46 hw)) (mvT hZ (w_45 hw))) (w_46 hw) (w_7 hw) (w_47 hw) (rm81 l Z a0 hw [] a1 a7 q8 k9 h0 n0 Z0 F_size_a1 F_scores_a1 V_a7) e6 (Ls := #[.val (.ref a1), .val (.long q2), .second, .val (.int p3), .val (.float (sC q2))]) (by rw [hml]; rfl) (argsL := []) (rest := []) (lenOf pd_4 rfl) (hb hby d6_18) (W := 0)
  obtain ⟨rfl, Nq10, e10⟩ := hQ10
  have N10 := Fr.app N4 Nq10
  obtain ⟨T11, X11, e11, st11⟩ := getF X10 hx hZ hown (host := "") (Or.inl (w_34 hw)) Via.refl e10 F_size_a1 (g := (mkF m 23 #[.val (.ref a1), .val (.long q2), .second, .val (.int p3), .val (.float (sC q2))] [(.ref a1), (.ref a1)])) rfl rfl (hb hby d6_23)
  obtain ⟨T12, h12, X12, e12, W12, st12⟩ := putF X11 hx hZ hown (host := "") (Or.inl (w_34 hw)) Via.refl e11 F_size_a1 E_a1 (Or.inl (w_35 hw)) (w_6 hw) (ty := .int) (by decide) rfl rfl (g := (mkF m 28 #[.val (.ref a1), .val (.long q2), .second, .val (.int p3), .val (.float (sC q2))] [(.int 2), (.ref a1)])) rfl rfl (hb hby d6_28)
  have s0 := (Keep.of_wr W12).1
  have N12 := Fr.snoc X12 N10 g_a1
  have Fw12 : Fld Z h12 a1 kT "size" "I" (.int 2) := F_size_a1.same W12
  obtain ⟨T13, X13, e13, st13⟩ := getF X12 hx hZ hown (host := "") (Or.inl (w_34 hw)) Via.refl e12 Fw12 (g := (mkF m 33 #[.val (.ref a1), .val (.long q2), .second, .val (.int p3), .val (.float (sC q2))] [(.ref a1), (.ref a1)])) rfl rfl (hb hby d6_33)
  have Ex15 := (E_a1.wr W12)
  have Fl16 := (F_scoresAsRead_a1.other W12 (Or.inr (slot_ne (Or.inl (w_22 hw)) (Or.inl (w_35 hw)) (by decide) (t := (.array .float)) (t' := .int) (by decide) (by decide))))
  have Va19 := (V_a14.other W12 ne_a14_a1)
  have Fl21 := (F_ordinals_a1.other W12 (Or.inr (slot_ne (Or.inl (w_28 hw)) (Or.inl (w_35 hw)) (by decide) (t := (.array .int)) (t' := .int) (by decide) (by decide))))
  have Va24 := (V_a20.other W12 ne_a20_a1)
  have Fl25 := (F_scores_a1.other W12 (Or.inr (slot_ne (Or.inl (w_25 hw)) (Or.inl (w_35 hw)) (by decide) (t := (.array .long)) (t' := .int) (by decide) (by decide))))
  have Va26 := (V_a7.other W12 ne_a7_a1)
  have Ex27 := (E_a14.wr W12)
  have Ex28 := (E_a7.wr W12)
  have Ex29 := (E_a20.wr W12)
  have z1 := Nat.le_trans Z0 s0
  obtain ⟨_, T30, L30, X30, hQ30, st30⟩ := own_private X13 hx hZ hown (y := y_6) Ex15 (w_48 hw) (w_49 hw) (Jvm.Kit.selects_private (by decide) (mvT hZ (w_6 hw)) (mvP hZ (w_50 hw)) (mvT hZ (w_49 hw))) (w_50 hw) (w_7 hw) (w_51 hw) (rm86 l Z a0 hw [] a1 (sC q2) q2 p3 a14 f17 k18 a20 p22 k23 a7 q8 k9 h12 n0 z1 Fl16 Va19 Fl21 Va24 g_a14 Fl25 (Ne.symm ne_a14_a1) Va26 ne_a7_a14 g_a7 (Ne.symm ne_a7_a1) ne_a20_a14 ne_a20_a7 g_a20 Ex27 Ex28 Ex29 Ex15 (Ne.symm ne_a20_a1)) e13 (Ls := #[.val (.ref a1), .val (.long q2), .second, .val (.int p3), .val (.float (sC q2))]) (by rw [hml]; rfl) (argsL := [(.int 1), (.float (sC q2)), (.long q2), (.int p3)]) (rest := []) (lenOf pd_5 rfl) (hb hby d6_42) (W := 0)
  obtain ⟨rfl, Nq30, K30, o30_0, o30_1, o30_2, o30_3, o30_4, o30_5⟩ := hQ30
  have N30 := Fr.app N12 Nq30
  have s1 := K30.1
  obtain ⟨x31, ex31⟩ : ∃ z, z = (if (if (cmpValue (FP.fcmp (sC q2) f17) .g) < (0 : Int32) then (1 : Int32) else (if (cmpValue (FP.fcmp (sC q2) f17) .l) = (0 : Int32) then (if p3 < p22 then (1 : Int32) else (0 : Int32)) else (0 : Int32))) = (0 : Int32) then f17 else (sC q2)) := ⟨_, rfl⟩
  obtain ⟨x32, ex32⟩ : ∃ z, z = (if (if (cmpValue (FP.fcmp (sC q2) f17) .g) < (0 : Int32) then (1 : Int32) else (if (cmpValue (FP.fcmp (sC q2) f17) .l) = (0 : Int32) then (if p3 < p22 then (1 : Int32) else (0 : Int32)) else (0 : Int32))) = (0 : Int32) then (sC q2) else f17) := ⟨_, rfl⟩
  have o30_1' : Arv Z T30.heap a14 k18 .float (4 : Int32) [(.float x31), (.float x32), (.float 0), (.float 0)] (.float 0) := by rw [ex31, ex32]; exact o30_1
  obtain ⟨x33, ex33⟩ : ∃ z, z = (if (if (cmpValue (FP.fcmp (sC q2) f17) .g) < (0 : Int32) then (1 : Int32) else (if (cmpValue (FP.fcmp (sC q2) f17) .l) = (0 : Int32) then (if p3 < p22 then (1 : Int32) else (0 : Int32)) else (0 : Int32))) = (0 : Int32) then q8 else q2) := ⟨_, rfl⟩
  obtain ⟨x34, ex34⟩ : ∃ z, z = (if (if (cmpValue (FP.fcmp (sC q2) f17) .g) < (0 : Int32) then (1 : Int32) else (if (cmpValue (FP.fcmp (sC q2) f17) .l) = (0 : Int32) then (if p3 < p22 then (1 : Int32) else (0 : Int32)) else (0 : Int32))) = (0 : Int32) then q2 else q8) := ⟨_, rfl⟩
  have o30_3' : Arv Z T30.heap a7 k9 .long (4 : Int32) [(.long x33), (.long x34), (.long 0), (.long 0)] (.long 0) := by rw [ex33, ex34]; exact o30_3
  obtain ⟨x35, ex35⟩ : ∃ z, z = (if (if (cmpValue (FP.fcmp (sC q2) f17) .g) < (0 : Int32) then (1 : Int32) else (if (cmpValue (FP.fcmp (sC q2) f17) .l) = (0 : Int32) then (if p3 < p22 then (1 : Int32) else (0 : Int32)) else (0 : Int32))) = (0 : Int32) then p22 else p3) := ⟨_, rfl⟩
  obtain ⟨x36, ex36⟩ : ∃ z, z = (if (if (cmpValue (FP.fcmp (sC q2) f17) .g) < (0 : Int32) then (1 : Int32) else (if (cmpValue (FP.fcmp (sC q2) f17) .l) = (0 : Int32) then (if p3 < p22 then (1 : Int32) else (0 : Int32)) else (0 : Int32))) = (0 : Int32) then p3 else p22) := ⟨_, rfl⟩
  have o30_5' : Arv Z T30.heap a20 k23 .int (4 : Int32) [(.int x35), (.int x36), (.int 0), (.int 0)] (.int 0) := by rw [ex35, ex36]; exact o30_5
  have Ex37 := (Ex15.keep K30)
  have Fl38 := ((F_depth_a1.other W12 (Or.inr (slot_ne (Or.inr (w_15 hw)) (Or.inl (w_35 hw)) (by decide) (t := .int) (t' := .int) (by decide) (by decide)))).keep K30 (ninS (Ne.symm ne_a14_a1) (ninS (Ne.symm ne_a7_a1) (ninS (Ne.symm ne_a20_a1) nin0))))
  have Fl39 := (Fl21.keep K30 (ninS (Ne.symm ne_a14_a1) (ninS (Ne.symm ne_a7_a1) (ninS (Ne.symm ne_a20_a1) nin0))))
  have Fl40 := (Fl25.keep K30 (ninS (Ne.symm ne_a14_a1) (ninS (Ne.symm ne_a7_a1) (ninS (Ne.symm ne_a20_a1) nin0))))
  have Fl41 := (Fl16.keep K30 (ninS (Ne.symm ne_a14_a1) (ninS (Ne.symm ne_a7_a1) (ninS (Ne.symm ne_a20_a1) nin0))))
  have Fl42 := (Fw12.keep K30 (ninS (Ne.symm ne_a14_a1) (ninS (Ne.symm ne_a7_a1) (ninS (Ne.symm ne_a20_a1) nin0))))
  have Kp0 : Keep h0 h12 [a1, a14, a7, a20] := (Keep.refl h0 [a1, a14, a7, a20]).wr W12 (Or.inl (List.mem_of_getElem? (i := 0) rfl))
  have Kp1 : Keep h0 T30.heap [a1, a14, a7, a20] := Kp0.trans K30 (allS (Or.inl (List.mem_of_getElem? (i := 1) rfl)) (allS (Or.inl (List.mem_of_getElem? (i := 2) rfl)) (allS (Or.inl (List.mem_of_getElem? (i := 3) rfl)) all0)))
  refine ⟨T30, _, _, _, none, X30, (fun _ => rfl), by decide, by decide, ?_, fun fs hr => ?_⟩
  · subst ex36
    subst ex35
    subst ex34
    subst ex33
    subst ex32
    subst ex31
    exact ⟨rfl, N30, Kp1, Ex37, Fl38, Fl39, Fl40, Fl41, Fl42, o30_0, o30_1', o30_2, o30_3', o30_4, o30_5'⟩
  · refine XS.lloadN X0.here hx rfl (hb hby d6_0) rfl ?_
    refine st4 _ ?_
    refine XS.fstore X4.here hx rfl (hb hby d6_4) rfl (l' := #[.val (.ref a1), .val (.long q2), .second, .val (.int p3), .val (.float (sC q2))]) rfl ?_
    refine XS.aloadN X4.here hx rfl (hb hby d6_6) rfl rfl ?_
    refine st5 _ ?_
    refine XS.aloadN X5.here hx rfl (hb hby d6_10) rfl rfl ?_
    refine st6 _ ?_
    refine XS.icmpNo X6.here hx rfl (hb hby d6_14) rfl (tlt ((by decide : (1 : Int32) < (4 : Int32)) : (1 : Int32) < (4 : Int32))).2.1 ?_
    refine XS.aloadN X6.here hx rfl (hb hby d6_17) rfl rfl ?_
    refine st10 _ ?_
    refine XS.aloadN X10.here hx rfl (hb hby d6_21) rfl rfl ?_
    refine XS.dup X10.here hx rfl (hb hby d6_22) rfl rfl ?_
    refine st11 _ ?_
    refine XS.iconst X11.here hx rfl (hb hby d6_26) ?_
    refine XS.iadd X11.here hx rfl (hb hby d6_27) rfl ?_
    refine st12 _ ?_
    refine XS.aloadN X12.here hx rfl (hb hby d6_31) rfl rfl ?_
    refine XS.aloadN X12.here hx rfl (hb hby d6_32) rfl rfl ?_
    refine st13 _ ?_
    refine XS.iconst X13.here hx rfl (hb hby d6_36) ?_
    refine XS.isub X13.here hx rfl (hb hby d6_37) rfl ?_
    refine XS.fload X13.here hx rfl (hb hby d6_38) rfl ?_
    refine XS.lloadN X13.here hx rfl (hb hby d6_40) rfl ?_
    refine XS.iloadN X13.here hx rfl (hb hby d6_41) rfl ?_
    refine st30 _ ?_
    refine XS.goto X30.here hx rfl (pc0 := 45) (pc' := 77) rfl (hb hby d6_45) (by decide) (by decide) ?_
    exact X30.returnOut hx hret (hb hby d6_77) hr
-- com/example/senret/senret/TopSentences.lowestAdmitted()F
abbrev Rm88 : Room := { frames := 0, cells := 0, slots := 0, locals := 0 }
def Q88 (Z : State) (a1 : Addr) (h0 : Heap) (n0 : Nat) (v : Option Value) (h : Heap) (L : List Loc) : Prop := v = some (.float 4286578688) ∧ Fr n0 L ∧ h = h0
-- ef_26f21a
theorem rm88 (l : Launch) (Z : State) (a0 : Array Value) (hw : HW a0 Z) (ws : List Jvm.Cond) (a1 : Addr) (h0 : Heap) (n0 : Nat) (Z0 : n0 ≤ h0.size) (F_size_a1 : Fld Z h0 a1 kT "size" "I" (.int 2)) (F_depth_a1 : Fld Z h0 a1 kT "depth" "I" (.int 4)) :
    OwnMet l Z y_3 prog_25_method_3_code 1 (some .float) ws Rm88 #[(.ref a1)] h0 (Q88 Z a1 h0 n0) := by
  refine own_body (plainFor_of_name pn_1) (ef_26f21a a1) ?_
  intro p e s m below meth c s₁ hx hby hml hown hnm hret hZ X0 e0
  have N0 := Fr.nil n0
  obtain ⟨T2, X2, e2, st2⟩ := getF X0 hx hZ hown (host := "") (Or.inl (w_34 hw)) Via.refl e0 F_size_a1 (g := (mkF m 1 #[.val (.ref a1)] [(.ref a1)])) rfl rfl (hb hby d5_1)
  obtain ⟨T3, X3, e3, st3⟩ := getF X2 hx hZ hown (host := "") (Or.inl (w_14 hw)) Via.refl e2 F_depth_a1 (g := (mkF m 5 #[.val (.ref a1)] [(.ref a1), (.int 2)])) rfl rfl (hb hby d5_5)
  refine ⟨T3, _, _, _, (some (.float 4286578688)), X3, nofun, by decide, by decide, ?_, fun fs hr => ?_⟩
  · rw [e3]
    exact ⟨rfl, N0, rfl⟩
  · refine XS.aloadN X0.here hx rfl (hb hby d5_0) rfl rfl ?_
    refine st2 _ ?_
    refine XS.aloadN X2.here hx rfl (hb hby d5_4) rfl rfl ?_
    refine st3 _ ?_
    refine XS.icmpNo X3.here hx rfl (hb hby d5_8) rfl (tlt ((by decide : (2 : Int32) < (4 : Int32)) : (2 : Int32) < (4 : Int32))).2.1 ?_
    refine X3.ldcFloatC hx hown (mvT hZ (w_36 hw)) (g := (mkF m 11 #[.val (.ref a1)] [])) rfl (hb hby d5_11) _ ?_
    refine XS.goto X3.here hx rfl (pc0 := 13) (pc' := 22) rfl (hb hby d5_13) (by decide) (by decide) ?_
    exact retOut X3 hx hret rfl (Or.inr (Or.inr (Or.inr (Or.inl ⟨rfl, rfl, _, rfl⟩)))) (hb hby d5_22) hr
theorem ef_082223 (f1 : UInt32) (f2 : UInt32) (f3 : UInt32) (m : MethodId) : entryFrame m #[(.int 4), (.int 2), (.float f1), (.float f2), (.float f3)] 5 = mkF m 0 #[.val (.int 4), .val (.int 2), .val (.float f1), .val (.float f2), .val (.float f3)] [] := by first | (simp [entryFrame, mkF, argsToLocals, Value.category]; done) | rfl
-- com/example/senret/senret/TopSentencesLowestAdmittedPinLaw.expected(IIFFF)F
abbrev Rm89 : Room := { frames := 0, cells := 0, slots := 0, locals := 0 }
def Q89 (Z : State) (f1 : UInt32) (f2 : UInt32) (f3 : UInt32) (h0 : Heap) (n0 : Nat) (v : Option Value) (h : Heap) (L : List Loc) : Prop := v = some (.float 4286578688) ∧ Fr n0 L ∧ h = h0
-- ef_082223
theorem rm89 (l : Launch) (Z : State) (a0 : Array Value) (hw : HW a0 Z) (ws : List Jvm.Cond) (f1 : UInt32) (f2 : UInt32) (f3 : UInt32) (h0 : Heap) (n0 : Nat) (Z0 : n0 ≤ h0.size) :
    OwnMet l Z y_8 method_3_code 5 (some .float) ws Rm89 #[(.int 4), (.int 2), (.float f1), (.float f2), (.float f3)] h0 (Q89 Z f1 f2 f3 h0 n0) := by
  refine own_body (plainFor_of_name pn_2) (ef_082223 f1 f2 f3) ?_
  intro p e s m below meth c s₁ hx hby hml hown hnm hret hZ X0 e0
  have N0 := Fr.nil n0
  refine ⟨s₁, _, _, _, (some (.float 4286578688)), X0, nofun, by decide, by decide, ?_, fun fs hr => ?_⟩
  · rw [e0]
    exact ⟨rfl, N0, rfl⟩
  · refine XS.iloadN X0.here hx rfl (hb hby d10_0) rfl ?_
    refine XS.iloadN X0.here hx rfl (hb hby d10_1) rfl ?_
    refine XS.icmpNo X0.here hx rfl (hb hby d10_2) rfl (tlt ((by decide : (2 : Int32) < (4 : Int32)) : (2 : Int32) < (4 : Int32))).2.1 ?_
    refine X0.ldcFloatC hx hown (mvT hZ (w_37 hw)) (g := (mkF m 5 #[.val (.int 4), .val (.int 2), .val (.float f1), .val (.float f2), .val (.float f3)] [])) rfl (hb hby d10_5) _ ?_
    exact retOut X0 hx hret rfl (Or.inr (Or.inr (Or.inr (Or.inl ⟨rfl, rfl, _, rfl⟩)))) (hb hby d10_7) hr
-- com/example/senret/senret/TopSentences.grow()V
abbrev Rm90 : Room := { frames := 0, cells := 0, slots := 0, locals := 0 }
def Q90 (Z : State) (a1 : Addr) (a3 : Addr) (q5 : Int64) (q6 : Int64) (k7 : ClassId) (h0 : Heap) (n0 : Nat) (v : Option Value) (h : Heap) (L : List Loc) : Prop := v = none ∧ Fr n0 L ∧ h = h0
-- ef_692380
theorem rm90 (l : Launch) (Z : State) (a0 : Array Value) (hw : HW a0 Z) (ws : List Jvm.Cond) (a1 : Addr) (a3 : Addr) (q5 : Int64) (q6 : Int64) (k7 : ClassId) (h0 : Heap) (n0 : Nat) (Z0 : n0 ≤ h0.size) (F_size_a1 : Fld Z h0 a1 kT "size" "I" (.int 2)) (F_scores_a1 : Fld Z h0 a1 kT "scores" "[J" (.ref a3)) (V_a3 : Arv Z h0 a3 k7 .long (4 : Int32) [(.long q5), (.long q6), (.long 0), (.long 0)] (.long 0)) :
    OwnMet l Z y_4 prog_25_method_7_code 2 none ws Rm90 #[(.ref a1)] h0 (Q90 Z a1 a3 q5 q6 k7 h0 n0) := by
  refine own_body (plainFor_of_name pn_1) (ef_692380 a1) ?_
  intro p e s m below meth c s₁ hx hby hml hown hnm hret hZ X0 e0
  have N0 := Fr.nil n0
  obtain ⟨T2, X2, e2, st2⟩ := getF X0 hx hZ hown (host := "") (Or.inl (w_34 hw)) Via.refl e0 F_size_a1 (g := (mkF m 1 #[.val (.ref a1), .unset] [(.ref a1)])) rfl rfl (hb hby d7_1)
  obtain ⟨T4, X4, e4, st4⟩ := getF X2 hx hZ hown (host := "") (Or.inl (w_24 hw)) Via.refl e2 F_scores_a1 (g := (mkF m 5 #[.val (.ref a1), .unset] [(.ref a1), (.int 2)])) rfl rfl (hb hby d7_5)
  obtain ⟨cl8, Ar8, q8, S8, M8, Hs8, G8⟩ := id V_a3
  refine ⟨T4, _, _, _, none, X4, (fun _ => rfl), by decide, by decide, ?_, fun fs hr => ?_⟩
  · rw [e4]
    exact ⟨rfl, N0, rfl⟩
  · refine XS.aloadN X0.here hx rfl (hb hby d7_0) rfl rfl ?_
    refine st2 _ ?_
    refine XS.aloadN X2.here hx rfl (hb hby d7_4) rfl rfl ?_
    refine st4 _ ?_
    refine X4.arraylength hx (by rw [e4]; exact Ar8.1) (State.isArrayOf_alike hZ.alike Ar8.2.1) (g := (mkF m 8 #[.val (.ref a1), .unset] [(.ref a3), (.int 2)])) rfl rfl (hb hby d7_8) _ ?_
    show Steps p.tables e below (T4.setTop (mkF m 9 #[.val (.ref a1), .unset] [(.int cl8.slots.size.toInt32), (.int 2)])) _
    rw [len_of S8 M8]
    refine XS.icmpYes X4.here hx rfl (pc0 := 9) (pc' := 68) rfl (hb hby d7_9) rfl (feq ((by decide : ¬ ((2 : Int32) = (4 : Int32))) : ¬ ((2 : Int32) = (4 : Int32)))).2 (by decide) (by decide) ?_
    exact X4.returnOut hx hret (hb hby d7_68) hr
-- com/example/senret/senret/TopSentences.put(IFJI)V
abbrev Rm91 : Room := { frames := 0, cells := 0, slots := 0, locals := 0 }
def Q91 (Z : State) (a1 : Addr) (f2 : UInt32) (q3 : Int64) (p4 : Int32) (a5 : Addr) (f7 : UInt32) (f8 : UInt32) (k9 : ClassId) (a13 : Addr) (q16 : Int64) (q17 : Int64) (k18 : ClassId) (a23 : Addr) (p26 : Int32) (p27 : Int32) (k28 : ClassId) (h0 : Heap) (n0 : Nat) (v : Option Value) (h : Heap) (L : List Loc) : Prop := v = none ∧ Fr n0 L ∧ Keep h0 h [a5, a13, a23] ∧ Exa Z h a5 "[F" ∧ Arv Z h a5 k9 .float (4 : Int32) [(.float f7), (.float f8), (.float f2), (.float 0)] (.float 0) ∧ Exa Z h a13 "[J" ∧ Arv Z h a13 k18 .long (4 : Int32) [(.long q16), (.long q17), (.long q3), (.long 0)] (.long 0) ∧ Exa Z h a23 "[I" ∧ Arv Z h a23 k28 .int (4 : Int32) [(.int p26), (.int p27), (.int p4), (.int 0)] (.int 0)
-- ef_6cef1c
theorem rm91 (l : Launch) (Z : State) (a0 : Array Value) (hw : HW a0 Z) (ws : List Jvm.Cond) (a1 : Addr) (f2 : UInt32) (q3 : Int64) (p4 : Int32) (a5 : Addr) (f7 : UInt32) (f8 : UInt32) (k9 : ClassId) (a13 : Addr) (q16 : Int64) (q17 : Int64) (k18 : ClassId) (a23 : Addr) (p26 : Int32) (p27 : Int32) (k28 : ClassId) (h0 : Heap) (n0 : Nat) (Z0 : n0 ≤ h0.size) (F_scoresAsRead_a1 : Fld Z h0 a1 kT "scoresAsRead" "[F" (.ref a5)) (V_a5 : Arv Z h0 a5 k9 .float (4 : Int32) [(.float f7), (.float f8), (.float 0), (.float 0)] (.float 0)) (g_a5 : n0 ≤ a5) (F_scores_a1 : Fld Z h0 a1 kT "scores" "[J" (.ref a13)) (ne_a1_a5 : a1 ≠ a5) (V_a13 : Arv Z h0 a13 k18 .long (4 : Int32) [(.long q16), (.long q17), (.long 0), (.long 0)] (.long 0)) (ne_a13_a5 : a13 ≠ a5) (g_a13 : n0 ≤ a13) (F_ordinals_a1 : Fld Z h0 a1 kT "ordinals" "[I" (.ref a23)) (ne_a1_a13 : a1 ≠ a13) (V_a23 : Arv Z h0 a23 k28 .int (4 : Int32) [(.int p26), (.int p27), (.int 0), (.int 0)] (.int 0)) (ne_a23_a5 : a23 ≠ a5) (ne_a23_a13 : a23 ≠ a13) (g_a23 : n0 ≤ a23) (E_a5 : Exa Z h0 a5 "[F") (E_a13 : Exa Z h0 a13 "[J") (E_a23 : Exa Z h0 a23 "[I") :
    OwnMet l Z y_5 prog_25_method_11_code 6 none ws Rm91 #[(.ref a1), (.int 2), (.float f2), (.long q3), (.int p4)] h0 (Q91 Z a1 f2 q3 p4 a5 f7 f8 k9 a13 q16 q17 k18 a23 p26 p27 k28 h0 n0) := by
  refine own_body (plainFor_of_name pn_1) (ef_6cef1c a1 f2 q3 p4) ?_
  intro p e s m below meth c s₁ hx hby hml hown hnm hret hZ X0 e0
  have N0 := Fr.nil n0
  obtain ⟨T6, X6, e6, st6⟩ := getF X0 hx hZ hown (host := "") (Or.inl (w_21 hw)) Via.refl e0 F_scoresAsRead_a1 (g := (mkF m 1 #[.val (.ref a1), .val (.int 2), .val (.float f2), .val (.long q3), .second, .val (.int p4)] [(.ref a1)])) rfl rfl (hb hby d9_1)
  obtain ⟨cl10, Ar10, q10, S10, M10, Hs10, G10⟩ := id V_a5
  have hin11 : ¬ ((2 : Int32) < 0 ∨ cl10.slots.size ≤ ((2 : Int32)).toNatClampNeg) := inb_of S10 ⟨(by decide : ¬ ((2 : Int32) < (0 : Int32))), (by decide : (2 : Int32) < (4 : Int32))⟩
  obtain ⟨T12, h12, X12, e12, W12, st12⟩ := stF X6 hx hZ e6 Ar10 (j := (2 : Int32)) hin11 (g := (mkF m 6 #[.val (.ref a1), .val (.int 2), .val (.float f2), .val (.long q3), .second, .val (.int p4)] [(.float f2), (.int 2), (.ref a5)])) rfl rfl (hb hby d9_6)
  have s0 := (Keep.of_wr W12).1
  have N12 := Fr.snoc X12 N0 g_a5
  have Vs12 : Arv Z h12 a5 k9 .float (4 : Int32) [(.float f7), (.float f8), (.float f2), (.float 0)] (.float 0) := Arv.set Ar10 q10 S10 M10 Hs10 G10 rfl W12 2 rfl (Nat.le_of_ble_eq_true rfl)
  have Fl14 := (F_scores_a1.other W12 (Or.inl ne_a1_a5))
  obtain ⟨T15, X15, e15, st15⟩ := getF X12 hx hZ hown (host := "") (Or.inl (w_24 hw)) Via.refl e12 Fl14 (g := (mkF m 8 #[.val (.ref a1), .val (.int 2), .val (.float f2), .val (.long q3), .second, .val (.int p4)] [(.ref a1)])) rfl rfl (hb hby d9_8)
  have Va19 := (V_a13.other W12 ne_a13_a5)
  obtain ⟨cl20, Ar20, q20, S20, M20, Hs20, G20⟩ := id Va19
  have hin21 : ¬ ((2 : Int32) < 0 ∨ cl20.slots.size ≤ ((2 : Int32)).toNatClampNeg) := inb_of S20 ⟨(by decide : ¬ ((2 : Int32) < (0 : Int32))), (by decide : (2 : Int32) < (4 : Int32))⟩
  obtain ⟨T22, h22, X22, e22, W22, st22⟩ := stJ X15 hx hZ e15 Ar20 (j := (2 : Int32)) hin21 (g := (mkF m 13 #[.val (.ref a1), .val (.int 2), .val (.float f2), .val (.long q3), .second, .val (.int p4)] [(.long q3), (.int 2), (.ref a13)])) rfl rfl (hb hby d9_13)
  have s1 := (Keep.of_wr W22).1
  have N22 := Fr.snoc X22 N12 g_a13
  have Vs22 : Arv Z h22 a13 k18 .long (4 : Int32) [(.long q16), (.long q17), (.long q3), (.long 0)] (.long 0) := Arv.set Ar20 q20 S20 M20 Hs20 G20 rfl W22 2 rfl (Nat.le_of_ble_eq_true rfl)
  have Fl24 := ((F_ordinals_a1.other W12 (Or.inl ne_a1_a5)).other W22 (Or.inl ne_a1_a13))
  obtain ⟨T25, X25, e25, st25⟩ := getF X22 hx hZ hown (host := "") (Or.inl (w_27 hw)) Via.refl e22 Fl24 (g := (mkF m 15 #[.val (.ref a1), .val (.int 2), .val (.float f2), .val (.long q3), .second, .val (.int p4)] [(.ref a1)])) rfl rfl (hb hby d9_15)
  have Va29 := ((V_a23.other W12 ne_a23_a5).other W22 ne_a23_a13)
  obtain ⟨cl30, Ar30, q30, S30, M30, Hs30, G30⟩ := id Va29
  have hin31 : ¬ ((2 : Int32) < 0 ∨ cl30.slots.size ≤ ((2 : Int32)).toNatClampNeg) := inb_of S30 ⟨(by decide : ¬ ((2 : Int32) < (0 : Int32))), (by decide : (2 : Int32) < (4 : Int32))⟩
  obtain ⟨T32, h32, X32, e32, W32, st32⟩ := stI X25 hx hZ e25 Ar30 (j := (2 : Int32)) hin31 (g := (mkF m 21 #[.val (.ref a1), .val (.int 2), .val (.float f2), .val (.long q3), .second, .val (.int p4)] [(.int p4), (.int 2), (.ref a23)])) rfl rfl (hb hby d9_21)
  have s2 := (Keep.of_wr W32).1
  have N32 := Fr.snoc X32 N22 g_a23
  have Vs32 : Arv Z h32 a23 k28 .int (4 : Int32) [(.int p26), (.int p27), (.int p4), (.int 0)] (.int 0) := Arv.set Ar30 q30 S30 M30 Hs30 G30 rfl W32 2 rfl (Nat.le_of_ble_eq_true rfl)
  have Ex33 := (((E_a5.wr W12).wr W22).wr W32)
  have Va34 := ((Vs12.other W22 (Ne.symm ne_a13_a5)).other W32 (Ne.symm ne_a23_a5))
  have Ex35 := (((E_a13.wr W12).wr W22).wr W32)
  have Va36 := (Vs22.other W32 (Ne.symm ne_a23_a13))
  have Ex37 := (((E_a23.wr W12).wr W22).wr W32)
  have Kp0 : Keep h0 h12 [a5, a13, a23] := (Keep.refl h0 [a5, a13, a23]).wr W12 (Or.inl (List.mem_of_getElem? (i := 0) rfl))
  have Kp1 : Keep h0 h22 [a5, a13, a23] := Kp0.wr W22 (Or.inl (List.mem_of_getElem? (i := 1) rfl))
  have Kp2 : Keep h0 h32 [a5, a13, a23] := Kp1.wr W32 (Or.inl (List.mem_of_getElem? (i := 2) rfl))
  refine ⟨T32, _, _, _, none, X32, (fun _ => rfl), by decide, by decide, ?_, fun fs hr => ?_⟩
  · rw [e32]
    exact ⟨rfl, N32, Kp2, Ex33, Va34, Ex35, Va36, Ex37, Vs32⟩
  · refine XS.aloadN X0.here hx rfl (hb hby d9_0) rfl rfl ?_
    refine st6 _ ?_
    refine XS.iloadN X6.here hx rfl (hb hby d9_4) rfl ?_
    refine XS.floadN X6.here hx rfl (hb hby d9_5) rfl ?_
    refine st12 _ ?_
    refine XS.aloadN X12.here hx rfl (hb hby d9_7) rfl rfl ?_
    refine st15 _ ?_
    refine XS.iloadN X15.here hx rfl (hb hby d9_11) rfl ?_
    refine XS.lloadN X15.here hx rfl (hb hby d9_12) rfl ?_
    refine st22 _ ?_
    refine XS.aloadN X22.here hx rfl (hb hby d9_14) rfl rfl ?_
    refine st25 _ ?_
    refine XS.iloadN X25.here hx rfl (hb hby d9_18) rfl ?_
    refine XS.iload X25.here hx rfl (hb hby d9_19) rfl ?_
    refine st32 _ ?_
    exact X32.returnOut hx hret (hb hby d9_22) hr
-- com/example/senret/senret/TopSentences.put(IFJI)V
abbrev Rm92 : Room := { frames := 0, cells := 0, slots := 0, locals := 0 }
def Q92 (Z : State) (a1 : Addr) (f2 : UInt32) (q3 : Int64) (p4 : Int32) (a5 : Addr) (f7 : UInt32) (k8 : ClassId) (a12 : Addr) (q15 : Int64) (k16 : ClassId) (a21 : Addr) (p24 : Int32) (k25 : ClassId) (h0 : Heap) (n0 : Nat) (v : Option Value) (h : Heap) (L : List Loc) : Prop := v = none ∧ Fr n0 L ∧ Keep h0 h [a5, a12, a21] ∧ Exa Z h a5 "[F" ∧ Arv Z h a5 k8 .float (4 : Int32) [(.float f2), (.float f7), (.float f2), (.float 0)] (.float 0) ∧ Exa Z h a12 "[J" ∧ Arv Z h a12 k16 .long (4 : Int32) [(.long q3), (.long q15), (.long q3), (.long 0)] (.long 0) ∧ Exa Z h a21 "[I" ∧ Arv Z h a21 k25 .int (4 : Int32) [(.int p4), (.int p24), (.int p4), (.int 0)] (.int 0)
-- ef_6cef1c
theorem rm92 (l : Launch) (Z : State) (a0 : Array Value) (hw : HW a0 Z) (ws : List Jvm.Cond) (a1 : Addr) (f2 : UInt32) (q3 : Int64) (p4 : Int32) (a5 : Addr) (f7 : UInt32) (k8 : ClassId) (a12 : Addr) (q15 : Int64) (k16 : ClassId) (a21 : Addr) (p24 : Int32) (k25 : ClassId) (h0 : Heap) (n0 : Nat) (Z0 : n0 ≤ h0.size) (F_scoresAsRead_a1 : Fld Z h0 a1 kT "scoresAsRead" "[F" (.ref a5)) (V_a5 : Arv Z h0 a5 k8 .float (4 : Int32) [(.float f2), (.float f7), (.float 0), (.float 0)] (.float 0)) (g_a5 : n0 ≤ a5) (F_scores_a1 : Fld Z h0 a1 kT "scores" "[J" (.ref a12)) (ne_a1_a5 : a1 ≠ a5) (V_a12 : Arv Z h0 a12 k16 .long (4 : Int32) [(.long q3), (.long q15), (.long 0), (.long 0)] (.long 0)) (ne_a12_a5 : a12 ≠ a5) (g_a12 : n0 ≤ a12) (F_ordinals_a1 : Fld Z h0 a1 kT "ordinals" "[I" (.ref a21)) (ne_a1_a12 : a1 ≠ a12) (V_a21 : Arv Z h0 a21 k25 .int (4 : Int32) [(.int p4), (.int p24), (.int 0), (.int 0)] (.int 0)) (ne_a21_a5 : a21 ≠ a5) (ne_a21_a12 : a21 ≠ a12) (g_a21 : n0 ≤ a21) (E_a5 : Exa Z h0 a5 "[F") (E_a12 : Exa Z h0 a12 "[J") (E_a21 : Exa Z h0 a21 "[I") :
    OwnMet l Z y_5 prog_25_method_11_code 6 none ws Rm92 #[(.ref a1), (.int 2), (.float f2), (.long q3), (.int p4)] h0 (Q92 Z a1 f2 q3 p4 a5 f7 k8 a12 q15 k16 a21 p24 k25 h0 n0) := by
  refine own_body (plainFor_of_name pn_1) (ef_6cef1c a1 f2 q3 p4) ?_
  intro p e s m below meth c s₁ hx hby hml hown hnm hret hZ X0 e0
  have N0 := Fr.nil n0
  obtain ⟨T6, X6, e6, st6⟩ := getF X0 hx hZ hown (host := "") (Or.inl (w_21 hw)) Via.refl e0 F_scoresAsRead_a1 (g := (mkF m 1 #[.val (.ref a1), .val (.int 2), .val (.float f2), .val (.long q3), .second, .val (.int p4)] [(.ref a1)])) rfl rfl (hb hby d9_1)
  obtain ⟨cl9, Ar9, q9, S9, M9, Hs9, G9⟩ := id V_a5
  have hin10 : ¬ ((2 : Int32) < 0 ∨ cl9.slots.size ≤ ((2 : Int32)).toNatClampNeg) := inb_of S9 ⟨(by decide : ¬ ((2 : Int32) < (0 : Int32))), (by decide : (2 : Int32) < (4 : Int32))⟩
  obtain ⟨T11, h11, X11, e11, W11, st11⟩ := stF X6 hx hZ e6 Ar9 (j := (2 : Int32)) hin10 (g := (mkF m 6 #[.val (.ref a1), .val (.int 2), .val (.float f2), .val (.long q3), .second, .val (.int p4)] [(.float f2), (.int 2), (.ref a5)])) rfl rfl (hb hby d9_6)
  have s0 := (Keep.of_wr W11).1
  have N11 := Fr.snoc X11 N0 g_a5
  have Vs11 : Arv Z h11 a5 k8 .float (4 : Int32) [(.float f2), (.float f7), (.float f2), (.float 0)] (.float 0) := Arv.set Ar9 q9 S9 M9 Hs9 G9 rfl W11 2 rfl (Nat.le_of_ble_eq_true rfl)
  have Fl13 := (F_scores_a1.other W11 (Or.inl ne_a1_a5))
  obtain ⟨T14, X14, e14, st14⟩ := getF X11 hx hZ hown (host := "") (Or.inl (w_24 hw)) Via.refl e11 Fl13 (g := (mkF m 8 #[.val (.ref a1), .val (.int 2), .val (.float f2), .val (.long q3), .second, .val (.int p4)] [(.ref a1)])) rfl rfl (hb hby d9_8)
  have Va17 := (V_a12.other W11 ne_a12_a5)
  obtain ⟨cl18, Ar18, q18, S18, M18, Hs18, G18⟩ := id Va17
  have hin19 : ¬ ((2 : Int32) < 0 ∨ cl18.slots.size ≤ ((2 : Int32)).toNatClampNeg) := inb_of S18 ⟨(by decide : ¬ ((2 : Int32) < (0 : Int32))), (by decide : (2 : Int32) < (4 : Int32))⟩
  obtain ⟨T20, h20, X20, e20, W20, st20⟩ := stJ X14 hx hZ e14 Ar18 (j := (2 : Int32)) hin19 (g := (mkF m 13 #[.val (.ref a1), .val (.int 2), .val (.float f2), .val (.long q3), .second, .val (.int p4)] [(.long q3), (.int 2), (.ref a12)])) rfl rfl (hb hby d9_13)
  have s1 := (Keep.of_wr W20).1
  have N20 := Fr.snoc X20 N11 g_a12
  have Vs20 : Arv Z h20 a12 k16 .long (4 : Int32) [(.long q3), (.long q15), (.long q3), (.long 0)] (.long 0) := Arv.set Ar18 q18 S18 M18 Hs18 G18 rfl W20 2 rfl (Nat.le_of_ble_eq_true rfl)
  have Fl22 := ((F_ordinals_a1.other W11 (Or.inl ne_a1_a5)).other W20 (Or.inl ne_a1_a12))
  obtain ⟨T23, X23, e23, st23⟩ := getF X20 hx hZ hown (host := "") (Or.inl (w_27 hw)) Via.refl e20 Fl22 (g := (mkF m 15 #[.val (.ref a1), .val (.int 2), .val (.float f2), .val (.long q3), .second, .val (.int p4)] [(.ref a1)])) rfl rfl (hb hby d9_15)
  have Va26 := ((V_a21.other W11 ne_a21_a5).other W20 ne_a21_a12)
  obtain ⟨cl27, Ar27, q27, S27, M27, Hs27, G27⟩ := id Va26
  have hin28 : ¬ ((2 : Int32) < 0 ∨ cl27.slots.size ≤ ((2 : Int32)).toNatClampNeg) := inb_of S27 ⟨(by decide : ¬ ((2 : Int32) < (0 : Int32))), (by decide : (2 : Int32) < (4 : Int32))⟩
  obtain ⟨T29, h29, X29, e29, W29, st29⟩ := stI X23 hx hZ e23 Ar27 (j := (2 : Int32)) hin28 (g := (mkF m 21 #[.val (.ref a1), .val (.int 2), .val (.float f2), .val (.long q3), .second, .val (.int p4)] [(.int p4), (.int 2), (.ref a21)])) rfl rfl (hb hby d9_21)
  have s2 := (Keep.of_wr W29).1
  have N29 := Fr.snoc X29 N20 g_a21
  have Vs29 : Arv Z h29 a21 k25 .int (4 : Int32) [(.int p4), (.int p24), (.int p4), (.int 0)] (.int 0) := Arv.set Ar27 q27 S27 M27 Hs27 G27 rfl W29 2 rfl (Nat.le_of_ble_eq_true rfl)
  have Ex30 := (((E_a5.wr W11).wr W20).wr W29)
  have Va31 := ((Vs11.other W20 (Ne.symm ne_a12_a5)).other W29 (Ne.symm ne_a21_a5))
  have Ex32 := (((E_a12.wr W11).wr W20).wr W29)
  have Va33 := (Vs20.other W29 (Ne.symm ne_a21_a12))
  have Ex34 := (((E_a21.wr W11).wr W20).wr W29)
  have Kp0 : Keep h0 h11 [a5, a12, a21] := (Keep.refl h0 [a5, a12, a21]).wr W11 (Or.inl (List.mem_of_getElem? (i := 0) rfl))
  have Kp1 : Keep h0 h20 [a5, a12, a21] := Kp0.wr W20 (Or.inl (List.mem_of_getElem? (i := 1) rfl))
  have Kp2 : Keep h0 h29 [a5, a12, a21] := Kp1.wr W29 (Or.inl (List.mem_of_getElem? (i := 2) rfl))
  refine ⟨T29, _, _, _, none, X29, (fun _ => rfl), by decide, by decide, ?_, fun fs hr => ?_⟩
  · rw [e29]
    exact ⟨rfl, N29, Kp2, Ex30, Va31, Ex32, Va33, Ex34, Vs29⟩
  · refine XS.aloadN X0.here hx rfl (hb hby d9_0) rfl rfl ?_
    refine st6 _ ?_
    refine XS.iloadN X6.here hx rfl (hb hby d9_4) rfl ?_
    refine XS.floadN X6.here hx rfl (hb hby d9_5) rfl ?_
    refine st11 _ ?_
    refine XS.aloadN X11.here hx rfl (hb hby d9_7) rfl rfl ?_
    refine st14 _ ?_
    refine XS.iloadN X14.here hx rfl (hb hby d9_11) rfl ?_
    refine XS.lloadN X14.here hx rfl (hb hby d9_12) rfl ?_
    refine st20 _ ?_
    refine XS.aloadN X20.here hx rfl (hb hby d9_14) rfl rfl ?_
    refine st23 _ ?_
    refine XS.iloadN X23.here hx rfl (hb hby d9_18) rfl ?_
    refine XS.iload X23.here hx rfl (hb hby d9_19) rfl ?_
    refine st29 _ ?_
    exact X29.returnOut hx hret (hb hby d9_22) hr
-- com/example/senret/senret/TopSentences.move(II)V
abbrev Rm93 : Room := { frames := 1, cells := 0, slots := 0, locals := 17 }
def Q93 (Z : State) (a1 : Addr) (a2 : Addr) (f4 : UInt32) (f5 : UInt32) (k6 : ClassId) (a9 : Addr) (q11 : Int64) (q12 : Int64) (k13 : ClassId) (a16 : Addr) (p18 : Int32) (p19 : Int32) (k20 : ClassId) (h0 : Heap) (n0 : Nat) (v : Option Value) (h : Heap) (L : List Loc) : Prop := v = none ∧ Fr n0 L ∧ Keep h0 h [a2, a9, a16] ∧ Exa Z h a2 "[F" ∧ Arv Z h a2 k6 .float (4 : Int32) [(.float f4), (.float f5), (.float f4), (.float 0)] (.float 0) ∧ Exa Z h a9 "[J" ∧ Arv Z h a9 k13 .long (4 : Int32) [(.long q11), (.long q12), (.long q11), (.long 0)] (.long 0) ∧ Exa Z h a16 "[I" ∧ Arv Z h a16 k20 .int (4 : Int32) [(.int p18), (.int p19), (.int p18), (.int 0)] (.int 0)
-- ef_29dcea
theorem rm93 (l : Launch) (Z : State) (a0 : Array Value) (hw : HW a0 Z) (ws : List Jvm.Cond) (a1 : Addr) (a2 : Addr) (f4 : UInt32) (f5 : UInt32) (k6 : ClassId) (a9 : Addr) (q11 : Int64) (q12 : Int64) (k13 : ClassId) (a16 : Addr) (p18 : Int32) (p19 : Int32) (k20 : ClassId) (h0 : Heap) (n0 : Nat) (Z0 : n0 ≤ h0.size) (F_scoresAsRead_a1 : Fld Z h0 a1 kT "scoresAsRead" "[F" (.ref a2)) (V_a2 : Arv Z h0 a2 k6 .float (4 : Int32) [(.float f4), (.float f5), (.float 0), (.float 0)] (.float 0)) (F_scores_a1 : Fld Z h0 a1 kT "scores" "[J" (.ref a9)) (V_a9 : Arv Z h0 a9 k13 .long (4 : Int32) [(.long q11), (.long q12), (.long 0), (.long 0)] (.long 0)) (F_ordinals_a1 : Fld Z h0 a1 kT "ordinals" "[I" (.ref a16)) (V_a16 : Arv Z h0 a16 k20 .int (4 : Int32) [(.int p18), (.int p19), (.int 0), (.int 0)] (.int 0)) (g_a2 : n0 ≤ a2) (ne_a1_a2 : a1 ≠ a2) (ne_a9_a2 : a9 ≠ a2) (g_a9 : n0 ≤ a9) (ne_a1_a9 : a1 ≠ a9) (ne_a16_a2 : a16 ≠ a2) (ne_a16_a9 : a16 ≠ a9) (g_a16 : n0 ≤ a16) (E_a2 : Exa Z h0 a2 "[F") (E_a9 : Exa Z h0 a9 "[J") (E_a16 : Exa Z h0 a16 "[I") (E_a1 : Exa Z h0 a1 kT) :
    OwnMet l Z y_12 prog_25_method_10_code 3 none ws Rm93 #[(.ref a1), (.int 0), (.int 2)] h0 (Q93 Z a1 a2 f4 f5 k6 a9 q11 q12 k13 a16 p18 p19 k20 h0 n0) := by
  refine own_body (plainFor_of_name pn_1) (ef_29dcea a1) ?_
  intro p e s m below meth c s₁ hx hby hml hown hnm hret hZ X0 e0
  have N0 := Fr.nil n0
  obtain ⟨T3, X3, e3, st3⟩ := getF X0 hx hZ hown (host := "") (Or.inl (w_21 hw)) Via.refl e0 F_scoresAsRead_a1 (g := (mkF m 3 #[.val (.ref a1), .val (.int 0), .val (.int 2)] [(.ref a1), (.int 2), (.ref a1)])) rfl rfl (hb hby d13_3)
  obtain ⟨cl7, Ar7, q7, S7, M7, Hs7, G7⟩ := id V_a2
  have hin8 : ¬ ((0 : Int32) < 0 ∨ cl7.slots.size ≤ ((0 : Int32)).toNatClampNeg) := inb_of S7 ⟨(by decide : ¬ ((0 : Int32) < (0 : Int32))), (by decide : (0 : Int32) < (4 : Int32))⟩
  obtain ⟨T10, X10, e10, st10⟩ := getF X3 hx hZ hown (host := "") (Or.inl (w_24 hw)) Via.refl e3 F_scores_a1 (g := (mkF m 9 #[.val (.ref a1), .val (.int 0), .val (.int 2)] [(.ref a1), (.float f4), (.int 2), (.ref a1)])) rfl rfl (hb hby d13_9)
  obtain ⟨cl14, Ar14, q14, S14, M14, Hs14, G14⟩ := id V_a9
  have hin15 : ¬ ((0 : Int32) < 0 ∨ cl14.slots.size ≤ ((0 : Int32)).toNatClampNeg) := inb_of S14 ⟨(by decide : ¬ ((0 : Int32) < (0 : Int32))), (by decide : (0 : Int32) < (4 : Int32))⟩
  obtain ⟨T17, X17, e17, st17⟩ := getF X10 hx hZ hown (host := "") (Or.inl (w_27 hw)) Via.refl e10 F_ordinals_a1 (g := (mkF m 15 #[.val (.ref a1), .val (.int 0), .val (.int 2)] [(.ref a1), (.long q11), (.float f4), (.int 2), (.ref a1)])) rfl rfl (hb hby d13_15)
  obtain ⟨cl21, Ar21, q21, S21, M21, Hs21, G21⟩ := id V_a16
  have hin22 : ¬ ((0 : Int32) < 0 ∨ cl21.slots.size ≤ ((0 : Int32)).toNatClampNeg) := inb_of S21 ⟨(by decide : ¬ ((0 : Int32) < (0 : Int32))), (by decide : (0 : Int32) < (4 : Int32))⟩
  obtain ⟨_, T23, L23, X23, hQ23, st23⟩ := own_private X17 hx hZ hown (y := y_5) E_a1 (w_52 hw) (w_53 hw) (Jvm.Kit.selects_private (by decide) (mvT hZ (w_6 hw)) (mvP hZ (w_54 hw)) (mvT hZ (w_53 hw))) (w_54 hw) (w_7 hw) (w_55 hw) (rm92 l Z a0 hw [] a1 f4 q11 p18 a2 f5 k6 a9 q12 k13 a16 p19 k20 h0 n0 Z0 F_scoresAsRead_a1 V_a2 g_a2 F_scores_a1 ne_a1_a2 V_a9 ne_a9_a2 g_a9 F_ordinals_a1 ne_a1_a9 V_a16 ne_a16_a2 ne_a16_a9 g_a16 E_a2 E_a9 E_a16) e17 (Ls := #[.val (.ref a1), .val (.int 0), .val (.int 2)]) (by rw [hml]; rfl) (argsL := [(.int 2), (.float f4), (.long q11), (.int p18)]) (rest := []) (lenOf pd_5 rfl) (hb hby d13_20) (W := 0)
  obtain ⟨rfl, Nq23, K23, o23_0, o23_1, o23_2, o23_3, o23_4, o23_5⟩ := hQ23
  have N23 := Fr.app N0 Nq23
  have s0 := K23.1
  have Kp0 : Keep h0 T23.heap [a2, a9, a16] := (Keep.refl h0 [a2, a9, a16]).trans K23 (allS (Or.inl (List.mem_of_getElem? (i := 0) rfl)) (allS (Or.inl (List.mem_of_getElem? (i := 1) rfl)) (allS (Or.inl (List.mem_of_getElem? (i := 2) rfl)) all0)))
  refine ⟨T23, _, _, _, none, X23, (fun _ => rfl), by decide, by decide, ?_, fun fs hr => ?_⟩
  · exact ⟨rfl, N23, Kp0, o23_0, o23_1, o23_2, o23_3, o23_4, o23_5⟩
  · refine XS.aloadN X0.here hx rfl (hb hby d13_0) rfl rfl ?_
    refine XS.iloadN X0.here hx rfl (hb hby d13_1) rfl ?_
    refine XS.aloadN X0.here hx rfl (hb hby d13_2) rfl rfl ?_
    refine st3 _ ?_
    refine XS.iloadN X3.here hx rfl (hb hby d13_6) rfl ?_
    refine X3.faload hx (j := (0 : Int32)) (v := (.float f4)) (by rw [e3]; exact Ar7.1) (State.isArrayOf_alike hZ.alike Ar7.2.1) Ar7.2.2 hin8 (Has.at Hs7 hin8 rfl) (g := (mkF m 7 #[.val (.ref a1), .val (.int 0), .val (.int 2)] [(.int 0), (.ref a2), (.int 2), (.ref a1)])) rfl rfl (hb hby d13_7) _ ?_
    refine XS.aloadN X3.here hx rfl (hb hby d13_8) rfl rfl ?_
    refine st10 _ ?_
    refine XS.iloadN X10.here hx rfl (hb hby d13_12) rfl ?_
    refine X10.laload hx (j := (0 : Int32)) (v := (.long q11)) (by rw [e10]; exact Ar14.1) (State.isArrayOf_alike hZ.alike Ar14.2.1) Ar14.2.2 hin15 (Has.at Hs14 hin15 rfl) (g := (mkF m 13 #[.val (.ref a1), .val (.int 0), .val (.int 2)] [(.int 0), (.ref a9), (.float f4), (.int 2), (.ref a1)])) rfl rfl (hb hby d13_13) _ ?_
    refine XS.aloadN X10.here hx rfl (hb hby d13_14) rfl rfl ?_
    refine st17 _ ?_
    refine XS.iloadN X17.here hx rfl (hb hby d13_18) rfl ?_
    refine X17.iaload hx (j := (0 : Int32)) (v := (.int p18)) (by rw [e17]; exact Ar21.1) (State.isArrayOf_alike hZ.alike Ar21.2.1) Ar21.2.2 hin22 (Has.at Hs21 hin22 rfl) (g := (mkF m 19 #[.val (.ref a1), .val (.int 0), .val (.int 2)] [(.int 0), (.ref a16), (.long q11), (.float f4), (.int 2), (.ref a1)])) rfl rfl (hb hby d13_19) _ ?_
    refine st23 _ ?_
    exact X23.returnOut hx hret (hb hby d13_23) hr
-- com/example/senret/senret/TopSentences.put(IFJI)V
abbrev Rm94 : Room := { frames := 0, cells := 0, slots := 0, locals := 0 }
def Q94 (Z : State) (a1 : Addr) (f2 : UInt32) (q3 : Int64) (p4 : Int32) (a5 : Addr) (f7 : UInt32) (f8 : UInt32) (k9 : ClassId) (a13 : Addr) (q16 : Int64) (q17 : Int64) (k18 : ClassId) (a23 : Addr) (p26 : Int32) (p27 : Int32) (k28 : ClassId) (h0 : Heap) (n0 : Nat) (v : Option Value) (h : Heap) (L : List Loc) : Prop := v = none ∧ Fr n0 L ∧ Keep h0 h [a5, a13, a23] ∧ Exa Z h a5 "[F" ∧ Arv Z h a5 k9 .float (4 : Int32) [(.float f2), (.float f8), (.float f7), (.float 0)] (.float 0) ∧ Exa Z h a13 "[J" ∧ Arv Z h a13 k18 .long (4 : Int32) [(.long q3), (.long q17), (.long q16), (.long 0)] (.long 0) ∧ Exa Z h a23 "[I" ∧ Arv Z h a23 k28 .int (4 : Int32) [(.int p4), (.int p27), (.int p26), (.int 0)] (.int 0)
-- ef_bf04c5
theorem rm94 (l : Launch) (Z : State) (a0 : Array Value) (hw : HW a0 Z) (ws : List Jvm.Cond) (a1 : Addr) (f2 : UInt32) (q3 : Int64) (p4 : Int32) (a5 : Addr) (f7 : UInt32) (f8 : UInt32) (k9 : ClassId) (a13 : Addr) (q16 : Int64) (q17 : Int64) (k18 : ClassId) (a23 : Addr) (p26 : Int32) (p27 : Int32) (k28 : ClassId) (h0 : Heap) (n0 : Nat) (Z0 : n0 ≤ h0.size) (F_scoresAsRead_a1 : Fld Z h0 a1 kT "scoresAsRead" "[F" (.ref a5)) (V_a5 : Arv Z h0 a5 k9 .float (4 : Int32) [(.float f7), (.float f8), (.float f7), (.float 0)] (.float 0)) (g_a5 : n0 ≤ a5) (F_scores_a1 : Fld Z h0 a1 kT "scores" "[J" (.ref a13)) (ne_a1_a5 : a1 ≠ a5) (V_a13 : Arv Z h0 a13 k18 .long (4 : Int32) [(.long q16), (.long q17), (.long q16), (.long 0)] (.long 0)) (ne_a13_a5 : a13 ≠ a5) (g_a13 : n0 ≤ a13) (F_ordinals_a1 : Fld Z h0 a1 kT "ordinals" "[I" (.ref a23)) (ne_a1_a13 : a1 ≠ a13) (V_a23 : Arv Z h0 a23 k28 .int (4 : Int32) [(.int p26), (.int p27), (.int p26), (.int 0)] (.int 0)) (ne_a23_a5 : a23 ≠ a5) (ne_a23_a13 : a23 ≠ a13) (g_a23 : n0 ≤ a23) (E_a5 : Exa Z h0 a5 "[F") (E_a13 : Exa Z h0 a13 "[J") (E_a23 : Exa Z h0 a23 "[I") :
    OwnMet l Z y_5 prog_25_method_11_code 6 none ws Rm94 #[(.ref a1), (.int 0), (.float f2), (.long q3), (.int p4)] h0 (Q94 Z a1 f2 q3 p4 a5 f7 f8 k9 a13 q16 q17 k18 a23 p26 p27 k28 h0 n0) := by
  refine own_body (plainFor_of_name pn_1) (ef_bf04c5 a1 f2 q3 p4) ?_
  intro p e s m below meth c s₁ hx hby hml hown hnm hret hZ X0 e0
  have N0 := Fr.nil n0
  obtain ⟨T6, X6, e6, st6⟩ := getF X0 hx hZ hown (host := "") (Or.inl (w_21 hw)) Via.refl e0 F_scoresAsRead_a1 (g := (mkF m 1 #[.val (.ref a1), .val (.int 0), .val (.float f2), .val (.long q3), .second, .val (.int p4)] [(.ref a1)])) rfl rfl (hb hby d9_1)
  obtain ⟨cl10, Ar10, q10, S10, M10, Hs10, G10⟩ := id V_a5
  have hin11 : ¬ ((0 : Int32) < 0 ∨ cl10.slots.size ≤ ((0 : Int32)).toNatClampNeg) := inb_of S10 ⟨(by decide : ¬ ((0 : Int32) < (0 : Int32))), (by decide : (0 : Int32) < (4 : Int32))⟩
  obtain ⟨T12, h12, X12, e12, W12, st12⟩ := stF X6 hx hZ e6 Ar10 (j := (0 : Int32)) hin11 (g := (mkF m 6 #[.val (.ref a1), .val (.int 0), .val (.float f2), .val (.long q3), .second, .val (.int p4)] [(.float f2), (.int 0), (.ref a5)])) rfl rfl (hb hby d9_6)
  have s0 := (Keep.of_wr W12).1
  have N12 := Fr.snoc X12 N0 g_a5
  have Vs12 : Arv Z h12 a5 k9 .float (4 : Int32) [(.float f2), (.float f8), (.float f7), (.float 0)] (.float 0) := Arv.set Ar10 q10 S10 M10 Hs10 G10 rfl W12 0 rfl (Nat.le_of_ble_eq_true rfl)
  have Fl14 := (F_scores_a1.other W12 (Or.inl ne_a1_a5))
  obtain ⟨T15, X15, e15, st15⟩ := getF X12 hx hZ hown (host := "") (Or.inl (w_24 hw)) Via.refl e12 Fl14 (g := (mkF m 8 #[.val (.ref a1), .val (.int 0), .val (.float f2), .val (.long q3), .second, .val (.int p4)] [(.ref a1)])) rfl rfl (hb hby d9_8)
  have Va19 := (V_a13.other W12 ne_a13_a5)
  obtain ⟨cl20, Ar20, q20, S20, M20, Hs20, G20⟩ := id Va19
  have hin21 : ¬ ((0 : Int32) < 0 ∨ cl20.slots.size ≤ ((0 : Int32)).toNatClampNeg) := inb_of S20 ⟨(by decide : ¬ ((0 : Int32) < (0 : Int32))), (by decide : (0 : Int32) < (4 : Int32))⟩
  obtain ⟨T22, h22, X22, e22, W22, st22⟩ := stJ X15 hx hZ e15 Ar20 (j := (0 : Int32)) hin21 (g := (mkF m 13 #[.val (.ref a1), .val (.int 0), .val (.float f2), .val (.long q3), .second, .val (.int p4)] [(.long q3), (.int 0), (.ref a13)])) rfl rfl (hb hby d9_13)
  have s1 := (Keep.of_wr W22).1
  have N22 := Fr.snoc X22 N12 g_a13
  have Vs22 : Arv Z h22 a13 k18 .long (4 : Int32) [(.long q3), (.long q17), (.long q16), (.long 0)] (.long 0) := Arv.set Ar20 q20 S20 M20 Hs20 G20 rfl W22 0 rfl (Nat.le_of_ble_eq_true rfl)
  have Fl24 := ((F_ordinals_a1.other W12 (Or.inl ne_a1_a5)).other W22 (Or.inl ne_a1_a13))
  obtain ⟨T25, X25, e25, st25⟩ := getF X22 hx hZ hown (host := "") (Or.inl (w_27 hw)) Via.refl e22 Fl24 (g := (mkF m 15 #[.val (.ref a1), .val (.int 0), .val (.float f2), .val (.long q3), .second, .val (.int p4)] [(.ref a1)])) rfl rfl (hb hby d9_15)
  have Va29 := ((V_a23.other W12 ne_a23_a5).other W22 ne_a23_a13)
  obtain ⟨cl30, Ar30, q30, S30, M30, Hs30, G30⟩ := id Va29
  have hin31 : ¬ ((0 : Int32) < 0 ∨ cl30.slots.size ≤ ((0 : Int32)).toNatClampNeg) := inb_of S30 ⟨(by decide : ¬ ((0 : Int32) < (0 : Int32))), (by decide : (0 : Int32) < (4 : Int32))⟩
  obtain ⟨T32, h32, X32, e32, W32, st32⟩ := stI X25 hx hZ e25 Ar30 (j := (0 : Int32)) hin31 (g := (mkF m 21 #[.val (.ref a1), .val (.int 0), .val (.float f2), .val (.long q3), .second, .val (.int p4)] [(.int p4), (.int 0), (.ref a23)])) rfl rfl (hb hby d9_21)
  have s2 := (Keep.of_wr W32).1
  have N32 := Fr.snoc X32 N22 g_a23
  have Vs32 : Arv Z h32 a23 k28 .int (4 : Int32) [(.int p4), (.int p27), (.int p26), (.int 0)] (.int 0) := Arv.set Ar30 q30 S30 M30 Hs30 G30 rfl W32 0 rfl (Nat.le_of_ble_eq_true rfl)
  have Ex33 := (((E_a5.wr W12).wr W22).wr W32)
  have Va34 := ((Vs12.other W22 (Ne.symm ne_a13_a5)).other W32 (Ne.symm ne_a23_a5))
  have Ex35 := (((E_a13.wr W12).wr W22).wr W32)
  have Va36 := (Vs22.other W32 (Ne.symm ne_a23_a13))
  have Ex37 := (((E_a23.wr W12).wr W22).wr W32)
  have Kp0 : Keep h0 h12 [a5, a13, a23] := (Keep.refl h0 [a5, a13, a23]).wr W12 (Or.inl (List.mem_of_getElem? (i := 0) rfl))
  have Kp1 : Keep h0 h22 [a5, a13, a23] := Kp0.wr W22 (Or.inl (List.mem_of_getElem? (i := 1) rfl))
  have Kp2 : Keep h0 h32 [a5, a13, a23] := Kp1.wr W32 (Or.inl (List.mem_of_getElem? (i := 2) rfl))
  refine ⟨T32, _, _, _, none, X32, (fun _ => rfl), by decide, by decide, ?_, fun fs hr => ?_⟩
  · rw [e32]
    exact ⟨rfl, N32, Kp2, Ex33, Va34, Ex35, Va36, Ex37, Vs32⟩
  · refine XS.aloadN X0.here hx rfl (hb hby d9_0) rfl rfl ?_
    refine st6 _ ?_
    refine XS.iloadN X6.here hx rfl (hb hby d9_4) rfl ?_
    refine XS.floadN X6.here hx rfl (hb hby d9_5) rfl ?_
    refine st12 _ ?_
    refine XS.aloadN X12.here hx rfl (hb hby d9_7) rfl rfl ?_
    refine st15 _ ?_
    refine XS.iloadN X15.here hx rfl (hb hby d9_11) rfl ?_
    refine XS.lloadN X15.here hx rfl (hb hby d9_12) rfl ?_
    refine st22 _ ?_
    refine XS.aloadN X22.here hx rfl (hb hby d9_14) rfl rfl ?_
    refine st25 _ ?_
    refine XS.iloadN X25.here hx rfl (hb hby d9_18) rfl ?_
    refine XS.iload X25.here hx rfl (hb hby d9_19) rfl ?_
    refine st32 _ ?_
    exact X32.returnOut hx hret (hb hby d9_22) hr
-- com/example/senret/senret/TopSentences.siftUp(IFJI)V
abbrev Rm95 : Room := { frames := 2, cells := 0, slots := 0, locals := 31 }
def Q95 (Z : State) (a1 : Addr) (f2 : UInt32) (q3 : Int64) (p4 : Int32) (a5 : Addr) (f7 : UInt32) (f8 : UInt32) (k9 : ClassId) (a12 : Addr) (p14 : Int32) (p15 : Int32) (k16 : ClassId) (a29 : Addr) (q30 : Int64) (q31 : Int64) (k32 : ClassId) (h0 : Heap) (n0 : Nat) (v : Option Value) (h : Heap) (L : List Loc) : Prop := v = none ∧ Fr n0 L ∧ Keep h0 h [a5, a29, a12] ∧ Exa Z h a5 "[F" ∧ Arv Z h a5 k9 .float (4 : Int32) [(.float (if (if (cmpValue (FP.fcmp f2 f7) .g) < (0 : Int32) then (1 : Int32) else (if (cmpValue (FP.fcmp f2 f7) .l) = (0 : Int32) then (if p4 < p14 then (1 : Int32) else (0 : Int32)) else (0 : Int32))) = (0 : Int32) then f7 else f2)), (.float f8), (.float (if (if (cmpValue (FP.fcmp f2 f7) .g) < (0 : Int32) then (1 : Int32) else (if (cmpValue (FP.fcmp f2 f7) .l) = (0 : Int32) then (if p4 < p14 then (1 : Int32) else (0 : Int32)) else (0 : Int32))) = (0 : Int32) then f2 else f7)), (.float 0)] (.float 0) ∧ Exa Z h a29 "[J" ∧ Arv Z h a29 k32 .long (4 : Int32) [(.long (if (if (cmpValue (FP.fcmp f2 f7) .g) < (0 : Int32) then (1 : Int32) else (if (cmpValue (FP.fcmp f2 f7) .l) = (0 : Int32) then (if p4 < p14 then (1 : Int32) else (0 : Int32)) else (0 : Int32))) = (0 : Int32) then q30 else q3)), (.long q31), (.long (if (if (cmpValue (FP.fcmp f2 f7) .g) < (0 : Int32) then (1 : Int32) else (if (cmpValue (FP.fcmp f2 f7) .l) = (0 : Int32) then (if p4 < p14 then (1 : Int32) else (0 : Int32)) else (0 : Int32))) = (0 : Int32) then q3 else q30)), (.long 0)] (.long 0) ∧ Exa Z h a12 "[I" ∧ Arv Z h a12 k16 .int (4 : Int32) [(.int (if (if (cmpValue (FP.fcmp f2 f7) .g) < (0 : Int32) then (1 : Int32) else (if (cmpValue (FP.fcmp f2 f7) .l) = (0 : Int32) then (if p4 < p14 then (1 : Int32) else (0 : Int32)) else (0 : Int32))) = (0 : Int32) then p14 else p4)), (.int p15), (.int (if (if (cmpValue (FP.fcmp f2 f7) .g) < (0 : Int32) then (1 : Int32) else (if (cmpValue (FP.fcmp f2 f7) .l) = (0 : Int32) then (if p4 < p14 then (1 : Int32) else (0 : Int32)) else (0 : Int32))) = (0 : Int32) then p4 else p14)), (.int 0)] (.int 0)
-- ef_c43c08
theorem rm95_0 (l : Launch) (Z : State) (a0 : Array Value) (hw : HW a0 Z) (ws : List Jvm.Cond) (a1 : Addr) (f2 : UInt32) (q3 : Int64) (p4 : Int32) (a5 : Addr) (f7 : UInt32) (f8 : UInt32) (k9 : ClassId) (a12 : Addr) (p14 : Int32) (p15 : Int32) (k16 : ClassId) (a29 : Addr) (q30 : Int64) (q31 : Int64) (k32 : ClassId) (h0 : Heap) (n0 : Nat) (Z0 : n0 ≤ h0.size) (F_scoresAsRead_a1 : Fld Z h0 a1 kT "scoresAsRead" "[F" (.ref a5)) (V_a5 : Arv Z h0 a5 k9 .float (4 : Int32) [(.float f7), (.float f8), (.float 0), (.float 0)] (.float 0)) (F_ordinals_a1 : Fld Z h0 a1 kT "ordinals" "[I" (.ref a12)) (V_a12 : Arv Z h0 a12 k16 .int (4 : Int32) [(.int p14), (.int p15), (.int 0), (.int 0)] (.int 0)) (g_a5 : n0 ≤ a5) (F_scores_a1 : Fld Z h0 a1 kT "scores" "[J" (.ref a29)) (ne_a1_a5 : a1 ≠ a5) (V_a29 : Arv Z h0 a29 k32 .long (4 : Int32) [(.long q30), (.long q31), (.long 0), (.long 0)] (.long 0)) (ne_a29_a5 : a29 ≠ a5) (g_a29 : n0 ≤ a29) (ne_a1_a29 : a1 ≠ a29) (ne_a12_a5 : a12 ≠ a5) (ne_a12_a29 : a12 ≠ a29) (g_a12 : n0 ≤ a12) (E_a5 : Exa Z h0 a5 "[F") (E_a29 : Exa Z h0 a29 "[J") (E_a12 : Exa Z h0 a12 "[I") (E_a1 : Exa Z h0 a1 kT) (ne_a1_a12 : a1 ≠ a12) (cc1 : (if (cmpValue (FP.fcmp f2 f7) .g) < (0 : Int32) then (1 : Int32) else (if (cmpValue (FP.fcmp f2 f7) .l) = (0 : Int32) then (if p4 < p14 then (1 : Int32) else (0 : Int32)) else (0 : Int32))) = (0 : Int32)) :
    OwnMet l Z y_6 prog_25_method_8_code 8 none ws Rm95 #[(.ref a1), (.int 2), (.float f2), (.long q3), (.int p4)] h0 (Q95 Z a1 f2 q3 p4 a5 f7 f8 k9 a12 p14 p15 k16 a29 q30 q31 k32 h0 n0) := by
  refine own_body (plainFor_of_name pn_1) (ef_c43c08 a1 f2 q3 p4) ?_
  intro p e s m below meth c s₁ hx hby hml hown hnm hret hZ X0 e0
  have N0 := Fr.nil n0
  obtain ⟨T21, X21, e21, st21⟩ := getF X0 hx hZ hown (host := "") (Or.inl (w_21 hw)) Via.refl e0 F_scoresAsRead_a1 (g := (mkF m 20 #[.val (.ref a1), .val (.int 2), .val (.float f2), .val (.long q3), .second, .val (.int p4), .val (.int 2), .val (.int 0)] [(.ref a1), (.int p4), (.float f2)])) rfl rfl (hb hby d8_20)
  obtain ⟨cl22, Ar22, q22, S22, M22, Hs22, G22⟩ := id V_a5
  have hin23 : ¬ ((0 : Int32) < 0 ∨ cl22.slots.size ≤ ((0 : Int32)).toNatClampNeg) := inb_of S22 ⟨(by decide : ¬ ((0 : Int32) < (0 : Int32))), (by decide : (0 : Int32) < (4 : Int32))⟩
  obtain ⟨T24, X24, e24, st24⟩ := getF X21 hx hZ hown (host := "") (Or.inl (w_27 hw)) Via.refl e21 F_ordinals_a1 (g := (mkF m 27 #[.val (.ref a1), .val (.int 2), .val (.float f2), .val (.long q3), .second, .val (.int p4), .val (.int 2), .val (.int 0)] [(.ref a1), (.float f7), (.int p4), (.float f2)])) rfl rfl (hb hby d8_27)
  obtain ⟨cl25, Ar25, q25, S25, M25, Hs25, G25⟩ := id V_a12
  have hin26 : ¬ ((0 : Int32) < 0 ∨ cl25.slots.size ≤ ((0 : Int32)).toNatClampNeg) := inb_of S25 ⟨(by decide : ¬ ((0 : Int32) < (0 : Int32))), (by decide : (0 : Int32) < (4 : Int32))⟩
  obtain ⟨_, T27, L27, X27, hQ27, st27⟩ := own_callS X24 hx hZ hown (y := y_9) (w_60 hw) (w_61 hw) (w_7 hw) (w_62 hw) (rm11 l Z a0 hw [] f2 p4 f7 p14 h0 n0 Z0) e24 (Ls := #[.val (.ref a1), .val (.int 2), .val (.float f2), .val (.long q3), .second, .val (.int p4), .val (.int 2), .val (.int 0)]) (by rw [hml]; rfl) (argsL := [(.float f2), (.int p4), (.float f7), (.int p14)]) (rest := []) (lenOf pd_8 rfl) (hb hby d8_33) (W := 0)
  obtain ⟨rfl, Nq27, e27⟩ := hQ27
  have N27 := Fr.app N0 Nq27
  obtain ⟨x28, ex28⟩ : ∃ z, z = (if (cmpValue (FP.fcmp f2 f7) .g) < (0 : Int32) then (1 : Int32) else (if (cmpValue (FP.fcmp f2 f7) .l) = (0 : Int32) then (if p4 < p14 then (1 : Int32) else (0 : Int32)) else (0 : Int32))) := ⟨_, rfl⟩
  obtain ⟨_, T33, L33, X33, hQ33, st33⟩ := own_private X27 hx hZ hown (y := y_5) E_a1 (w_52 hw) (w_53 hw) (Jvm.Kit.selects_private (by decide) (mvT hZ (w_6 hw)) (mvP hZ (w_54 hw)) (mvT hZ (w_53 hw))) (w_54 hw) (w_7 hw) (w_55 hw) (rm91 l Z a0 hw [] a1 f2 q3 p4 a5 f7 f8 k9 a29 q30 q31 k32 a12 p14 p15 k16 h0 n0 Z0 F_scoresAsRead_a1 V_a5 g_a5 F_scores_a1 ne_a1_a5 V_a29 ne_a29_a5 g_a29 F_ordinals_a1 ne_a1_a29 V_a12 ne_a12_a5 ne_a12_a29 g_a12 E_a5 E_a29 E_a12) e27 (Ls := #[.val (.ref a1), .val (.int 2), .val (.float f2), .val (.long q3), .second, .val (.int p4), .val (.int 2), .val (.int 0)]) (by rw [hml]; rfl) (argsL := [(.int 2), (.float f2), (.long q3), (.int p4)]) (rest := []) (lenOf pd_5 rfl) (hb hby d8_64) (W := 0)
  obtain ⟨rfl, Nq33, K33, o33_0, o33_1, o33_2, o33_3, o33_4, o33_5⟩ := hQ33
  have N33 := Fr.app N27 Nq33
  have s0 := K33.1
  have Kp0 : Keep h0 T33.heap [a5, a29, a12] := (Keep.refl h0 [a5, a29, a12]).trans K33 (allS (Or.inl (List.mem_of_getElem? (i := 0) rfl)) (allS (Or.inl (List.mem_of_getElem? (i := 1) rfl)) (allS (Or.inl (List.mem_of_getElem? (i := 2) rfl)) all0)))
  refine ⟨T33, _, _, _, none, X33, (fun _ => rfl), by decide, by decide, ?_, fun fs hr => ?_⟩
  · subst ex28
    unfold Q95
    rw [show (if (if (cmpValue (FP.fcmp f2 f7) .g) < (0 : Int32) then (1 : Int32) else (if (cmpValue (FP.fcmp f2 f7) .l) = (0 : Int32) then (if p4 < p14 then (1 : Int32) else (0 : Int32)) else (0 : Int32))) = (0 : Int32) then f7 else f2) = f7 from by rw [if_pos cc1]]
    rw [show (if (if (cmpValue (FP.fcmp f2 f7) .g) < (0 : Int32) then (1 : Int32) else (if (cmpValue (FP.fcmp f2 f7) .l) = (0 : Int32) then (if p4 < p14 then (1 : Int32) else (0 : Int32)) else (0 : Int32))) = (0 : Int32) then f2 else f7) = f2 from by rw [if_pos cc1]]
    rw [show (if (if (cmpValue (FP.fcmp f2 f7) .g) < (0 : Int32) then (1 : Int32) else (if (cmpValue (FP.fcmp f2 f7) .l) = (0 : Int32) then (if p4 < p14 then (1 : Int32) else (0 : Int32)) else (0 : Int32))) = (0 : Int32) then q30 else q3) = q30 from by rw [if_pos cc1]]
    rw [show (if (if (cmpValue (FP.fcmp f2 f7) .g) < (0 : Int32) then (1 : Int32) else (if (cmpValue (FP.fcmp f2 f7) .l) = (0 : Int32) then (if p4 < p14 then (1 : Int32) else (0 : Int32)) else (0 : Int32))) = (0 : Int32) then q3 else q30) = q3 from by rw [if_pos cc1]]
    rw [show (if (if (cmpValue (FP.fcmp f2 f7) .g) < (0 : Int32) then (1 : Int32) else (if (cmpValue (FP.fcmp f2 f7) .l) = (0 : Int32) then (if p4 < p14 then (1 : Int32) else (0 : Int32)) else (0 : Int32))) = (0 : Int32) then p14 else p4) = p14 from by rw [if_pos cc1]]
    rw [show (if (if (cmpValue (FP.fcmp f2 f7) .g) < (0 : Int32) then (1 : Int32) else (if (cmpValue (FP.fcmp f2 f7) .l) = (0 : Int32) then (if p4 < p14 then (1 : Int32) else (0 : Int32)) else (0 : Int32))) = (0 : Int32) then p4 else p14) = p4 from by rw [if_pos cc1]]
    exact ⟨rfl, N33, Kp0, o33_0, o33_1, o33_2, o33_3, o33_4, o33_5⟩
  · refine XS.iloadN X0.here hx rfl (hb hby d8_0) rfl ?_
    refine XS.istore X0.here hx rfl (hb hby d8_1) rfl (l' := #[.val (.ref a1), .val (.int 2), .val (.float f2), .val (.long q3), .second, .val (.int p4), .val (.int 2), .unset]) rfl ?_
    refine XS.iload X0.here hx rfl (hb hby d8_3) rfl ?_
    refine XS.ifNo X0.here hx rfl (hb hby d8_5) rfl ((if0 _ _).trans (tlt ((by decide : (0 : Int32) < (2 : Int32)) : (0 : Int32) < (2 : Int32))).2.2.2) ?_
    refine XS.iload X0.here hx rfl (hb hby d8_8) rfl ?_
    refine XS.iconst X0.here hx rfl (hb hby d8_10) ?_
    refine XS.isub X0.here hx rfl (hb hby d8_11) rfl ?_
    refine XS.iconst X0.here hx rfl (hb hby d8_12) ?_
    refine XS.idiv X0.here hx rfl (hb hby d8_13) rfl (by decide : ¬ ((2 : Int32) = (0 : Int32))) ?_
    refine XS.istore X0.here hx rfl (hb hby d8_14) rfl (l' := #[.val (.ref a1), .val (.int 2), .val (.float f2), .val (.long q3), .second, .val (.int p4), .val (.int 2), .val (.int 0)]) rfl ?_
    refine XS.floadN X0.here hx rfl (hb hby d8_16) rfl ?_
    refine XS.iload X0.here hx rfl (hb hby d8_17) rfl ?_
    refine XS.aloadN X0.here hx rfl (hb hby d8_19) rfl rfl ?_
    refine st21 _ ?_
    refine XS.iload X21.here hx rfl (hb hby d8_23) rfl ?_
    refine X21.faload hx (j := (0 : Int32)) (v := (.float f7)) (by rw [e21]; exact Ar22.1) (State.isArrayOf_alike hZ.alike Ar22.2.1) Ar22.2.2 hin23 (Has.at Hs22 hin23 rfl) (g := (mkF m 25 #[.val (.ref a1), .val (.int 2), .val (.float f2), .val (.long q3), .second, .val (.int p4), .val (.int 2), .val (.int 0)] [(.int 0), (.ref a5), (.int p4), (.float f2)])) rfl rfl (hb hby d8_25) _ ?_
    refine XS.aloadN X21.here hx rfl (hb hby d8_26) rfl rfl ?_
    refine st24 _ ?_
    refine XS.iload X24.here hx rfl (hb hby d8_30) rfl ?_
    refine X24.iaload hx (j := (0 : Int32)) (v := (.int p14)) (by rw [e24]; exact Ar25.1) (State.isArrayOf_alike hZ.alike Ar25.2.1) Ar25.2.2 hin26 (Has.at Hs25 hin26 rfl) (g := (mkF m 32 #[.val (.ref a1), .val (.int 2), .val (.float f2), .val (.long q3), .second, .val (.int p4), .val (.int 2), .val (.int 0)] [(.int 0), (.ref a12), (.float f7), (.int p4), (.float f2)])) rfl rfl (hb hby d8_32) _ ?_
    refine st27 _ ?_
    show Steps p.tables e below (T27.setTop (mkF m 36 #[.val (.ref a1), .val (.int 2), .val (.float f2), .val (.long q3), .second, .val (.int p4), .val (.int 2), .val (.int 0)] [(.int (if (cmpValue (FP.fcmp f2 f7) .g) < (0 : Int32) then (1 : Int32) else (if (cmpValue (FP.fcmp f2 f7) .l) = (0 : Int32) then (if p4 < p14 then (1 : Int32) else (0 : Int32)) else (0 : Int32))))])) _
    rw [← ex28]
    refine XS.ifNo X27.here hx rfl (hb hby d8_36) rfl ((if0 _ _).trans (teq ((by rw [ex28]; exact cc1) : x28 = (0 : Int32))).2) ?_
    refine XS.goto X27.here hx rfl (pc0 := 39) (pc' := 57) rfl (hb hby d8_39) (by decide) (by decide) ?_
    refine XS.aloadN X27.here hx rfl (hb hby d8_57) rfl rfl ?_
    refine XS.iload X27.here hx rfl (hb hby d8_58) rfl ?_
    refine XS.floadN X27.here hx rfl (hb hby d8_60) rfl ?_
    refine XS.lloadN X27.here hx rfl (hb hby d8_61) rfl ?_
    refine XS.iload X27.here hx rfl (hb hby d8_62) rfl ?_
    refine st33 _ ?_
    exact X33.returnOut hx hret (hb hby d8_67) hr
theorem rm95_1 (l : Launch) (Z : State) (a0 : Array Value) (hw : HW a0 Z) (ws : List Jvm.Cond) (a1 : Addr) (f2 : UInt32) (q3 : Int64) (p4 : Int32) (a5 : Addr) (f7 : UInt32) (f8 : UInt32) (k9 : ClassId) (a12 : Addr) (p14 : Int32) (p15 : Int32) (k16 : ClassId) (a29 : Addr) (q30 : Int64) (q31 : Int64) (k32 : ClassId) (h0 : Heap) (n0 : Nat) (Z0 : n0 ≤ h0.size) (F_scoresAsRead_a1 : Fld Z h0 a1 kT "scoresAsRead" "[F" (.ref a5)) (V_a5 : Arv Z h0 a5 k9 .float (4 : Int32) [(.float f7), (.float f8), (.float 0), (.float 0)] (.float 0)) (F_ordinals_a1 : Fld Z h0 a1 kT "ordinals" "[I" (.ref a12)) (V_a12 : Arv Z h0 a12 k16 .int (4 : Int32) [(.int p14), (.int p15), (.int 0), (.int 0)] (.int 0)) (g_a5 : n0 ≤ a5) (F_scores_a1 : Fld Z h0 a1 kT "scores" "[J" (.ref a29)) (ne_a1_a5 : a1 ≠ a5) (V_a29 : Arv Z h0 a29 k32 .long (4 : Int32) [(.long q30), (.long q31), (.long 0), (.long 0)] (.long 0)) (ne_a29_a5 : a29 ≠ a5) (g_a29 : n0 ≤ a29) (ne_a1_a29 : a1 ≠ a29) (ne_a12_a5 : a12 ≠ a5) (ne_a12_a29 : a12 ≠ a29) (g_a12 : n0 ≤ a12) (E_a5 : Exa Z h0 a5 "[F") (E_a29 : Exa Z h0 a29 "[J") (E_a12 : Exa Z h0 a12 "[I") (E_a1 : Exa Z h0 a1 kT) (ne_a1_a12 : a1 ≠ a12) (cc1 : ¬ ((if (cmpValue (FP.fcmp f2 f7) .g) < (0 : Int32) then (1 : Int32) else (if (cmpValue (FP.fcmp f2 f7) .l) = (0 : Int32) then (if p4 < p14 then (1 : Int32) else (0 : Int32)) else (0 : Int32))) = (0 : Int32))) :
    OwnMet l Z y_6 prog_25_method_8_code 8 none ws Rm95 #[(.ref a1), (.int 2), (.float f2), (.long q3), (.int p4)] h0 (Q95 Z a1 f2 q3 p4 a5 f7 f8 k9 a12 p14 p15 k16 a29 q30 q31 k32 h0 n0) := by
  refine own_body (plainFor_of_name pn_1) (ef_c43c08 a1 f2 q3 p4) ?_
  intro p e s m below meth c s₁ hx hby hml hown hnm hret hZ X0 e0
  have N0 := Fr.nil n0
  obtain ⟨T34, X34, e34, st34⟩ := getF X0 hx hZ hown (host := "") (Or.inl (w_21 hw)) Via.refl e0 F_scoresAsRead_a1 (g := (mkF m 20 #[.val (.ref a1), .val (.int 2), .val (.float f2), .val (.long q3), .second, .val (.int p4), .val (.int 2), .val (.int 0)] [(.ref a1), (.int p4), (.float f2)])) rfl rfl (hb hby d8_20)
  obtain ⟨cl35, Ar35, q35, S35, M35, Hs35, G35⟩ := id V_a5
  have hin36 : ¬ ((0 : Int32) < 0 ∨ cl35.slots.size ≤ ((0 : Int32)).toNatClampNeg) := inb_of S35 ⟨(by decide : ¬ ((0 : Int32) < (0 : Int32))), (by decide : (0 : Int32) < (4 : Int32))⟩
  obtain ⟨T37, X37, e37, st37⟩ := getF X34 hx hZ hown (host := "") (Or.inl (w_27 hw)) Via.refl e34 F_ordinals_a1 (g := (mkF m 27 #[.val (.ref a1), .val (.int 2), .val (.float f2), .val (.long q3), .second, .val (.int p4), .val (.int 2), .val (.int 0)] [(.ref a1), (.float f7), (.int p4), (.float f2)])) rfl rfl (hb hby d8_27)
  obtain ⟨cl38, Ar38, q38, S38, M38, Hs38, G38⟩ := id V_a12
  have hin39 : ¬ ((0 : Int32) < 0 ∨ cl38.slots.size ≤ ((0 : Int32)).toNatClampNeg) := inb_of S38 ⟨(by decide : ¬ ((0 : Int32) < (0 : Int32))), (by decide : (0 : Int32) < (4 : Int32))⟩
  obtain ⟨_, T40, L40, X40, hQ40, st40⟩ := own_callS X37 hx hZ hown (y := y_9) (w_60 hw) (w_61 hw) (w_7 hw) (w_62 hw) (rm11 l Z a0 hw [] f2 p4 f7 p14 h0 n0 Z0) e37 (Ls := #[.val (.ref a1), .val (.int 2), .val (.float f2), .val (.long q3), .second, .val (.int p4), .val (.int 2), .val (.int 0)]) (by rw [hml]; rfl) (argsL := [(.float f2), (.int p4), (.float f7), (.int p14)]) (rest := []) (lenOf pd_8 rfl) (hb hby d8_33) (W := 0)
  obtain ⟨rfl, Nq40, e40⟩ := hQ40
  have N40 := Fr.app N0 Nq40
  obtain ⟨x41, ex41⟩ : ∃ z, z = (if (cmpValue (FP.fcmp f2 f7) .g) < (0 : Int32) then (1 : Int32) else (if (cmpValue (FP.fcmp f2 f7) .l) = (0 : Int32) then (if p4 < p14 then (1 : Int32) else (0 : Int32)) else (0 : Int32))) := ⟨_, rfl⟩
  obtain ⟨_, T42, L42, X42, hQ42, st42⟩ := own_private X40 hx hZ hown (y := y_12) E_a1 (w_66 hw) (w_67 hw) (Jvm.Kit.selects_private (by decide) (mvT hZ (w_6 hw)) (mvP hZ (w_68 hw)) (mvT hZ (w_67 hw))) (w_68 hw) (w_7 hw) (w_69 hw) (rm93 l Z a0 hw [] a1 a5 f7 f8 k9 a29 q30 q31 k32 a12 p14 p15 k16 h0 n0 Z0 F_scoresAsRead_a1 V_a5 F_scores_a1 V_a29 F_ordinals_a1 V_a12 g_a5 ne_a1_a5 ne_a29_a5 g_a29 ne_a1_a29 ne_a12_a5 ne_a12_a29 g_a12 E_a5 E_a29 E_a12 E_a1) e40 (Ls := #[.val (.ref a1), .val (.int 2), .val (.float f2), .val (.long q3), .second, .val (.int p4), .val (.int 2), .val (.int 0)]) (by rw [hml]; rfl) (argsL := [(.int 0), (.int 2)]) (rest := []) (lenOf pd_11 rfl) (hb hby d8_47) (W := 0)
  obtain ⟨rfl, Nq42, K42, o42_0, o42_1, o42_2, o42_3, o42_4, o42_5⟩ := hQ42
  have N42 := Fr.app N40 Nq42
  have s0 := K42.1
  have Fl43 := (F_scoresAsRead_a1.keep K42 (ninS ne_a1_a5 (ninS ne_a1_a29 (ninS ne_a1_a12 nin0))))
  have Fl44 := (F_scores_a1.keep K42 (ninS ne_a1_a5 (ninS ne_a1_a29 (ninS ne_a1_a12 nin0))))
  have Fl45 := (F_ordinals_a1.keep K42 (ninS ne_a1_a5 (ninS ne_a1_a29 (ninS ne_a1_a12 nin0))))
  have z1 := Nat.le_trans Z0 s0
  have Ex47 := (E_a1.keep K42)
  obtain ⟨_, T46, L46, X46, hQ46, st46⟩ := own_private X42 hx hZ hown (y := y_5) Ex47 (w_52 hw) (w_53 hw) (Jvm.Kit.selects_private (by decide) (mvT hZ (w_6 hw)) (mvP hZ (w_54 hw)) (mvT hZ (w_53 hw))) (w_54 hw) (w_7 hw) (w_55 hw) (rm94 l Z a0 hw [] a1 f2 q3 p4 a5 f7 f8 k9 a29 q30 q31 k32 a12 p14 p15 k16 T42.heap n0 z1 Fl43 o42_1 g_a5 Fl44 ne_a1_a5 o42_3 ne_a29_a5 g_a29 Fl45 ne_a1_a29 o42_5 ne_a12_a5 ne_a12_a29 g_a12 o42_0 o42_2 o42_4) rfl (Ls := #[.val (.ref a1), .val (.int 2), .val (.float f2), .val (.long q3), .second, .val (.int p4), .val (.int 0), .val (.int 0)]) (by rw [hml]; rfl) (argsL := [(.int 0), (.float f2), (.long q3), (.int p4)]) (rest := []) (lenOf pd_5 rfl) (hb hby d8_64) (W := 0)
  obtain ⟨rfl, Nq46, K46, o46_0, o46_1, o46_2, o46_3, o46_4, o46_5⟩ := hQ46
  have N46 := Fr.app N42 Nq46
  have s1 := K46.1
  have Kp0 : Keep h0 T42.heap [a5, a29, a12] := (Keep.refl h0 [a5, a29, a12]).trans K42 (allS (Or.inl (List.mem_of_getElem? (i := 0) rfl)) (allS (Or.inl (List.mem_of_getElem? (i := 1) rfl)) (allS (Or.inl (List.mem_of_getElem? (i := 2) rfl)) all0)))
  have Kp1 : Keep h0 T46.heap [a5, a29, a12] := Kp0.trans K46 (allS (Or.inl (List.mem_of_getElem? (i := 0) rfl)) (allS (Or.inl (List.mem_of_getElem? (i := 1) rfl)) (allS (Or.inl (List.mem_of_getElem? (i := 2) rfl)) all0)))
  refine ⟨T46, _, _, _, none, X46, (fun _ => rfl), by decide, by decide, ?_, fun fs hr => ?_⟩
  · subst ex41
    unfold Q95
    rw [show (if (if (cmpValue (FP.fcmp f2 f7) .g) < (0 : Int32) then (1 : Int32) else (if (cmpValue (FP.fcmp f2 f7) .l) = (0 : Int32) then (if p4 < p14 then (1 : Int32) else (0 : Int32)) else (0 : Int32))) = (0 : Int32) then f7 else f2) = f2 from by rw [if_neg cc1]]
    rw [show (if (if (cmpValue (FP.fcmp f2 f7) .g) < (0 : Int32) then (1 : Int32) else (if (cmpValue (FP.fcmp f2 f7) .l) = (0 : Int32) then (if p4 < p14 then (1 : Int32) else (0 : Int32)) else (0 : Int32))) = (0 : Int32) then f2 else f7) = f7 from by rw [if_neg cc1]]
    rw [show (if (if (cmpValue (FP.fcmp f2 f7) .g) < (0 : Int32) then (1 : Int32) else (if (cmpValue (FP.fcmp f2 f7) .l) = (0 : Int32) then (if p4 < p14 then (1 : Int32) else (0 : Int32)) else (0 : Int32))) = (0 : Int32) then q30 else q3) = q3 from by rw [if_neg cc1]]
    rw [show (if (if (cmpValue (FP.fcmp f2 f7) .g) < (0 : Int32) then (1 : Int32) else (if (cmpValue (FP.fcmp f2 f7) .l) = (0 : Int32) then (if p4 < p14 then (1 : Int32) else (0 : Int32)) else (0 : Int32))) = (0 : Int32) then q3 else q30) = q30 from by rw [if_neg cc1]]
    rw [show (if (if (cmpValue (FP.fcmp f2 f7) .g) < (0 : Int32) then (1 : Int32) else (if (cmpValue (FP.fcmp f2 f7) .l) = (0 : Int32) then (if p4 < p14 then (1 : Int32) else (0 : Int32)) else (0 : Int32))) = (0 : Int32) then p14 else p4) = p4 from by rw [if_neg cc1]]
    rw [show (if (if (cmpValue (FP.fcmp f2 f7) .g) < (0 : Int32) then (1 : Int32) else (if (cmpValue (FP.fcmp f2 f7) .l) = (0 : Int32) then (if p4 < p14 then (1 : Int32) else (0 : Int32)) else (0 : Int32))) = (0 : Int32) then p4 else p14) = p14 from by rw [if_neg cc1]]
    exact ⟨rfl, N46, Kp1, o46_0, o46_1, o46_2, o46_3, o46_4, o46_5⟩
  · refine XS.iloadN X0.here hx rfl (hb hby d8_0) rfl ?_
    refine XS.istore X0.here hx rfl (hb hby d8_1) rfl (l' := #[.val (.ref a1), .val (.int 2), .val (.float f2), .val (.long q3), .second, .val (.int p4), .val (.int 2), .unset]) rfl ?_
    refine XS.iload X0.here hx rfl (hb hby d8_3) rfl ?_
    refine XS.ifNo X0.here hx rfl (hb hby d8_5) rfl ((if0 _ _).trans (tlt ((by decide : (0 : Int32) < (2 : Int32)) : (0 : Int32) < (2 : Int32))).2.2.2) ?_
    refine XS.iload X0.here hx rfl (hb hby d8_8) rfl ?_
    refine XS.iconst X0.here hx rfl (hb hby d8_10) ?_
    refine XS.isub X0.here hx rfl (hb hby d8_11) rfl ?_
    refine XS.iconst X0.here hx rfl (hb hby d8_12) ?_
    refine XS.idiv X0.here hx rfl (hb hby d8_13) rfl (by decide : ¬ ((2 : Int32) = (0 : Int32))) ?_
    refine XS.istore X0.here hx rfl (hb hby d8_14) rfl (l' := #[.val (.ref a1), .val (.int 2), .val (.float f2), .val (.long q3), .second, .val (.int p4), .val (.int 2), .val (.int 0)]) rfl ?_
    refine XS.floadN X0.here hx rfl (hb hby d8_16) rfl ?_
    refine XS.iload X0.here hx rfl (hb hby d8_17) rfl ?_
    refine XS.aloadN X0.here hx rfl (hb hby d8_19) rfl rfl ?_
    refine st34 _ ?_
    refine XS.iload X34.here hx rfl (hb hby d8_23) rfl ?_
    refine X34.faload hx (j := (0 : Int32)) (v := (.float f7)) (by rw [e34]; exact Ar35.1) (State.isArrayOf_alike hZ.alike Ar35.2.1) Ar35.2.2 hin36 (Has.at Hs35 hin36 rfl) (g := (mkF m 25 #[.val (.ref a1), .val (.int 2), .val (.float f2), .val (.long q3), .second, .val (.int p4), .val (.int 2), .val (.int 0)] [(.int 0), (.ref a5), (.int p4), (.float f2)])) rfl rfl (hb hby d8_25) _ ?_
    refine XS.aloadN X34.here hx rfl (hb hby d8_26) rfl rfl ?_
    refine st37 _ ?_
    refine XS.iload X37.here hx rfl (hb hby d8_30) rfl ?_
    refine X37.iaload hx (j := (0 : Int32)) (v := (.int p14)) (by rw [e37]; exact Ar38.1) (State.isArrayOf_alike hZ.alike Ar38.2.1) Ar38.2.2 hin39 (Has.at Hs38 hin39 rfl) (g := (mkF m 32 #[.val (.ref a1), .val (.int 2), .val (.float f2), .val (.long q3), .second, .val (.int p4), .val (.int 2), .val (.int 0)] [(.int 0), (.ref a12), (.float f7), (.int p4), (.float f2)])) rfl rfl (hb hby d8_32) _ ?_
    refine st40 _ ?_
    show Steps p.tables e below (T40.setTop (mkF m 36 #[.val (.ref a1), .val (.int 2), .val (.float f2), .val (.long q3), .second, .val (.int p4), .val (.int 2), .val (.int 0)] [(.int (if (cmpValue (FP.fcmp f2 f7) .g) < (0 : Int32) then (1 : Int32) else (if (cmpValue (FP.fcmp f2 f7) .l) = (0 : Int32) then (if p4 < p14 then (1 : Int32) else (0 : Int32)) else (0 : Int32))))])) _
    rw [← ex41]
    refine XS.ifYes X40.here hx rfl (pc0 := 36) (pc' := 42) rfl (hb hby d8_36) rfl ((if0 _ _).trans (feq ((by rw [ex41]; exact cc1) : ¬ (x41 = (0 : Int32)))).2) (by decide) (by decide) ?_
    refine XS.aloadN X40.here hx rfl (hb hby d8_42) rfl rfl ?_
    refine XS.iload X40.here hx rfl (hb hby d8_43) rfl ?_
    refine XS.iload X40.here hx rfl (hb hby d8_45) rfl ?_
    refine st42 _ ?_
    refine XS.iload X42.here hx rfl (hb hby d8_50) rfl ?_
    refine XS.istore X42.here hx rfl (hb hby d8_52) rfl (l' := #[.val (.ref a1), .val (.int 2), .val (.float f2), .val (.long q3), .second, .val (.int p4), .val (.int 0), .val (.int 0)]) rfl ?_
    refine XS.goto X42.here hx rfl (pc0 := 54) (pc' := 3) rfl (hb hby d8_54) (by decide) (by decide) ?_
    refine XS.iload X42.here hx rfl (hb hby d8_3) rfl ?_
    refine XS.ifYes X42.here hx rfl (pc0 := 5) (pc' := 57) rfl (hb hby d8_5) rfl ((if0 _ _).trans (flt ((by decide : ¬ ((0 : Int32) < (0 : Int32))) : ¬ ((0 : Int32) < (0 : Int32)))).2.2.2) (by decide) (by decide) ?_
    refine XS.aloadN X42.here hx rfl (hb hby d8_57) rfl rfl ?_
    refine XS.iload X42.here hx rfl (hb hby d8_58) rfl ?_
    refine XS.floadN X42.here hx rfl (hb hby d8_60) rfl ?_
    refine XS.lloadN X42.here hx rfl (hb hby d8_61) rfl ?_
    refine XS.iload X42.here hx rfl (hb hby d8_62) rfl ?_
    refine st46 _ ?_
    exact X46.returnOut hx hret (hb hby d8_67) hr
theorem rm95 (l : Launch) (Z : State) (a0 : Array Value) (hw : HW a0 Z) (ws : List Jvm.Cond) (a1 : Addr) (f2 : UInt32) (q3 : Int64) (p4 : Int32) (a5 : Addr) (f7 : UInt32) (f8 : UInt32) (k9 : ClassId) (a12 : Addr) (p14 : Int32) (p15 : Int32) (k16 : ClassId) (a29 : Addr) (q30 : Int64) (q31 : Int64) (k32 : ClassId) (h0 : Heap) (n0 : Nat) (Z0 : n0 ≤ h0.size) (F_scoresAsRead_a1 : Fld Z h0 a1 kT "scoresAsRead" "[F" (.ref a5)) (V_a5 : Arv Z h0 a5 k9 .float (4 : Int32) [(.float f7), (.float f8), (.float 0), (.float 0)] (.float 0)) (F_ordinals_a1 : Fld Z h0 a1 kT "ordinals" "[I" (.ref a12)) (V_a12 : Arv Z h0 a12 k16 .int (4 : Int32) [(.int p14), (.int p15), (.int 0), (.int 0)] (.int 0)) (g_a5 : n0 ≤ a5) (F_scores_a1 : Fld Z h0 a1 kT "scores" "[J" (.ref a29)) (ne_a1_a5 : a1 ≠ a5) (V_a29 : Arv Z h0 a29 k32 .long (4 : Int32) [(.long q30), (.long q31), (.long 0), (.long 0)] (.long 0)) (ne_a29_a5 : a29 ≠ a5) (g_a29 : n0 ≤ a29) (ne_a1_a29 : a1 ≠ a29) (ne_a12_a5 : a12 ≠ a5) (ne_a12_a29 : a12 ≠ a29) (g_a12 : n0 ≤ a12) (E_a5 : Exa Z h0 a5 "[F") (E_a29 : Exa Z h0 a29 "[J") (E_a12 : Exa Z h0 a12 "[I") (E_a1 : Exa Z h0 a1 kT) (ne_a1_a12 : a1 ≠ a12) :
    OwnMet l Z y_6 prog_25_method_8_code 8 none ws Rm95 #[(.ref a1), (.int 2), (.float f2), (.long q3), (.int p4)] h0 (Q95 Z a1 f2 q3 p4 a5 f7 f8 k9 a12 p14 p15 k16 a29 q30 q31 k32 h0 n0) := by
  by_cases cc1 : (if (cmpValue (FP.fcmp f2 f7) .g) < (0 : Int32) then (1 : Int32) else (if (cmpValue (FP.fcmp f2 f7) .l) = (0 : Int32) then (if p4 < p14 then (1 : Int32) else (0 : Int32)) else (0 : Int32))) = (0 : Int32)
  · exact rm95_0 l Z a0 hw ws a1 f2 q3 p4 a5 f7 f8 k9 a12 p14 p15 k16 a29 q30 q31 k32 h0 n0 Z0 F_scoresAsRead_a1 V_a5 F_ordinals_a1 V_a12 g_a5 F_scores_a1 ne_a1_a5 V_a29 ne_a29_a5 g_a29 ne_a1_a29 ne_a12_a5 ne_a12_a29 g_a12 E_a5 E_a29 E_a12 E_a1 ne_a1_a12 cc1
  · exact rm95_1 l Z a0 hw ws a1 f2 q3 p4 a5 f7 f8 k9 a12 p14 p15 k16 a29 q30 q31 k32 h0 n0 Z0 F_scoresAsRead_a1 V_a5 F_ordinals_a1 V_a12 g_a5 F_scores_a1 ne_a1_a5 V_a29 ne_a29_a5 g_a29 ne_a1_a29 ne_a12_a5 ne_a12_a29 g_a12 E_a5 E_a29 E_a12 E_a1 ne_a1_a12 cc1
-- com/example/senret/senret/TopSentences.offer(JI)V
abbrev Rm96 : Room := { frames := 3, cells := 0, slots := 0, locals := 50 }
def Q96 (Z : State) (a1 : Addr) (q2 : Int64) (p3 : Int32) (a7 : Addr) (q8 : Int64) (q9 : Int64) (k10 : ClassId) (a15 : Addr) (f18 : UInt32) (f19 : UInt32) (k20 : ClassId) (a22 : Addr) (p24 : Int32) (p25 : Int32) (k26 : ClassId) (h0 : Heap) (n0 : Nat) (v : Option Value) (h : Heap) (L : List Loc) : Prop := v = none ∧ Fr n0 L ∧ Keep h0 h [a1, a15, a7, a22] ∧ Exa Z h a1 kT ∧ Fld Z h a1 kT "depth" "I" (.int 4) ∧ Fld Z h a1 kT "ordinals" "[I" (.ref a22) ∧ Fld Z h a1 kT "scores" "[J" (.ref a7) ∧ Fld Z h a1 kT "scoresAsRead" "[F" (.ref a15) ∧ Fld Z h a1 kT "size" "I" (.int 3) ∧ Exa Z h a15 "[F" ∧ Arv Z h a15 k20 .float (4 : Int32) [(.float (if (if (cmpValue (FP.fcmp (sC q2) f18) .g) < (0 : Int32) then (1 : Int32) else (if (cmpValue (FP.fcmp (sC q2) f18) .l) = (0 : Int32) then (if p3 < p24 then (1 : Int32) else (0 : Int32)) else (0 : Int32))) = (0 : Int32) then f18 else (sC q2))), (.float f19), (.float (if (if (cmpValue (FP.fcmp (sC q2) f18) .g) < (0 : Int32) then (1 : Int32) else (if (cmpValue (FP.fcmp (sC q2) f18) .l) = (0 : Int32) then (if p3 < p24 then (1 : Int32) else (0 : Int32)) else (0 : Int32))) = (0 : Int32) then (sC q2) else f18)), (.float 0)] (.float 0) ∧ Exa Z h a7 "[J" ∧ Arv Z h a7 k10 .long (4 : Int32) [(.long (if (if (cmpValue (FP.fcmp (sC q2) f18) .g) < (0 : Int32) then (1 : Int32) else (if (cmpValue (FP.fcmp (sC q2) f18) .l) = (0 : Int32) then (if p3 < p24 then (1 : Int32) else (0 : Int32)) else (0 : Int32))) = (0 : Int32) then q8 else q2)), (.long q9), (.long (if (if (cmpValue (FP.fcmp (sC q2) f18) .g) < (0 : Int32) then (1 : Int32) else (if (cmpValue (FP.fcmp (sC q2) f18) .l) = (0 : Int32) then (if p3 < p24 then (1 : Int32) else (0 : Int32)) else (0 : Int32))) = (0 : Int32) then q2 else q8)), (.long 0)] (.long 0) ∧ Exa Z h a22 "[I" ∧ Arv Z h a22 k26 .int (4 : Int32) [(.int (if (if (cmpValue (FP.fcmp (sC q2) f18) .g) < (0 : Int32) then (1 : Int32) else (if (cmpValue (FP.fcmp (sC q2) f18) .l) = (0 : Int32) then (if p3 < p24 then (1 : Int32) else (0 : Int32)) else (0 : Int32))) = (0 : Int32) then p24 else p3)), (.int p25), (.int (if (if (cmpValue (FP.fcmp (sC q2) f18) .g) < (0 : Int32) then (1 : Int32) else (if (cmpValue (FP.fcmp (sC q2) f18) .l) = (0 : Int32) then (if p3 < p24 then (1 : Int32) else (0 : Int32)) else (0 : Int32))) = (0 : Int32) then p3 else p24)), (.int 0)] (.int 0)
-- ef_8cdad2
theorem rm96 (l : Launch) (Z : State) (a0 : Array Value) (hw : HW a0 Z) (ws : List Jvm.Cond) (a1 : Addr) (q2 : Int64) (p3 : Int32) (a7 : Addr) (q8 : Int64) (q9 : Int64) (k10 : ClassId) (a15 : Addr) (f18 : UInt32) (f19 : UInt32) (k20 : ClassId) (a22 : Addr) (p24 : Int32) (p25 : Int32) (k26 : ClassId) (h0 : Heap) (n0 : Nat) (Z0 : n0 ≤ h0.size) (F_size_a1 : Fld Z h0 a1 kT "size" "I" (.int 2)) (F_depth_a1 : Fld Z h0 a1 kT "depth" "I" (.int 4)) (F_scores_a1 : Fld Z h0 a1 kT "scores" "[J" (.ref a7)) (V_a7 : Arv Z h0 a7 k10 .long (4 : Int32) [(.long q8), (.long q9), (.long 0), (.long 0)] (.long 0)) (E_a1 : Exa Z h0 a1 kT) (g_a1 : n0 ≤ a1) (F_scoresAsRead_a1 : Fld Z h0 a1 kT "scoresAsRead" "[F" (.ref a15)) (V_a15 : Arv Z h0 a15 k20 .float (4 : Int32) [(.float f18), (.float f19), (.float 0), (.float 0)] (.float 0)) (ne_a15_a1 : a15 ≠ a1) (F_ordinals_a1 : Fld Z h0 a1 kT "ordinals" "[I" (.ref a22)) (V_a22 : Arv Z h0 a22 k26 .int (4 : Int32) [(.int p24), (.int p25), (.int 0), (.int 0)] (.int 0)) (ne_a22_a1 : a22 ≠ a1) (g_a15 : n0 ≤ a15) (ne_a7_a1 : a7 ≠ a1) (ne_a7_a15 : a7 ≠ a15) (g_a7 : n0 ≤ a7) (ne_a22_a15 : a22 ≠ a15) (ne_a22_a7 : a22 ≠ a7) (g_a22 : n0 ≤ a22) (E_a15 : Exa Z h0 a15 "[F") (E_a7 : Exa Z h0 a7 "[J") (E_a22 : Exa Z h0 a22 "[I") :
    OwnMet l Z y_7 prog_25_method_4_code 5 none ws Rm96 #[(.ref a1), (.long q2), (.int p3)] h0 (Q96 Z a1 q2 p3 a7 q8 q9 k10 a15 f18 f19 k20 a22 p24 p25 k26 h0 n0) := by
  refine own_body (plainFor_of_name pn_1) (ef_8cdad2 a1 q2 p3) ?_
  intro p e s m below meth c s₁ hx hby hml hown hnm hret hZ X0 e0
  have N0 := Fr.nil n0
  obtain ⟨_, T4, L4, X4, hQ4, st4⟩ := own_callS X0 hx hZ hown (y := y_0) (w_43 hw) (w_1 hw) (w_2 hw) (w_3 hw) (rm1 l Z a0 hw [] q2 h0 n0 Z0) e0 (Ls := #[.val (.ref a1), .val (.long q2), .second, .val (.int p3), .unset]) (by rw [hml]; rfl) (argsL := [(.long q2)]) (rest := []) (lenOf pd_0 rfl) (hb hby d6_1) (W := 0)
  obtain ⟨rfl, Nq4, e4⟩ := hQ4
  have N4 := Fr.app N0 Nq4
  obtain ⟨T5, X5, e5, st5⟩ := getF X4 hx hZ hown (host := "") (Or.inl (w_34 hw)) Via.refl e4 F_size_a1 (g := (mkF m 7 #[.val (.ref a1), .val (.long q2), .second, .val (.int p3), .val (.float (sC q2))] [(.ref a1)])) rfl rfl (hb hby d6_7)
  obtain ⟨T6, X6, e6, st6⟩ := getF X5 hx hZ hown (host := "") (Or.inl (w_14 hw)) Via.refl e5 F_depth_a1 (g := (mkF m 11 #[.val (.ref a1), .val (.long q2), .second, .val (.int p3), .val (.float (sC q2))] [(.ref a1), (.int 2)])) rfl rfl (hb hby d6_11)
  obtain ⟨_, T11, L11, X11, hQ11, st11⟩ := own_private X6 hx hZ hown (y := y_4) E_a1 (w_44 hw) (w_45 hw) (Jvm.Kit.selects_private (by decide) (mvT hZ (w_6 hw)) (mvP hZ (w_46 hw)) (mvT hZ (w_45 hw))) (w_46 hw) (w_7 hw) (w_47 hw) (rm90 l Z a0 hw [] a1 a7 q8 q9 k10 h0 n0 Z0 F_size_a1 F_scores_a1 V_a7) e6 (Ls := #[.val (.ref a1), .val (.long q2), .second, .val (.int p3), .val (.float (sC q2))]) (by rw [hml]; rfl) (argsL := []) (rest := []) (lenOf pd_4 rfl) (hb hby d6_18) (W := 0)
  obtain ⟨rfl, Nq11, e11⟩ := hQ11
  have N11 := Fr.app N4 Nq11
  obtain ⟨T12, X12, e12, st12⟩ := getF X11 hx hZ hown (host := "") (Or.inl (w_34 hw)) Via.refl e11 F_size_a1 (g := (mkF m 23 #[.val (.ref a1), .val (.long q2), .second, .val (.int p3), .val (.float (sC q2))] [(.ref a1), (.ref a1)])) rfl rfl (hb hby d6_23)
  obtain ⟨T13, h13, X13, e13, W13, st13⟩ := putF X12 hx hZ hown (host := "") (Or.inl (w_34 hw)) Via.refl e12 F_size_a1 E_a1 (Or.inl (w_35 hw)) (w_6 hw) (ty := .int) (by decide) rfl rfl (g := (mkF m 28 #[.val (.ref a1), .val (.long q2), .second, .val (.int p3), .val (.float (sC q2))] [(.int 3), (.ref a1)])) rfl rfl (hb hby d6_28)
  have s0 := (Keep.of_wr W13).1
  have N13 := Fr.snoc X13 N11 g_a1
  have Fw13 : Fld Z h13 a1 kT "size" "I" (.int 3) := F_size_a1.same W13
  obtain ⟨T14, X14, e14, st14⟩ := getF X13 hx hZ hown (host := "") (Or.inl (w_34 hw)) Via.refl e13 Fw13 (g := (mkF m 33 #[.val (.ref a1), .val (.long q2), .second, .val (.int p3), .val (.float (sC q2))] [(.ref a1), (.ref a1)])) rfl rfl (hb hby d6_33)
  have Ex16 := (E_a1.wr W13)
  have Fl17 := (F_scoresAsRead_a1.other W13 (Or.inr (slot_ne (Or.inl (w_22 hw)) (Or.inl (w_35 hw)) (by decide) (t := (.array .float)) (t' := .int) (by decide) (by decide))))
  have Va21 := (V_a15.other W13 ne_a15_a1)
  have Fl23 := (F_ordinals_a1.other W13 (Or.inr (slot_ne (Or.inl (w_28 hw)) (Or.inl (w_35 hw)) (by decide) (t := (.array .int)) (t' := .int) (by decide) (by decide))))
  have Va27 := (V_a22.other W13 ne_a22_a1)
  have Fl28 := (F_scores_a1.other W13 (Or.inr (slot_ne (Or.inl (w_25 hw)) (Or.inl (w_35 hw)) (by decide) (t := (.array .long)) (t' := .int) (by decide) (by decide))))
  have Va29 := (V_a7.other W13 ne_a7_a1)
  have Ex30 := (E_a15.wr W13)
  have Ex31 := (E_a7.wr W13)
  have Ex32 := (E_a22.wr W13)
  have z1 := Nat.le_trans Z0 s0
  obtain ⟨_, T33, L33, X33, hQ33, st33⟩ := own_private X14 hx hZ hown (y := y_6) Ex16 (w_48 hw) (w_49 hw) (Jvm.Kit.selects_private (by decide) (mvT hZ (w_6 hw)) (mvP hZ (w_50 hw)) (mvT hZ (w_49 hw))) (w_50 hw) (w_7 hw) (w_51 hw) (rm95 l Z a0 hw [] a1 (sC q2) q2 p3 a15 f18 f19 k20 a22 p24 p25 k26 a7 q8 q9 k10 h13 n0 z1 Fl17 Va21 Fl23 Va27 g_a15 Fl28 (Ne.symm ne_a15_a1) Va29 ne_a7_a15 g_a7 (Ne.symm ne_a7_a1) ne_a22_a15 ne_a22_a7 g_a22 Ex30 Ex31 Ex32 Ex16 (Ne.symm ne_a22_a1)) e14 (Ls := #[.val (.ref a1), .val (.long q2), .second, .val (.int p3), .val (.float (sC q2))]) (by rw [hml]; rfl) (argsL := [(.int 2), (.float (sC q2)), (.long q2), (.int p3)]) (rest := []) (lenOf pd_5 rfl) (hb hby d6_42) (W := 0)
  obtain ⟨rfl, Nq33, K33, o33_0, o33_1, o33_2, o33_3, o33_4, o33_5⟩ := hQ33
  have N33 := Fr.app N13 Nq33
  have s1 := K33.1
  obtain ⟨x34, ex34⟩ : ∃ z, z = (if (if (cmpValue (FP.fcmp (sC q2) f18) .g) < (0 : Int32) then (1 : Int32) else (if (cmpValue (FP.fcmp (sC q2) f18) .l) = (0 : Int32) then (if p3 < p24 then (1 : Int32) else (0 : Int32)) else (0 : Int32))) = (0 : Int32) then f18 else (sC q2)) := ⟨_, rfl⟩
  obtain ⟨x35, ex35⟩ : ∃ z, z = (if (if (cmpValue (FP.fcmp (sC q2) f18) .g) < (0 : Int32) then (1 : Int32) else (if (cmpValue (FP.fcmp (sC q2) f18) .l) = (0 : Int32) then (if p3 < p24 then (1 : Int32) else (0 : Int32)) else (0 : Int32))) = (0 : Int32) then (sC q2) else f18) := ⟨_, rfl⟩
  have o33_1' : Arv Z T33.heap a15 k20 .float (4 : Int32) [(.float x34), (.float f19), (.float x35), (.float 0)] (.float 0) := by rw [ex34, ex35]; exact o33_1
  obtain ⟨x36, ex36⟩ : ∃ z, z = (if (if (cmpValue (FP.fcmp (sC q2) f18) .g) < (0 : Int32) then (1 : Int32) else (if (cmpValue (FP.fcmp (sC q2) f18) .l) = (0 : Int32) then (if p3 < p24 then (1 : Int32) else (0 : Int32)) else (0 : Int32))) = (0 : Int32) then q8 else q2) := ⟨_, rfl⟩
  obtain ⟨x37, ex37⟩ : ∃ z, z = (if (if (cmpValue (FP.fcmp (sC q2) f18) .g) < (0 : Int32) then (1 : Int32) else (if (cmpValue (FP.fcmp (sC q2) f18) .l) = (0 : Int32) then (if p3 < p24 then (1 : Int32) else (0 : Int32)) else (0 : Int32))) = (0 : Int32) then q2 else q8) := ⟨_, rfl⟩
  have o33_3' : Arv Z T33.heap a7 k10 .long (4 : Int32) [(.long x36), (.long q9), (.long x37), (.long 0)] (.long 0) := by rw [ex36, ex37]; exact o33_3
  obtain ⟨x38, ex38⟩ : ∃ z, z = (if (if (cmpValue (FP.fcmp (sC q2) f18) .g) < (0 : Int32) then (1 : Int32) else (if (cmpValue (FP.fcmp (sC q2) f18) .l) = (0 : Int32) then (if p3 < p24 then (1 : Int32) else (0 : Int32)) else (0 : Int32))) = (0 : Int32) then p24 else p3) := ⟨_, rfl⟩
  obtain ⟨x39, ex39⟩ : ∃ z, z = (if (if (cmpValue (FP.fcmp (sC q2) f18) .g) < (0 : Int32) then (1 : Int32) else (if (cmpValue (FP.fcmp (sC q2) f18) .l) = (0 : Int32) then (if p3 < p24 then (1 : Int32) else (0 : Int32)) else (0 : Int32))) = (0 : Int32) then p3 else p24) := ⟨_, rfl⟩
  have o33_5' : Arv Z T33.heap a22 k26 .int (4 : Int32) [(.int x38), (.int p25), (.int x39), (.int 0)] (.int 0) := by rw [ex38, ex39]; exact o33_5
  have Ex40 := (Ex16.keep K33)
  have Fl41 := ((F_depth_a1.other W13 (Or.inr (slot_ne (Or.inr (w_15 hw)) (Or.inl (w_35 hw)) (by decide) (t := .int) (t' := .int) (by decide) (by decide)))).keep K33 (ninS (Ne.symm ne_a15_a1) (ninS (Ne.symm ne_a7_a1) (ninS (Ne.symm ne_a22_a1) nin0))))
  have Fl42 := (Fl23.keep K33 (ninS (Ne.symm ne_a15_a1) (ninS (Ne.symm ne_a7_a1) (ninS (Ne.symm ne_a22_a1) nin0))))
  have Fl43 := (Fl28.keep K33 (ninS (Ne.symm ne_a15_a1) (ninS (Ne.symm ne_a7_a1) (ninS (Ne.symm ne_a22_a1) nin0))))
  have Fl44 := (Fl17.keep K33 (ninS (Ne.symm ne_a15_a1) (ninS (Ne.symm ne_a7_a1) (ninS (Ne.symm ne_a22_a1) nin0))))
  have Fl45 := (Fw13.keep K33 (ninS (Ne.symm ne_a15_a1) (ninS (Ne.symm ne_a7_a1) (ninS (Ne.symm ne_a22_a1) nin0))))
  have Kp0 : Keep h0 h13 [a1, a15, a7, a22] := (Keep.refl h0 [a1, a15, a7, a22]).wr W13 (Or.inl (List.mem_of_getElem? (i := 0) rfl))
  have Kp1 : Keep h0 T33.heap [a1, a15, a7, a22] := Kp0.trans K33 (allS (Or.inl (List.mem_of_getElem? (i := 1) rfl)) (allS (Or.inl (List.mem_of_getElem? (i := 2) rfl)) (allS (Or.inl (List.mem_of_getElem? (i := 3) rfl)) all0)))
  refine ⟨T33, _, _, _, none, X33, (fun _ => rfl), by decide, by decide, ?_, fun fs hr => ?_⟩
  · subst ex39
    subst ex38
    subst ex37
    subst ex36
    subst ex35
    subst ex34
    exact ⟨rfl, N33, Kp1, Ex40, Fl41, Fl42, Fl43, Fl44, Fl45, o33_0, o33_1', o33_2, o33_3', o33_4, o33_5'⟩
  · refine XS.lloadN X0.here hx rfl (hb hby d6_0) rfl ?_
    refine st4 _ ?_
    refine XS.fstore X4.here hx rfl (hb hby d6_4) rfl (l' := #[.val (.ref a1), .val (.long q2), .second, .val (.int p3), .val (.float (sC q2))]) rfl ?_
    refine XS.aloadN X4.here hx rfl (hb hby d6_6) rfl rfl ?_
    refine st5 _ ?_
    refine XS.aloadN X5.here hx rfl (hb hby d6_10) rfl rfl ?_
    refine st6 _ ?_
    refine XS.icmpNo X6.here hx rfl (hb hby d6_14) rfl (tlt ((by decide : (2 : Int32) < (4 : Int32)) : (2 : Int32) < (4 : Int32))).2.1 ?_
    refine XS.aloadN X6.here hx rfl (hb hby d6_17) rfl rfl ?_
    refine st11 _ ?_
    refine XS.aloadN X11.here hx rfl (hb hby d6_21) rfl rfl ?_
    refine XS.dup X11.here hx rfl (hb hby d6_22) rfl rfl ?_
    refine st12 _ ?_
    refine XS.iconst X12.here hx rfl (hb hby d6_26) ?_
    refine XS.iadd X12.here hx rfl (hb hby d6_27) rfl ?_
    refine st13 _ ?_
    refine XS.aloadN X13.here hx rfl (hb hby d6_31) rfl rfl ?_
    refine XS.aloadN X13.here hx rfl (hb hby d6_32) rfl rfl ?_
    refine st14 _ ?_
    refine XS.iconst X14.here hx rfl (hb hby d6_36) ?_
    refine XS.isub X14.here hx rfl (hb hby d6_37) rfl ?_
    refine XS.fload X14.here hx rfl (hb hby d6_38) rfl ?_
    refine XS.lloadN X14.here hx rfl (hb hby d6_40) rfl ?_
    refine XS.iloadN X14.here hx rfl (hb hby d6_41) rfl ?_
    refine st33 _ ?_
    refine XS.goto X33.here hx rfl (pc0 := 45) (pc' := 77) rfl (hb hby d6_45) (by decide) (by decide) ?_
    exact X33.returnOut hx hret (hb hby d6_77) hr
-- com/example/senret/senret/TopSentences.lowestAdmitted()F
abbrev Rm97 : Room := { frames := 0, cells := 0, slots := 0, locals := 0 }
def Q97 (Z : State) (a1 : Addr) (h0 : Heap) (n0 : Nat) (v : Option Value) (h : Heap) (L : List Loc) : Prop := v = some (.float 4286578688) ∧ Fr n0 L ∧ h = h0
-- ef_26f21a
theorem rm97 (l : Launch) (Z : State) (a0 : Array Value) (hw : HW a0 Z) (ws : List Jvm.Cond) (a1 : Addr) (h0 : Heap) (n0 : Nat) (Z0 : n0 ≤ h0.size) (F_size_a1 : Fld Z h0 a1 kT "size" "I" (.int 3)) (F_depth_a1 : Fld Z h0 a1 kT "depth" "I" (.int 4)) :
    OwnMet l Z y_3 prog_25_method_3_code 1 (some .float) ws Rm97 #[(.ref a1)] h0 (Q97 Z a1 h0 n0) := by
  refine own_body (plainFor_of_name pn_1) (ef_26f21a a1) ?_
  intro p e s m below meth c s₁ hx hby hml hown hnm hret hZ X0 e0
  have N0 := Fr.nil n0
  obtain ⟨T2, X2, e2, st2⟩ := getF X0 hx hZ hown (host := "") (Or.inl (w_34 hw)) Via.refl e0 F_size_a1 (g := (mkF m 1 #[.val (.ref a1)] [(.ref a1)])) rfl rfl (hb hby d5_1)
  obtain ⟨T3, X3, e3, st3⟩ := getF X2 hx hZ hown (host := "") (Or.inl (w_14 hw)) Via.refl e2 F_depth_a1 (g := (mkF m 5 #[.val (.ref a1)] [(.ref a1), (.int 3)])) rfl rfl (hb hby d5_5)
  refine ⟨T3, _, _, _, (some (.float 4286578688)), X3, nofun, by decide, by decide, ?_, fun fs hr => ?_⟩
  · rw [e3]
    exact ⟨rfl, N0, rfl⟩
  · refine XS.aloadN X0.here hx rfl (hb hby d5_0) rfl rfl ?_
    refine st2 _ ?_
    refine XS.aloadN X2.here hx rfl (hb hby d5_4) rfl rfl ?_
    refine st3 _ ?_
    refine XS.icmpNo X3.here hx rfl (hb hby d5_8) rfl (tlt ((by decide : (3 : Int32) < (4 : Int32)) : (3 : Int32) < (4 : Int32))).2.1 ?_
    refine X3.ldcFloatC hx hown (mvT hZ (w_36 hw)) (g := (mkF m 11 #[.val (.ref a1)] [])) rfl (hb hby d5_11) _ ?_
    refine XS.goto X3.here hx rfl (pc0 := 13) (pc' := 22) rfl (hb hby d5_13) (by decide) (by decide) ?_
    exact retOut X3 hx hret rfl (Or.inr (Or.inr (Or.inr (Or.inl ⟨rfl, rfl, _, rfl⟩)))) (hb hby d5_22) hr
theorem ef_45029b (f1 : UInt32) (f2 : UInt32) (f3 : UInt32) (m : MethodId) : entryFrame m #[(.int 4), (.int 3), (.float f1), (.float f2), (.float f3)] 5 = mkF m 0 #[.val (.int 4), .val (.int 3), .val (.float f1), .val (.float f2), .val (.float f3)] [] := by first | (simp [entryFrame, mkF, argsToLocals, Value.category]; done) | rfl
-- com/example/senret/senret/TopSentencesLowestAdmittedPinLaw.expected(IIFFF)F
abbrev Rm98 : Room := { frames := 0, cells := 0, slots := 0, locals := 0 }
def Q98 (Z : State) (f1 : UInt32) (f2 : UInt32) (f3 : UInt32) (h0 : Heap) (n0 : Nat) (v : Option Value) (h : Heap) (L : List Loc) : Prop := v = some (.float 4286578688) ∧ Fr n0 L ∧ h = h0
-- ef_45029b
theorem rm98 (l : Launch) (Z : State) (a0 : Array Value) (hw : HW a0 Z) (ws : List Jvm.Cond) (f1 : UInt32) (f2 : UInt32) (f3 : UInt32) (h0 : Heap) (n0 : Nat) (Z0 : n0 ≤ h0.size) :
    OwnMet l Z y_8 method_3_code 5 (some .float) ws Rm98 #[(.int 4), (.int 3), (.float f1), (.float f2), (.float f3)] h0 (Q98 Z f1 f2 f3 h0 n0) := by
  refine own_body (plainFor_of_name pn_2) (ef_45029b f1 f2 f3) ?_
  intro p e s m below meth c s₁ hx hby hml hown hnm hret hZ X0 e0
  have N0 := Fr.nil n0
  refine ⟨s₁, _, _, _, (some (.float 4286578688)), X0, nofun, by decide, by decide, ?_, fun fs hr => ?_⟩
  · rw [e0]
    exact ⟨rfl, N0, rfl⟩
  · refine XS.iloadN X0.here hx rfl (hb hby d10_0) rfl ?_
    refine XS.iloadN X0.here hx rfl (hb hby d10_1) rfl ?_
    refine XS.icmpNo X0.here hx rfl (hb hby d10_2) rfl (tlt ((by decide : (3 : Int32) < (4 : Int32)) : (3 : Int32) < (4 : Int32))).2.1 ?_
    refine X0.ldcFloatC hx hown (mvT hZ (w_37 hw)) (g := (mkF m 5 #[.val (.int 4), .val (.int 3), .val (.float f1), .val (.float f2), .val (.float f3)] [])) rfl (hb hby d10_5) _ ?_
    exact retOut X0 hx hret rfl (Or.inr (Or.inr (Or.inr (Or.inl ⟨rfl, rfl, _, rfl⟩)))) (hb hby d10_7) hr
theorem rm0_3 (l : Launch) (Z : State) (a0 : Array Value) (hw : HW a0 Z) (ws : List Jvm.Cond) (p1 : Int32) (p2 : Int64) (p3 : Int64) (p4 : Int64) (p5 : Int32) (p6 : Int32) (h0 : Heap) (n0 : Nat) (Z0 : n0 ≤ h0.size) (Od0 : Old Z n0 h0) (hk : (p1 &&& (3 : Int32)) = (3 : Int32)) :
    OwnMet l Z x code maxLocals ret ws room_1 #[(.int p1), (.long p2), (.long p3), (.long p4), (.int p5), (.int p6)] h0 (Q0 n0) := by
  refine own_body (plainFor_of_name pn_2) (ef0 p1 p2 p3 p4 p5 p6) ?_
  intro p e s m below meth c s₁ hx hby hml hown hnm hret hZ X0 e0
  have N0 := Fr.nil n0
  obtain ⟨_, T1, L1, X1, hQ1, st1⟩ := own_callS X0 hx hZ hown (y := y_0) (w_0 hw) (w_1 hw) (w_2 hw) (w_3 hw) (rm1 l Z a0 hw [] p2 h0 n0 Z0) e0 (Ls := #[.val (.int p1), .val (.long p2), .second, .val (.long p3), .second, .val (.long p4), .second, .val (.int p5), .val (.int p6), .val (.int 4), .val (.int (p1 >>> ((2 : Int32) &&& 31))), .unset, .unset, .unset, .unset, .unset]) (by rw [hml]; rfl) (argsL := [(.long p2)]) (rest := []) (lenOf pd_0 rfl) (hb hby at_13) (W := 0)
  obtain ⟨rfl, Nq1, e1⟩ := hQ1
  have N1 := Fr.app N0 Nq1
  obtain ⟨_, T2, L2, X2, hQ2, st2⟩ := own_callS X1 hx hZ hown (y := y_0) (w_0 hw) (w_1 hw) (w_2 hw) (w_3 hw) (rm1 l Z a0 hw [] p3 h0 n0 Z0) e1 (Ls := #[.val (.int p1), .val (.long p2), .second, .val (.long p3), .second, .val (.long p4), .second, .val (.int p5), .val (.int p6), .val (.int 4), .val (.int (p1 >>> ((2 : Int32) &&& 31))), .val (.float (sC p2)), .unset, .unset, .unset, .unset]) (by rw [hml]; rfl) (argsL := [(.long p3)]) (rest := []) (lenOf pd_0 rfl) (hb hby at_19) (W := 0)
  obtain ⟨rfl, Nq2, e2⟩ := hQ2
  have N2 := Fr.app N1 Nq2
  obtain ⟨_, T3, L3, X3, hQ3, st3⟩ := own_callS X2 hx hZ hown (y := y_0) (w_0 hw) (w_1 hw) (w_2 hw) (w_3 hw) (rm1 l Z a0 hw [] p4 h0 n0 Z0) e2 (Ls := #[.val (.int p1), .val (.long p2), .second, .val (.long p3), .second, .val (.long p4), .second, .val (.int p5), .val (.int p6), .val (.int 4), .val (.int (p1 >>> ((2 : Int32) &&& 31))), .val (.float (sC p2)), .val (.float (sC p3)), .unset, .unset, .unset]) (by rw [hml]; rfl) (argsL := [(.long p4)]) (rest := []) (lenOf pd_0 rfl) (hb hby at_26) (W := 0)
  obtain ⟨rfl, Nq3, e3⟩ := hQ3
  have N3 := Fr.app N2 Nq3
  obtain ⟨T4, h4, X4, e4, E4, A4, D4, -, st4⟩ := newO X3 hx hZ hown (w_5 hw) (w_6 hw) (w_7 hw) e3 (g := (mkF m 31 #[.val (.int p1), .val (.long p2), .second, .val (.long p3), .second, .val (.long p4), .second, .val (.int p5), .val (.int p6), .val (.int 4), .val (.int (p1 >>> ((2 : Int32) &&& 31))), .val (.float (sC p2)), .val (.float (sC p3)), .val (.float (sC p4)), .unset, .unset] [])) rfl (hb hby at_31) (by decide) (by decide)
  obtain ⟨b4, g4⟩ : ∃ z, z = h0.size := ⟨_, rfl⟩
  rw [← g4] at A4 D4 st4
  have s0 := E4.1
  have Fn4_depth : Fld Z h4 b4 kT "depth" "I" (.int 0) := D4 (Or.inr (w_15 hw)) (ty := .int) (by decide)
  have Fn4_scoresAsRead : Fld Z h4 b4 kT "scoresAsRead" "[F" .null := D4 (Or.inl (w_22 hw)) (ty := (.array .float)) (by decide)
  have Fn4_scores : Fld Z h4 b4 kT "scores" "[J" .null := D4 (Or.inl (w_25 hw)) (ty := (.array .long)) (by decide)
  have Fn4_ordinals : Fld Z h4 b4 kT "ordinals" "[I" .null := D4 (Or.inl (w_28 hw)) (ty := (.array .int)) (by decide)
  have Fn4_size : Fld Z h4 b4 kT "size" "I" (.int 0) := D4 (Or.inl (w_35 hw)) (ty := .int) (by decide)
  have g_b4 : n0 ≤ b4 := Nat.le_trans Z0 (Nat.le_of_eq g4.symm)
  have z1 := Nat.le_trans Z0 s0
  obtain ⟨_, T5, L5, X5, hQ5, st5⟩ := own_special X4 hx hZ hown (y := y_2) (a := b4) (w_8 hw) (w_9 hw) (w_7 hw) (w_10 hw) (rm73 l Z a0 hw [] b4 h4 n0 z1 Fn4_depth A4 g_b4 Fn4_scoresAsRead Fn4_scores Fn4_ordinals Fn4_size) e4 (Ls := #[.val (.int p1), .val (.long p2), .second, .val (.long p3), .second, .val (.long p4), .second, .val (.int p5), .val (.int p6), .val (.int 4), .val (.int (p1 >>> ((2 : Int32) &&& 31))), .val (.float (sC p2)), .val (.float (sC p3)), .val (.float (sC p4)), .unset, .unset]) (by rw [hml]; rfl) (argsL := [(.int 4)]) (rest := [(.ref b4)]) (lenOf pd_2 rfl) (hb hby at_37) (W := 1)
  obtain ⟨b5_b13, k5_k13, b5_b9, k5_k9, b5_b5, k5_k5, rfl, Nq5, K5, o5_0, o5_1, o5_2, o5_3, o5_4, o5_5, o5_6, o5_7, o5_8, o5_9, o5_10, o5_11, o5_12, o5_13, o5_14, o5_15, o5_16, o5_17⟩ := hQ5
  have N5 := Fr.app N3 Nq5
  have s1 := K5.1
  have z2 := Nat.le_trans Z0 (Nat.le_trans s0 s1)
  obtain ⟨_, T6, L6, X6, hQ6, st6⟩ := own_virtual X5 hx hZ hown (y := y_3) (z := y_3) o5_0 (w_29 hw) (w_30 hw) (notFace_of_selects (args := #[]) (mvT hZ (w_32 hw))) (w_32 hw) (w_31 hw) (w_7 hw) (w_33 hw) (rm74 l Z a0 hw [] b4 T5.heap n0 z2 o5_5 o5_1) rfl (Ls := #[.val (.int p1), .val (.long p2), .second, .val (.long p3), .second, .val (.long p4), .second, .val (.int p5), .val (.int p6), .val (.int 4), .val (.int (p1 >>> ((2 : Int32) &&& 31))), .val (.float (sC p2)), .val (.float (sC p3)), .val (.float (sC p4)), .val (.ref b4), .unset]) (by rw [hml]; rfl) (argsL := []) (rest := []) (lenOf pd_3 rfl) (hb hby at_44) (W := 0)
  obtain ⟨rfl, Nq6, e6⟩ := hQ6
  have N6 := Fr.app N5 Nq6
  have ne_b4_b5_b5 := Nat.ne_of_lt (Nat.lt_of_lt_of_le Fn4_size.lt o5_12)
  have g_b5_b5 : n0 ≤ b5_b5 := Nat.le_trans z1 o5_12
  have ne_b4_b5_b9 := Nat.ne_of_lt (Nat.lt_of_lt_of_le Fn4_size.lt o5_9)
  have g_b5_b9 : n0 ≤ b5_b9 := Nat.le_trans z1 o5_9
  have ne_b4_b5_b13 := Nat.ne_of_lt (Nat.lt_of_lt_of_le Fn4_size.lt o5_6)
  have g_b5_b13 : n0 ≤ b5_b13 := Nat.le_trans z1 o5_6
  obtain ⟨_, T7, L7, X7, hQ7, st7⟩ := own_virtual X6 hx hZ hown (y := y_7) (z := y_7) o5_0 (w_38 hw) (w_39 hw) (notFace_of_selects (args := #[]) (mvT hZ (w_41 hw))) (w_41 hw) (w_40 hw) (w_7 hw) (w_42 hw) (rm78 l Z a0 hw [] b4 p2 p5 b5_b9 k5_k9 b5_b5 k5_k5 b5_b13 k5_k13 T5.heap n0 z2 o5_5 o5_1 o5_3 o5_11 o5_0 g_b4 o5_4 o5_14 (Ne.symm ne_b4_b5_b5) g_b5_b5 (Ne.symm ne_b4_b5_b9) o5_17 g_b5_b9 o5_2 o5_8 (Ne.symm ne_b4_b5_b13) o5_16 o5_15 g_b5_b13 o5_13 o5_10 o5_7) e6 (Ls := #[.val (.int p1), .val (.long p2), .second, .val (.long p3), .second, .val (.long p4), .second, .val (.int p5), .val (.int p6), .val (.int 4), .val (.int (p1 >>> ((2 : Int32) &&& 31))), .val (.float (sC p2)), .val (.float (sC p3)), .val (.float (sC p4)), .val (.ref b4), .val (.int 1)]) (by rw [hml]; rfl) (argsL := [(.long p2), (.int p5)]) (rest := []) (lenOf pd_6 rfl) (hb hby at_65) (W := 0)
  obtain ⟨rfl, Nq7, K7, o7_0, o7_1, o7_2, o7_3, o7_4, o7_5, o7_6, o7_7, o7_8, o7_9, o7_10, o7_11⟩ := hQ7
  have N7 := Fr.app N6 Nq7
  have s2 := K7.1
  have z3 := Nat.le_trans Z0 (Nat.le_trans (Nat.le_trans s0 s1) s2)
  obtain ⟨_, T8, L8, X8, hQ8, st8⟩ := own_virtual X7 hx hZ hown (y := y_3) (z := y_3) o7_0 (w_29 hw) (w_30 hw) (notFace_of_selects (args := #[]) (mvT hZ (w_32 hw))) (w_32 hw) (w_31 hw) (w_7 hw) (w_33 hw) (rm79 l Z a0 hw [] b4 T7.heap n0 z3 o7_5 o7_1) rfl (Ls := #[.val (.int p1), .val (.long p2), .second, .val (.long p3), .second, .val (.long p4), .second, .val (.int p5), .val (.int p6), .val (.int 4), .val (.int (p1 >>> ((2 : Int32) &&& 31))), .val (.float (sC p2)), .val (.float (sC p3)), .val (.float (sC p4)), .val (.ref b4), .val (.int 1)]) (by rw [hml]; rfl) (argsL := []) (rest := []) (lenOf pd_3 rfl) (hb hby at_75) (W := 0)
  obtain ⟨rfl, Nq8, e8⟩ := hQ8
  have N8 := Fr.app N7 Nq8
  obtain ⟨_, T9, L9, X9, hQ9, st9⟩ := own_callS X8 hx hZ hown (y := y_8) (w_56 hw) (w_57 hw) (w_58 hw) (w_59 hw) (rm80 l Z a0 hw [] (sC p2) (sC p3) (sC p4) T7.heap n0 z3) e8 (Ls := #[.val (.int p1), .val (.long p2), .second, .val (.long p3), .second, .val (.long p4), .second, .val (.int p5), .val (.int p6), .val (.int 4), .val (.int (p1 >>> ((2 : Int32) &&& 31))), .val (.float (sC p2)), .val (.float (sC p3)), .val (.float (sC p4)), .val (.ref b4), .val (.int 1)]) (by rw [hml]; rfl) (argsL := [(.int 4), (.int 1), (.float (sC p2)), (.float (sC p3)), (.float (sC p4))]) (rest := [(.float 4286578688)]) (lenOf pd_7 rfl) (hb hby at_87) (W := 1)
  obtain ⟨rfl, Nq9, e9⟩ := hQ9
  have N9 := Fr.app N8 Nq9
  obtain ⟨_, T10, L10, X10, hQ10, st10⟩ := own_virtual X9 hx hZ hown (y := y_7) (z := y_7) o7_0 (w_38 hw) (w_39 hw) (notFace_of_selects (args := #[]) (mvT hZ (w_41 hw))) (w_41 hw) (w_40 hw) (w_7 hw) (w_42 hw) (rm87 l Z a0 hw [] b4 p3 p6 b5_b9 p2 k5_k9 b5_b5 (sC p2) k5_k5 b5_b13 p5 k5_k13 T7.heap n0 z3 o7_5 o7_1 o7_3 o7_9 o7_0 g_b4 o7_4 o7_7 (Ne.symm ne_b4_b5_b5) o7_2 o7_11 (Ne.symm ne_b4_b5_b13) g_b5_b5 (Ne.symm ne_b4_b5_b9) o5_17 g_b5_b9 o5_16 o5_15 g_b5_b13 o7_6 o7_8 o7_10) e9 (Ls := #[.val (.int p1), .val (.long p2), .second, .val (.long p3), .second, .val (.long p4), .second, .val (.int p5), .val (.int p6), .val (.int 4), .val (.int (p1 >>> ((2 : Int32) &&& 31))), .val (.float (sC p2)), .val (.float (sC p3)), .val (.float (sC p4)), .val (.ref b4), .val (.int 1)]) (by rw [hml]; rfl) (argsL := [(.long p3), (.int p6)]) (rest := []) (lenOf pd_6 rfl) (hb hby at_106) (W := 0)
  obtain ⟨rfl, Nq10, K10, o10_0, o10_1, o10_2, o10_3, o10_4, o10_5, o10_6, o10_7, o10_8, o10_9, o10_10, o10_11⟩ := hQ10
  have N10 := Fr.app N9 Nq10
  have s3 := K10.1
  obtain ⟨x11, ex11⟩ : ∃ z, z = (if (if (cmpValue (FP.fcmp (sC p3) (sC p2)) .g) < (0 : Int32) then (1 : Int32) else (if (cmpValue (FP.fcmp (sC p3) (sC p2)) .l) = (0 : Int32) then (if p6 < p5 then (1 : Int32) else (0 : Int32)) else (0 : Int32))) = (0 : Int32) then (sC p2) else (sC p3)) := ⟨_, rfl⟩
  obtain ⟨x12, ex12⟩ : ∃ z, z = (if (if (cmpValue (FP.fcmp (sC p3) (sC p2)) .g) < (0 : Int32) then (1 : Int32) else (if (cmpValue (FP.fcmp (sC p3) (sC p2)) .l) = (0 : Int32) then (if p6 < p5 then (1 : Int32) else (0 : Int32)) else (0 : Int32))) = (0 : Int32) then (sC p3) else (sC p2)) := ⟨_, rfl⟩
  have o10_7' : Arv Z T10.heap b5_b5 k5_k5 .float (4 : Int32) [(.float x11), (.float x12), (.float 0), (.float 0)] (.float 0) := by rw [ex11, ex12]; exact o10_7
  obtain ⟨x13, ex13⟩ : ∃ z, z = (if (if (cmpValue (FP.fcmp (sC p3) (sC p2)) .g) < (0 : Int32) then (1 : Int32) else (if (cmpValue (FP.fcmp (sC p3) (sC p2)) .l) = (0 : Int32) then (if p6 < p5 then (1 : Int32) else (0 : Int32)) else (0 : Int32))) = (0 : Int32) then p2 else p3) := ⟨_, rfl⟩
  obtain ⟨x14, ex14⟩ : ∃ z, z = (if (if (cmpValue (FP.fcmp (sC p3) (sC p2)) .g) < (0 : Int32) then (1 : Int32) else (if (cmpValue (FP.fcmp (sC p3) (sC p2)) .l) = (0 : Int32) then (if p6 < p5 then (1 : Int32) else (0 : Int32)) else (0 : Int32))) = (0 : Int32) then p3 else p2) := ⟨_, rfl⟩
  have o10_9' : Arv Z T10.heap b5_b9 k5_k9 .long (4 : Int32) [(.long x13), (.long x14), (.long 0), (.long 0)] (.long 0) := by rw [ex13, ex14]; exact o10_9
  obtain ⟨x15, ex15⟩ : ∃ z, z = (if (if (cmpValue (FP.fcmp (sC p3) (sC p2)) .g) < (0 : Int32) then (1 : Int32) else (if (cmpValue (FP.fcmp (sC p3) (sC p2)) .l) = (0 : Int32) then (if p6 < p5 then (1 : Int32) else (0 : Int32)) else (0 : Int32))) = (0 : Int32) then p5 else p6) := ⟨_, rfl⟩
  obtain ⟨x16, ex16⟩ : ∃ z, z = (if (if (cmpValue (FP.fcmp (sC p3) (sC p2)) .g) < (0 : Int32) then (1 : Int32) else (if (cmpValue (FP.fcmp (sC p3) (sC p2)) .l) = (0 : Int32) then (if p6 < p5 then (1 : Int32) else (0 : Int32)) else (0 : Int32))) = (0 : Int32) then p6 else p5) := ⟨_, rfl⟩
  have o10_11' : Arv Z T10.heap b5_b13 k5_k13 .int (4 : Int32) [(.int x15), (.int x16), (.int 0), (.int 0)] (.int 0) := by rw [ex15, ex16]; exact o10_11
  have z4 := Nat.le_trans Z0 (Nat.le_trans (Nat.le_trans (Nat.le_trans s0 s1) s2) s3)
  obtain ⟨_, T17, L17, X17, hQ17, st17⟩ := own_virtual X10 hx hZ hown (y := y_3) (z := y_3) o10_0 (w_29 hw) (w_30 hw) (notFace_of_selects (args := #[]) (mvT hZ (w_32 hw))) (w_32 hw) (w_31 hw) (w_7 hw) (w_33 hw) (rm88 l Z a0 hw [] b4 T10.heap n0 z4 o10_5 o10_1) rfl (Ls := #[.val (.int p1), .val (.long p2), .second, .val (.long p3), .second, .val (.long p4), .second, .val (.int p5), .val (.int p6), .val (.int 4), .val (.int (p1 >>> ((2 : Int32) &&& 31))), .val (.float (sC p2)), .val (.float (sC p3)), .val (.float (sC p4)), .val (.ref b4), .val (.int 1)]) (by rw [hml]; rfl) (argsL := []) (rest := []) (lenOf pd_3 rfl) (hb hby at_116) (W := 0)
  obtain ⟨rfl, Nq17, e17⟩ := hQ17
  have N17 := Fr.app N10 Nq17
  obtain ⟨_, T18, L18, X18, hQ18, st18⟩ := own_callS X17 hx hZ hown (y := y_8) (w_56 hw) (w_57 hw) (w_58 hw) (w_59 hw) (rm89 l Z a0 hw [] (sC p2) (sC p3) (sC p4) T10.heap n0 z4) e17 (Ls := #[.val (.int p1), .val (.long p2), .second, .val (.long p3), .second, .val (.long p4), .second, .val (.int p5), .val (.int p6), .val (.int 4), .val (.int (p1 >>> ((2 : Int32) &&& 31))), .val (.float (sC p2)), .val (.float (sC p3)), .val (.float (sC p4)), .val (.ref b4), .val (.int 1)]) (by rw [hml]; rfl) (argsL := [(.int 4), (.int 2), (.float (sC p2)), (.float (sC p3)), (.float (sC p4))]) (rest := [(.float 4286578688)]) (lenOf pd_7 rfl) (hb hby at_128) (W := 1)
  obtain ⟨rfl, Nq18, e18⟩ := hQ18
  have N18 := Fr.app N17 Nq18
  obtain ⟨_, T19, L19, X19, hQ19, st19⟩ := own_virtual X18 hx hZ hown (y := y_7) (z := y_7) o10_0 (w_38 hw) (w_39 hw) (notFace_of_selects (args := #[]) (mvT hZ (w_41 hw))) (w_41 hw) (w_40 hw) (w_7 hw) (w_42 hw) (rm96 l Z a0 hw [] b4 p4 (p1 >>> ((2 : Int32) &&& 31)) b5_b9 x13 x14 k5_k9 b5_b5 x11 x12 k5_k5 b5_b13 x15 x16 k5_k13 T10.heap n0 z4 o10_5 o10_1 o10_3 o10_9' o10_0 g_b4 o10_4 o10_7' (Ne.symm ne_b4_b5_b5) o10_2 o10_11' (Ne.symm ne_b4_b5_b13) g_b5_b5 (Ne.symm ne_b4_b5_b9) o5_17 g_b5_b9 o5_16 o5_15 g_b5_b13 o10_6 o10_8 o10_10) e18 (Ls := #[.val (.int p1), .val (.long p2), .second, .val (.long p3), .second, .val (.long p4), .second, .val (.int p5), .val (.int p6), .val (.int 4), .val (.int (p1 >>> ((2 : Int32) &&& 31))), .val (.float (sC p2)), .val (.float (sC p3)), .val (.float (sC p4)), .val (.ref b4), .val (.int 1)]) (by rw [hml]; rfl) (argsL := [(.long p4), (.int (p1 >>> ((2 : Int32) &&& 31)))]) (rest := []) (lenOf pd_6 rfl) (hb hby at_148) (W := 0)
  obtain ⟨rfl, Nq19, K19, o19_0, o19_1, o19_2, o19_3, o19_4, o19_5, o19_6, o19_7, o19_8, o19_9, o19_10, o19_11⟩ := hQ19
  have N19 := Fr.app N18 Nq19
  have s4 := K19.1
  obtain ⟨x20, ex20⟩ : ∃ z, z = (if (if (cmpValue (FP.fcmp (sC p4) x11) .g) < (0 : Int32) then (1 : Int32) else (if (cmpValue (FP.fcmp (sC p4) x11) .l) = (0 : Int32) then (if (p1 >>> ((2 : Int32) &&& 31)) < x15 then (1 : Int32) else (0 : Int32)) else (0 : Int32))) = (0 : Int32) then x11 else (sC p4)) := ⟨_, rfl⟩
  obtain ⟨x21, ex21⟩ : ∃ z, z = (if (if (cmpValue (FP.fcmp (sC p4) x11) .g) < (0 : Int32) then (1 : Int32) else (if (cmpValue (FP.fcmp (sC p4) x11) .l) = (0 : Int32) then (if (p1 >>> ((2 : Int32) &&& 31)) < x15 then (1 : Int32) else (0 : Int32)) else (0 : Int32))) = (0 : Int32) then (sC p4) else x11) := ⟨_, rfl⟩
  have o19_7' : Arv Z T19.heap b5_b5 k5_k5 .float (4 : Int32) [(.float x20), (.float x12), (.float x21), (.float 0)] (.float 0) := by rw [ex20, ex21]; exact o19_7
  obtain ⟨x22, ex22⟩ : ∃ z, z = (if (if (cmpValue (FP.fcmp (sC p4) x11) .g) < (0 : Int32) then (1 : Int32) else (if (cmpValue (FP.fcmp (sC p4) x11) .l) = (0 : Int32) then (if (p1 >>> ((2 : Int32) &&& 31)) < x15 then (1 : Int32) else (0 : Int32)) else (0 : Int32))) = (0 : Int32) then x13 else p4) := ⟨_, rfl⟩
  obtain ⟨x23, ex23⟩ : ∃ z, z = (if (if (cmpValue (FP.fcmp (sC p4) x11) .g) < (0 : Int32) then (1 : Int32) else (if (cmpValue (FP.fcmp (sC p4) x11) .l) = (0 : Int32) then (if (p1 >>> ((2 : Int32) &&& 31)) < x15 then (1 : Int32) else (0 : Int32)) else (0 : Int32))) = (0 : Int32) then p4 else x13) := ⟨_, rfl⟩
  have o19_9' : Arv Z T19.heap b5_b9 k5_k9 .long (4 : Int32) [(.long x22), (.long x14), (.long x23), (.long 0)] (.long 0) := by rw [ex22, ex23]; exact o19_9
  obtain ⟨x24, ex24⟩ : ∃ z, z = (if (if (cmpValue (FP.fcmp (sC p4) x11) .g) < (0 : Int32) then (1 : Int32) else (if (cmpValue (FP.fcmp (sC p4) x11) .l) = (0 : Int32) then (if (p1 >>> ((2 : Int32) &&& 31)) < x15 then (1 : Int32) else (0 : Int32)) else (0 : Int32))) = (0 : Int32) then x15 else (p1 >>> ((2 : Int32) &&& 31))) := ⟨_, rfl⟩
  obtain ⟨x25, ex25⟩ : ∃ z, z = (if (if (cmpValue (FP.fcmp (sC p4) x11) .g) < (0 : Int32) then (1 : Int32) else (if (cmpValue (FP.fcmp (sC p4) x11) .l) = (0 : Int32) then (if (p1 >>> ((2 : Int32) &&& 31)) < x15 then (1 : Int32) else (0 : Int32)) else (0 : Int32))) = (0 : Int32) then (p1 >>> ((2 : Int32) &&& 31)) else x15) := ⟨_, rfl⟩
  have o19_11' : Arv Z T19.heap b5_b13 k5_k13 .int (4 : Int32) [(.int x24), (.int x16), (.int x25), (.int 0)] (.int 0) := by rw [ex24, ex25]; exact o19_11
  have z5 := Nat.le_trans Z0 (Nat.le_trans (Nat.le_trans (Nat.le_trans (Nat.le_trans s0 s1) s2) s3) s4)
  obtain ⟨_, T26, L26, X26, hQ26, st26⟩ := own_virtual X19 hx hZ hown (y := y_3) (z := y_3) o19_0 (w_29 hw) (w_30 hw) (notFace_of_selects (args := #[]) (mvT hZ (w_32 hw))) (w_32 hw) (w_31 hw) (w_7 hw) (w_33 hw) (rm97 l Z a0 hw [] b4 T19.heap n0 z5 o19_5 o19_1) rfl (Ls := #[.val (.int p1), .val (.long p2), .second, .val (.long p3), .second, .val (.long p4), .second, .val (.int p5), .val (.int p6), .val (.int 4), .val (.int (p1 >>> ((2 : Int32) &&& 31))), .val (.float (sC p2)), .val (.float (sC p3)), .val (.float (sC p4)), .val (.ref b4), .val (.int 1)]) (by rw [hml]; rfl) (argsL := []) (rest := []) (lenOf pd_3 rfl) (hb hby at_158) (W := 0)
  obtain ⟨rfl, Nq26, e26⟩ := hQ26
  have N26 := Fr.app N19 Nq26
  obtain ⟨_, T27, L27, X27, hQ27, st27⟩ := own_callS X26 hx hZ hown (y := y_8) (w_56 hw) (w_57 hw) (w_58 hw) (w_59 hw) (rm98 l Z a0 hw [] (sC p2) (sC p3) (sC p4) T19.heap n0 z5) e26 (Ls := #[.val (.int p1), .val (.long p2), .second, .val (.long p3), .second, .val (.long p4), .second, .val (.int p5), .val (.int p6), .val (.int 4), .val (.int (p1 >>> ((2 : Int32) &&& 31))), .val (.float (sC p2)), .val (.float (sC p3)), .val (.float (sC p4)), .val (.ref b4), .val (.int 1)]) (by rw [hml]; rfl) (argsL := [(.int 4), (.int 3), (.float (sC p2)), (.float (sC p3)), (.float (sC p4))]) (rest := [(.float 4286578688)]) (lenOf pd_7 rfl) (hb hby at_170) (W := 1)
  obtain ⟨rfl, Nq27, e27⟩ := hQ27
  have N27 := Fr.app N26 Nq27
  refine ⟨T27, _, _, _, (some (.int 1)), X27, nofun, by decide, by decide, ?_, fun fs hr => ?_⟩
  · show Q0 n0 _ T27.heap _
    rw [e27]
    subst ex25
    subst ex24
    subst ex23
    subst ex22
    subst ex21
    subst ex20
    subst ex16
    subst ex15
    subst ex14
    subst ex13
    subst ex12
    subst ex11
    exact ⟨rfl, N27⟩
  · refine XS.iloadN X0.here hx rfl (hb hby at_0) rfl ?_
    refine XS.iconst X0.here hx rfl (hb hby at_1) ?_
    refine XS.iand X0.here hx rfl (hb hby at_2) rfl ?_
    show Steps p.tables e below (s₁.setTop (mkF m 3 #[.val (.int p1), .val (.long p2), .second, .val (.long p3), .second, .val (.long p4), .second, .val (.int p5), .val (.int p6), .unset, .unset, .unset, .unset, .unset, .unset, .unset] [(.int (p1 &&& (3 : Int32)))])) _
    rw [hk]
    refine XS.iconst X0.here hx rfl (hb hby at_3) ?_
    refine XS.iadd X0.here hx rfl (hb hby at_4) rfl ?_
    refine XS.istore X0.here hx rfl (hb hby at_5) rfl (l' := #[.val (.int p1), .val (.long p2), .second, .val (.long p3), .second, .val (.long p4), .second, .val (.int p5), .val (.int p6), .val (.int 4), .unset, .unset, .unset, .unset, .unset, .unset]) rfl ?_
    refine XS.iloadN X0.here hx rfl (hb hby at_7) rfl ?_
    refine XS.iconst X0.here hx rfl (hb hby at_8) ?_
    refine XS.ishr X0.here hx rfl (hb hby at_9) rfl ?_
    refine XS.istore X0.here hx rfl (hb hby at_10) rfl (l' := #[.val (.int p1), .val (.long p2), .second, .val (.long p3), .second, .val (.long p4), .second, .val (.int p5), .val (.int p6), .val (.int 4), .val (.int (p1 >>> ((2 : Int32) &&& 31))), .unset, .unset, .unset, .unset, .unset]) rfl ?_
    refine XS.lloadN X0.here hx rfl (hb hby at_12) rfl ?_
    refine st1 _ ?_
    refine XS.fstore X1.here hx rfl (hb hby at_16) rfl (l' := #[.val (.int p1), .val (.long p2), .second, .val (.long p3), .second, .val (.long p4), .second, .val (.int p5), .val (.int p6), .val (.int 4), .val (.int (p1 >>> ((2 : Int32) &&& 31))), .val (.float (sC p2)), .unset, .unset, .unset, .unset]) rfl ?_
    refine XS.lloadN X1.here hx rfl (hb hby at_18) rfl ?_
    refine st2 _ ?_
    refine XS.fstore X2.here hx rfl (hb hby at_22) rfl (l' := #[.val (.int p1), .val (.long p2), .second, .val (.long p3), .second, .val (.long p4), .second, .val (.int p5), .val (.int p6), .val (.int 4), .val (.int (p1 >>> ((2 : Int32) &&& 31))), .val (.float (sC p2)), .val (.float (sC p3)), .unset, .unset, .unset]) rfl ?_
    refine XS.lload X2.here hx rfl (hb hby at_24) rfl ?_
    refine st3 _ ?_
    refine XS.fstore X3.here hx rfl (hb hby at_29) rfl (l' := #[.val (.int p1), .val (.long p2), .second, .val (.long p3), .second, .val (.long p4), .second, .val (.int p5), .val (.int p6), .val (.int 4), .val (.int (p1 >>> ((2 : Int32) &&& 31))), .val (.float (sC p2)), .val (.float (sC p3)), .val (.float (sC p4)), .unset, .unset]) rfl ?_
    refine st4 _ ?_
    refine XS.dup X4.here hx rfl (hb hby at_34) rfl rfl ?_
    refine XS.iload X4.here hx rfl (hb hby at_35) rfl ?_
    refine st5 _ ?_
    refine XS.astore X5.here hx rfl (hb hby at_40) rfl rfl (l' := #[.val (.int p1), .val (.long p2), .second, .val (.long p3), .second, .val (.long p4), .second, .val (.int p5), .val (.int p6), .val (.int 4), .val (.int (p1 >>> ((2 : Int32) &&& 31))), .val (.float (sC p2)), .val (.float (sC p3)), .val (.float (sC p4)), .val (.ref b4), .unset]) rfl ?_
    refine XS.aload X5.here hx rfl (hb hby at_42) rfl rfl ?_
    refine st6 _ ?_
    refine X6.ldcFloatC hx hown (mvT hZ (w_37 hw)) (g := (mkF m 47 #[.val (.int p1), .val (.long p2), .second, .val (.long p3), .second, .val (.long p4), .second, .val (.int p5), .val (.int p6), .val (.int 4), .val (.int (p1 >>> ((2 : Int32) &&& 31))), .val (.float (sC p2)), .val (.float (sC p3)), .val (.float (sC p4)), .val (.ref b4), .unset] [(.float 4286578688)])) rfl (hb hby at_47) _ ?_
    refine XS.fcmpS X6.here hx rfl (hb hby at_49) rfl (by decide +kernel : (cmpValue (FP.fcmp (4286578688 : UInt32) (4286578688 : UInt32)) .l) = (0 : Int32)) ?_
    refine XS.ifNo X6.here hx rfl (hb hby at_50) rfl ((if0 _ _).trans (teq ((by decide : (0 : Int32) = (0 : Int32)) : (0 : Int32) = (0 : Int32))).2) ?_
    refine XS.iconst X6.here hx rfl (hb hby at_53) ?_
    refine XS.goto X6.here hx rfl (pc0 := 54) (pc' := 58) rfl (hb hby at_54) (by decide) (by decide) ?_
    refine XS.istore X6.here hx rfl (hb hby at_58) rfl (l' := #[.val (.int p1), .val (.long p2), .second, .val (.long p3), .second, .val (.long p4), .second, .val (.int p5), .val (.int p6), .val (.int 4), .val (.int (p1 >>> ((2 : Int32) &&& 31))), .val (.float (sC p2)), .val (.float (sC p3)), .val (.float (sC p4)), .val (.ref b4), .val (.int 1)]) rfl ?_
    refine XS.aload X6.here hx rfl (hb hby at_60) rfl rfl ?_
    refine XS.lloadN X6.here hx rfl (hb hby at_62) rfl ?_
    refine XS.iload X6.here hx rfl (hb hby at_63) rfl ?_
    refine st7 _ ?_
    refine XS.iload X7.here hx rfl (hb hby at_68) rfl ?_
    refine XS.ifNo X7.here hx rfl (hb hby at_70) rfl ((if0 _ _).trans (feq ((by decide : ¬ ((1 : Int32) = (0 : Int32))) : ¬ ((1 : Int32) = (0 : Int32)))).1) ?_
    refine XS.aload X7.here hx rfl (hb hby at_73) rfl rfl ?_
    refine st8 _ ?_
    refine XS.iload X8.here hx rfl (hb hby at_78) rfl ?_
    refine XS.iconst X8.here hx rfl (hb hby at_80) ?_
    refine XS.fload X8.here hx rfl (hb hby at_81) rfl ?_
    refine XS.fload X8.here hx rfl (hb hby at_83) rfl ?_
    refine XS.fload X8.here hx rfl (hb hby at_85) rfl ?_
    refine st9 _ ?_
    refine XS.fcmpS X9.here hx rfl (hb hby at_90) rfl (by decide +kernel : (cmpValue (FP.fcmp (4286578688 : UInt32) (4286578688 : UInt32)) .l) = (0 : Int32)) ?_
    refine XS.ifNo X9.here hx rfl (hb hby at_91) rfl ((if0 _ _).trans (teq ((by decide : (0 : Int32) = (0 : Int32)) : (0 : Int32) = (0 : Int32))).2) ?_
    refine XS.iconst X9.here hx rfl (hb hby at_94) ?_
    refine XS.goto X9.here hx rfl (pc0 := 95) (pc' := 99) rfl (hb hby at_95) (by decide) (by decide) ?_
    refine XS.istore X9.here hx rfl (hb hby at_99) rfl (l' := #[.val (.int p1), .val (.long p2), .second, .val (.long p3), .second, .val (.long p4), .second, .val (.int p5), .val (.int p6), .val (.int 4), .val (.int (p1 >>> ((2 : Int32) &&& 31))), .val (.float (sC p2)), .val (.float (sC p3)), .val (.float (sC p4)), .val (.ref b4), .val (.int 1)]) rfl ?_
    refine XS.aload X9.here hx rfl (hb hby at_101) rfl rfl ?_
    refine XS.lloadN X9.here hx rfl (hb hby at_103) rfl ?_
    refine XS.iload X9.here hx rfl (hb hby at_104) rfl ?_
    refine st10 _ ?_
    refine XS.iload X10.here hx rfl (hb hby at_109) rfl ?_
    refine XS.ifNo X10.here hx rfl (hb hby at_111) rfl ((if0 _ _).trans (feq ((by decide : ¬ ((1 : Int32) = (0 : Int32))) : ¬ ((1 : Int32) = (0 : Int32)))).1) ?_
    refine XS.aload X10.here hx rfl (hb hby at_114) rfl rfl ?_
    refine st17 _ ?_
    refine XS.iload X17.here hx rfl (hb hby at_119) rfl ?_
    refine XS.iconst X17.here hx rfl (hb hby at_121) ?_
    refine XS.fload X17.here hx rfl (hb hby at_122) rfl ?_
    refine XS.fload X17.here hx rfl (hb hby at_124) rfl ?_
    refine XS.fload X17.here hx rfl (hb hby at_126) rfl ?_
    refine st18 _ ?_
    refine XS.fcmpS X18.here hx rfl (hb hby at_131) rfl (by decide +kernel : (cmpValue (FP.fcmp (4286578688 : UInt32) (4286578688 : UInt32)) .l) = (0 : Int32)) ?_
    refine XS.ifNo X18.here hx rfl (hb hby at_132) rfl ((if0 _ _).trans (teq ((by decide : (0 : Int32) = (0 : Int32)) : (0 : Int32) = (0 : Int32))).2) ?_
    refine XS.iconst X18.here hx rfl (hb hby at_135) ?_
    refine XS.goto X18.here hx rfl (pc0 := 136) (pc' := 140) rfl (hb hby at_136) (by decide) (by decide) ?_
    refine XS.istore X18.here hx rfl (hb hby at_140) rfl (l' := #[.val (.int p1), .val (.long p2), .second, .val (.long p3), .second, .val (.long p4), .second, .val (.int p5), .val (.int p6), .val (.int 4), .val (.int (p1 >>> ((2 : Int32) &&& 31))), .val (.float (sC p2)), .val (.float (sC p3)), .val (.float (sC p4)), .val (.ref b4), .val (.int 1)]) rfl ?_
    refine XS.aload X18.here hx rfl (hb hby at_142) rfl rfl ?_
    refine XS.lload X18.here hx rfl (hb hby at_144) rfl ?_
    refine XS.iload X18.here hx rfl (hb hby at_146) rfl ?_
    refine st19 _ ?_
    refine XS.iload X19.here hx rfl (hb hby at_151) rfl ?_
    refine XS.ifNo X19.here hx rfl (hb hby at_153) rfl ((if0 _ _).trans (feq ((by decide : ¬ ((1 : Int32) = (0 : Int32))) : ¬ ((1 : Int32) = (0 : Int32)))).1) ?_
    refine XS.aload X19.here hx rfl (hb hby at_156) rfl rfl ?_
    refine st26 _ ?_
    refine XS.iload X26.here hx rfl (hb hby at_161) rfl ?_
    refine XS.iconst X26.here hx rfl (hb hby at_163) ?_
    refine XS.fload X26.here hx rfl (hb hby at_164) rfl ?_
    refine XS.fload X26.here hx rfl (hb hby at_166) rfl ?_
    refine XS.fload X26.here hx rfl (hb hby at_168) rfl ?_
    refine st27 _ ?_
    refine XS.fcmpS X27.here hx rfl (hb hby at_173) rfl (by decide +kernel : (cmpValue (FP.fcmp (4286578688 : UInt32) (4286578688 : UInt32)) .l) = (0 : Int32)) ?_
    refine XS.ifNo X27.here hx rfl (hb hby at_174) rfl ((if0 _ _).trans (teq ((by decide : (0 : Int32) = (0 : Int32)) : (0 : Int32) = (0 : Int32))).2) ?_
    refine XS.iconst X27.here hx rfl (hb hby at_177) ?_
    refine XS.goto X27.here hx rfl (pc0 := 178) (pc' := 182) rfl (hb hby at_178) (by decide) (by decide) ?_
    refine XS.istore X27.here hx rfl (hb hby at_182) rfl (l' := #[.val (.int p1), .val (.long p2), .second, .val (.long p3), .second, .val (.long p4), .second, .val (.int p5), .val (.int p6), .val (.int 4), .val (.int (p1 >>> ((2 : Int32) &&& 31))), .val (.float (sC p2)), .val (.float (sC p3)), .val (.float (sC p4)), .val (.ref b4), .val (.int 1)]) rfl ?_
    refine XS.iload X27.here hx rfl (hb hby at_184) rfl ?_
    exact retN X27 hx (t := .boolean) hret (by simp) (hb hby at_186) hr
theorem rm0 (l : Launch) (Z : State) (a0 : Array Value) (hw : HW a0 Z) (ws : List Jvm.Cond) (p1 : Int32) (p2 : Int64) (p3 : Int64) (p4 : Int64) (p5 : Int32) (p6 : Int32) (h0 : Heap) (n0 : Nat) (Z0 : n0 ≤ h0.size) (Od0 : Old Z n0 h0) :
    OwnMet l Z x code maxLocals ret ws room_1 #[(.int p1), (.long p2), (.long p3), (.long p4), (.int p5), (.int p6)] h0 (Q0 n0) := by
  rcases own_k4 p1 with hk | hk | hk | hk
  · exact rm0_0 l Z a0 hw ws p1 p2 p3 p4 p5 p6 h0 n0 Z0 Od0 hk
  · exact rm0_1 l Z a0 hw ws p1 p2 p3 p4 p5 p6 h0 n0 Z0 Od0 hk
  · exact rm0_2 l Z a0 hw ws p1 p2 p3 p4 p5 p6 h0 n0 Z0 Od0 hk
  · exact rm0_3 l Z a0 hw ws p1 p2 p3 p4 p5 p6 h0 n0 Z0 Od0 hk
theorem comes_1 {Post : Tables → Env → Array Value → State → Outcome → State → Prop} (hpost : ∀ tb e args s v u, (limb_1_1.after args s (.returned v) u = true ∧ limb_1_2.after args s (.returned v) u = true ∧ True) → FrameEnd s (.returned v) u (Jvm.fieldLocs frame_1_writes args s ++ Jvm.arrayLocs frame_1_arrays args s ++ Jvm.staticLocs frame_1_statics s) 16 128 → Post tb e args s (.returned v) u) :
    ArmFor flags0 classFile x code maxLocals ret World_1 tables_1 room_1 Calls_1 rest_1 Pre_1 Post := by
  intro l hfl _ _ p e ha hc hk s m args below hf hA hF happ hP
  obtain ⟨hcalls, hrest, hpre⟩ := hP
  obtain ⟨-, -, -, hnamed, -, -, -, hat⟩ := (Spec.applies_iff hf).mp happ
  obtain ⟨hg, hn⟩ := and_e (Cond.before_iff.mp (show (Jvm.Cond.and given_1 narrow_1).before args s = true from hpre))
  obtain ⟨hg0, hr0⟩ := and_e hg
  obtain ⟨hg1, hr1⟩ := and_e hr0
  obtain ⟨hg2, hr2⟩ := and_e hr1
  obtain ⟨hg3, hr3⟩ := and_e hr2
  obtain ⟨hg4, hr4⟩ := and_e hr3
  obtain ⟨hg5, hr5⟩ := and_e hr4
  obtain ⟨w0, w1, w2, w3, w4, w5, rfl⟩ : ∃ w0 w1 w2 w3 w4 w5 : Value, args = #[w0, w1, w2, w3, w4, w5] := by
    have hs : args.size = 6 := by simpa [Cond.value, given_1] using hg0
    obtain ⟨L⟩ := args
    match L, hs with
    | [w0, w1, w2, w3, w4, w5], _ => exact ⟨w0, w1, w2, w3, w4, w5, rfl⟩
  have hw := fun d (hd : d ∈ tables_1) => atoms_spec (ws := Jvm.Cond.code x code maxLocals ret :: tables_1) hat d (List.mem_cons_of_mem _ hd)
  have hfit : Fit s := fun {y c} hc i hi => by
    obtain ⟨ha, rfl⟩ := Array.getElem?_eq_some_iff.mp hc
    have q := List.all_eq_true.mp ((Array.all_eq_true_iff_forall_mem.mp hF) _ (Array.getElem_mem ha)) i (List.mem_range.mpr hi)
    simpa [Array.getElem?_eq_getElem hi] using q
  obtain ⟨p1, ei0⟩ := is_v hg1
  obtain rfl : w0 = (.int p1) := Option.some.inj ei0
  obtain ⟨p2, ei1⟩ := isL_v hg2
  obtain rfl : w1 = (.long p2) := Option.some.inj ei1
  obtain ⟨p3, ei2⟩ := isL_v hg3
  obtain rfl : w2 = (.long p3) := Option.some.inj ei2
  obtain ⟨p4, ei3⟩ := isL_v hg4
  obtain rfl : w3 = (.long p4) := Option.some.inj ei3
  obtain ⟨p5, ei4⟩ := is_v hg5
  obtain rfl : w4 = (.int p5) := Option.some.inj ei4
  obtain ⟨p6, ei5⟩ := is_v hr5
  obtain rfl : w5 = (.int p6) := Option.some.inj ei5
  obtain ⟨n, o, h1, h2, h3, _, L, rfl, ⟨rfl, N⟩, hq⟩ := rm0 l s _ hw tables_1 p1 p2 p3 p4 p5 p6 s.heap s.heap.size (Nat.le_refl _) (Old.start s) p e ha hc hk s m _ below hf ((Spec.applies_iff_loose hf).mp happ).1 ⟨rfl, State.Warmed39.refl s, rfl⟩ trivial
  refine ⟨n, _, h1, h2, h3, hpost _ _ _ _ _ _ ⟨Cond.after_iff.mpr rfl, Cond.after_iff.mpr (eq_i res_at (Term.int_eval (1)) rfl), trivial⟩ ⟨hq.1, hq.2.1, (hq.2.2.sift fun y hy => Or.inr (N y hy)).mono (by decide) (by decide)⟩⟩
theorem main_1_1 : Claimed_1_1 := comes_1 fun _ _ _ _ _ _ h hF => ⟨h.1, hF⟩
theorem main_1_2 : Claimed_1_2 := comes_1 fun _ _ _ _ _ _ h hF => ⟨h.2.1, hF⟩
end Jvm.Pilot.@@N@@
namespace Jvm.Pilot.@@N@@
open Jvm Jvm.ClassFile Sem Op Lib Jvm.Free Jvm.Stand Jvm.Pilot.@@N@@.Jvm.D
/-! MADE BY PROGRAM (witnessworld.py) out of the Statement's table words and the real class files: 16 classes; the members and pool entries that the words name. The judged class is class 1, her method 1. -/
namespace start1
open Jvm.ClassFile
def u (s : String) : CpInfo := .utf8 (stringToUtf16 s)
/-- a pool by its gaps: so many unusable entries, then the entry; so many at the end -/
def gap : Nat → List CpInfo → List CpInfo
  | 0, r => r
  | n + 1, r => .unusable :: gap n r
def poolList (es : List (Nat × CpInfo)) (last : Nat) : List CpInfo := es.foldr (fun e r => gap e.1 (e.2 :: r)) (gap last [])
def pool (es : List (Nat × CpInfo)) (last : Nat) : Array CpInfo := ⟨poolList es last⟩
def fileOf (pool : Array CpInfo) (this : Nat) (attrs : Array Attribute := #[]) (ms : Array MethodInfo := #[]) (fl : Nat := 33) (sup : Nat := 0) (ifs : Array Nat := #[]) (fds : Array FieldInfo := #[]) : ClassFile where
  minorVersion := 0
  majorVersion := 65
  constantPool := pool
  accessFlags := fl
  thisClass := this
  superClass := sup
  interfaces := ifs
  fields := fds
  methods := ms
  attributes := attrs
def plain (name : String) (sup : Option ClassId) : Class where
  name := name
  kind := .ordinary
  loader := none
  accessFlags := 33
  super := sup
  interfaces := #[]
  cf := none
  fields := #[]
  methods := #[]
  instanceTypes := #[]
  staticTypes := #[]
  resolved := #[]
  callSites := []
  init := .initialized
  statics := none
  mirror := none

def pool0 : Array CpInfo := pool [(5, u "<init>"), (0, u "()V"), (1, .class_ 10), (1, u "java/lang/Object")] 113

def k0c0 : Code := { maxStack := 0, maxLocals := 1, code := object_method_1_code, exceptionTable := #[], attributes := #[] }
def k0m0 : Method := { name := "<init>", desc := "()V", sig := { parameters := [], returnType := none }, accessFlags := 1, code := some k0c0 }
/-- java/lang/Object -/
def k0 : Class := { plain "java/lang/Object" none with
  accessFlags := 33
  interfaces := #[]
  cf := some (fileOf pool0 8 #[] #[{ accessFlags := 1, nameIndex := 5, descriptorIndex := 6, attributes := #[] }] 33 0 #[] #[])
  fields := #[]
  methods := #[k0m0]
  instanceTypes := #[]
  staticTypes := #[]
  resolved := Array.replicate 124 none
  statics := none }

def pool1 : Array CpInfo := pool [(2, .class_ 4), (1, u "java/lang/Object"), (0, u "<init>"), (0, u "()V"), (0, .methodref 8 9), (0, .class_ 10), (0, .nameAndType 11 12), (0, u "com/example/senret/senret/RankedSentence"), (0, u "asRead"), (0, u "(J)F"), (0, .class_ 14), (0, u "com/example/senret/senret/TopSentences"), (0, .methodref 13 16), (0, .nameAndType 5 17), (0, u "(I)V"), (0, .methodref 13 19), (0, .nameAndType 20 21), (0, u "lowestAdmitted"), (0, u "()F"), (2, .float 4286578688), (0, .methodref 13 26), (0, .nameAndType 27 28), (0, u "offer"), (0, u "(JI)V"), (0, .methodref 30 31), (0, .class_ 32), (0, .nameAndType 33 34), (0, u "com/example/senret/senret/TopSentencesLowestAdmittedPinLaw"), (0, u "expected"), (0, u "(IIFFF)F"), (0, .methodref 30 36), (0, .nameAndType 37 38), (0, u "max2"), (0, u "(FF)F"), (0, .methodref 30 40), (0, .nameAndType 41 38), (0, u "min2"), (0, .methodref 30 43), (0, .nameAndType 44 45), (0, u "median"), (0, u "(FFF)F"), (2, u "law"), (0, u "(IJJJII)Z")] 3

def k1m0 : Method := { name := "<init>", desc := "()V", sig := { parameters := [], returnType := none }, accessFlags := 2, code := none }
def k1c1 : Code := { maxStack := 6, maxLocals := 16, code := code, exceptionTable := #[], attributes := #[] }
def k1m1 : Method := { name := "law", desc := "(IJJJII)Z", sig := { parameters := [.int, .long, .long, .long, .int, .int], returnType := some .boolean }, accessFlags := 9, code := some k1c1 }
def k1c2 : Code := { maxStack := 3, maxLocals := 5, code := method_3_code, exceptionTable := #[], attributes := #[] }
def k1m2 : Method := { name := "expected", desc := "(IIFFF)F", sig := { parameters := [.int, .int, .float, .float, .float], returnType := some .float }, accessFlags := 10, code := some k1c2 }
def k1c3 : Code := { maxStack := 2, maxLocals := 2, code := method_4_code, exceptionTable := #[], attributes := #[] }
def k1m3 : Method := { name := "max2", desc := "(FF)F", sig := { parameters := [.float, .float], returnType := some .float }, accessFlags := 10, code := some k1c3 }
def k1c4 : Code := { maxStack := 2, maxLocals := 2, code := method_5_code, exceptionTable := #[], attributes := #[] }
def k1m4 : Method := { name := "min2", desc := "(FF)F", sig := { parameters := [.float, .float], returnType := some .float }, accessFlags := 10, code := some k1c4 }
def k1c5 : Code := { maxStack := 2, maxLocals := 3, code := method_6_code, exceptionTable := #[], attributes := #[] }
def k1m5 : Method := { name := "median", desc := "(FFF)F", sig := { parameters := [.float, .float, .float], returnType := some .float }, accessFlags := 10, code := some k1c5 }
/-- com/example/senret/senret/TopSentencesLowestAdmittedPinLaw -/
def k1 : Class := { plain "com/example/senret/senret/TopSentencesLowestAdmittedPinLaw" (some 0) with
  accessFlags := 49
  interfaces := #[]
  cf := some (fileOf pool1 30 #[] #[{ accessFlags := 2, nameIndex := 5, descriptorIndex := 6, attributes := #[] }, { accessFlags := 9, nameIndex := 48, descriptorIndex := 49, attributes := #[] }, { accessFlags := 10, nameIndex := 33, descriptorIndex := 34, attributes := #[] }, { accessFlags := 10, nameIndex := 37, descriptorIndex := 38, attributes := #[] }, { accessFlags := 10, nameIndex := 41, descriptorIndex := 38, attributes := #[] }, { accessFlags := 10, nameIndex := 44, descriptorIndex := 45, attributes := #[] }] 49 2 #[] #[])
  fields := #[]
  methods := #[k1m0, k1m1, k1m2, k1m3, k1m4, k1m5]
  instanceTypes := #[]
  staticTypes := #[]
  resolved := Array.replicate 53 none
  statics := none }

def pool2 : Array CpInfo := pool [(2, .class_ 4), (1, u "java/lang/Object"), (0, u "<init>"), (0, u "()V"), (0, .class_ 8), (0, u "java/lang/Record")] 13

def k2m0 : Method := { name := "<init>", desc := "()V", sig := { parameters := [], returnType := none }, accessFlags := 4, code := none }
/-- java/lang/Record -/
def k2 : Class := { plain "java/lang/Record" (some 0) with
  accessFlags := 1057
  interfaces := #[]
  cf := some (fileOf pool2 7 #[] #[{ accessFlags := 4, nameIndex := 5, descriptorIndex := 6, attributes := #[] }] 1057 2 #[] #[])
  fields := #[]
  methods := #[k2m0]
  instanceTypes := #[]
  staticTypes := #[]
  resolved := Array.replicate 22 none
  statics := none }

def pool3 : Array CpInfo := pool [(2, .class_ 4), (1, u "java/lang/Record"), (3, .class_ 10), (1, u "com/example/senret/senret/RankedSentence"), (0, u "id"), (0, u "Ljava/lang/String;"), (2, u "score"), (0, u "J"), (15, .double 4696837146684686336), (40, u "asRead"), (0, u "(J)F"), (23, u "BEST_FIRST"), (0, u "Ljava/util/Comparator;"), (0, u "MILLIONTHS"), (0, u "D")] 59

def k3c0 : Code := { maxStack := 4, maxLocals := 2, code := prog_20_method_3_code, exceptionTable := #[], attributes := #[] }
def k3m0 : Method := { name := "asRead", desc := "(J)F", sig := { parameters := [.long], returnType := some .float }, accessFlags := 8, code := some k3c0 }
/-- com/example/senret/senret/RankedSentence -/
def k3 : Class := { plain "com/example/senret/senret/RankedSentence" (some 2) with
  accessFlags := 48
  interfaces := #[]
  cf := some (fileOf pool3 8 #[] #[{ accessFlags := 8, nameIndex := 73, descriptorIndex := 74, attributes := #[] }] 48 2 #[] #[{ accessFlags := 18, nameIndex := 11, descriptorIndex := 12, attributes := #[] }, { accessFlags := 18, nameIndex := 15, descriptorIndex := 16, attributes := #[] }, { accessFlags := 26, nameIndex := 100, descriptorIndex := 101, attributes := #[] }, { accessFlags := 24, nameIndex := 98, descriptorIndex := 99, attributes := #[] }])
  fields := #[{ name := "id", type := (.object "java/lang/String"), accessFlags := 18, slot := 0, constantValue := 0 }, { name := "score", type := .long, accessFlags := 18, slot := 1, constantValue := 0 }, { name := "MILLIONTHS", type := .double, accessFlags := 26, slot := 0, constantValue := 0 }, { name := "BEST_FIRST", type := (.object "java/util/Comparator"), accessFlags := 24, slot := 1, constantValue := 0 }]
  methods := #[k3m0]
  instanceTypes := #[(.object "java/lang/String"), .long]
  staticTypes := #[.double, (.object "java/util/Comparator")]
  resolved := Array.replicate 161 none
  statics := none }

def pool4 : Array CpInfo := pool [(1, .methodref 2 3), (0, .class_ 4), (0, .nameAndType 5 6), (0, u "java/lang/Object"), (0, u "<init>"), (0, u "()V"), (0, .fieldref 8 9), (0, .class_ 10), (0, .nameAndType 11 12), (0, u "com/example/senret/senret/TopSentences"), (0, u "depth"), (0, u "I"), (0, .methodref 14 15), (0, .class_ 16), (0, .nameAndType 17 18), (0, u "java/lang/Math"), (0, u "min"), (0, u "(II)I"), (0, .fieldref 8 20), (0, .nameAndType 21 22), (0, u "scoresAsRead"), (0, u "[F"), (0, .fieldref 8 24), (0, .nameAndType 25 26), (0, u "scores"), (0, u "[J"), (0, .fieldref 8 28), (0, .nameAndType 29 30), (0, u "ordinals"), (0, u "[I"), (0, .methodref 32 33), (0, .class_ 34), (0, .nameAndType 35 36), (0, u "com/example/senret/senret/RankedSentence"), (0, u "asRead"), (0, u "(J)F"), (2, u "lowestAdmitted"), (0, u "()F"), (0, .fieldref 8 42), (0, .nameAndType 43 12), (0, u "size"), (2, .float 4286578688), (0, .methodref 8 48), (0, .nameAndType 49 6), (0, u "grow"), (0, .methodref 8 51), (0, .nameAndType 52 53), (0, u "siftUp"), (0, u "(IFJI)V"), (0, .methodref 8 55), (0, .nameAndType 56 57), (0, u "isWorse"), (0, u "(FIFI)Z"), (0, .methodref 8 59), (0, .nameAndType 60 61), (0, u "siftDown"), (0, u "(FJI)V"), (4, u "(I)V"), (0, .class_ 68), (0, u "com/example/senret/senret/TopSentences$Entry"), (2, u "(JI)V"), (6, .long 2), (16, .methodref 8 96), (0, .nameAndType 97 98), (0, u "move"), (0, u "(II)V"), (0, .methodref 8 100), (0, .nameAndType 101 53), (0, u "put"), (5, u "offer")] 9

def k4c0 : Code := { maxStack := 2, maxLocals := 3, code := prog_25_method_1_code, exceptionTable := #[], attributes := #[] }
def k4m0 : Method := { name := "<init>", desc := "(I)V", sig := { parameters := [.int], returnType := none }, accessFlags := 0, code := some k4c0 }
def k4c1 : Code := { maxStack := 2, maxLocals := 1, code := prog_25_method_3_code, exceptionTable := #[], attributes := #[] }
def k4m1 : Method := { name := "lowestAdmitted", desc := "()F", sig := { parameters := [], returnType := some .float }, accessFlags := 0, code := some k4c1 }
def k4c2 : Code := { maxStack := 6, maxLocals := 5, code := prog_25_method_4_code, exceptionTable := #[], attributes := #[] }
def k4m2 : Method := { name := "offer", desc := "(JI)V", sig := { parameters := [.long, .int], returnType := none }, accessFlags := 0, code := some k4c2 }
def k4c3 : Code := { maxStack := 2, maxLocals := 4, code := prog_25_method_6_code, exceptionTable := #[], attributes := #[] }
def k4m3 : Method := { name := "isWorse", desc := "(FIFI)Z", sig := { parameters := [.float, .int, .float, .int], returnType := some .boolean }, accessFlags := 10, code := some k4c3 }
def k4c4 : Code := { maxStack := 6, maxLocals := 2, code := prog_25_method_7_code, exceptionTable := #[], attributes := #[] }
def k4m4 : Method := { name := "grow", desc := "()V", sig := { parameters := [], returnType := none }, accessFlags := 2, code := some k4c4 }
def k4c5 : Code := { maxStack := 6, maxLocals := 8, code := prog_25_method_8_code, exceptionTable := #[], attributes := #[] }
def k4m5 : Method := { name := "siftUp", desc := "(IFJI)V", sig := { parameters := [.int, .float, .long, .int], returnType := none }, accessFlags := 2, code := some k4c5 }
def k4c6 : Code := { maxStack := 6, maxLocals := 7, code := prog_25_method_9_code, exceptionTable := #[], attributes := #[] }
def k4m6 : Method := { name := "siftDown", desc := "(FJI)V", sig := { parameters := [.float, .long, .int], returnType := none }, accessFlags := 2, code := some k4c6 }
def k4c7 : Code := { maxStack := 7, maxLocals := 3, code := prog_25_method_10_code, exceptionTable := #[], attributes := #[] }
def k4m7 : Method := { name := "move", desc := "(II)V", sig := { parameters := [.int, .int], returnType := none }, accessFlags := 2, code := some k4c7 }
def k4c8 : Code := { maxStack := 4, maxLocals := 6, code := prog_25_method_11_code, exceptionTable := #[], attributes := #[] }
def k4m8 : Method := { name := "put", desc := "(IFJI)V", sig := { parameters := [.int, .float, .long, .int], returnType := none }, accessFlags := 2, code := some k4c8 }
/-- com/example/senret/senret/TopSentences -/
def k4 : Class := { plain "com/example/senret/senret/TopSentences" (some 0) with
  accessFlags := 48
  interfaces := #[]
  cf := some (fileOf pool4 8 #[.nestMembers #[67]] #[{ accessFlags := 0, nameIndex := 5, descriptorIndex := 66, attributes := #[] }, { accessFlags := 0, nameIndex := 39, descriptorIndex := 40, attributes := #[] }, { accessFlags := 0, nameIndex := 107, descriptorIndex := 71, attributes := #[] }, { accessFlags := 10, nameIndex := 56, descriptorIndex := 57, attributes := #[] }, { accessFlags := 2, nameIndex := 49, descriptorIndex := 6, attributes := #[] }, { accessFlags := 2, nameIndex := 52, descriptorIndex := 53, attributes := #[] }, { accessFlags := 2, nameIndex := 60, descriptorIndex := 61, attributes := #[] }, { accessFlags := 2, nameIndex := 97, descriptorIndex := 98, attributes := #[] }, { accessFlags := 2, nameIndex := 101, descriptorIndex := 53, attributes := #[] }] 48 2 #[] #[{ accessFlags := 18, nameIndex := 11, descriptorIndex := 12, attributes := #[] }, { accessFlags := 2, nameIndex := 21, descriptorIndex := 22, attributes := #[] }, { accessFlags := 2, nameIndex := 25, descriptorIndex := 26, attributes := #[] }, { accessFlags := 2, nameIndex := 29, descriptorIndex := 30, attributes := #[] }, { accessFlags := 2, nameIndex := 43, descriptorIndex := 12, attributes := #[] }])
  fields := #[{ name := "depth", type := .int, accessFlags := 18, slot := 0, constantValue := 0 }, { name := "scoresAsRead", type := (.array .float), accessFlags := 2, slot := 1, constantValue := 0 }, { name := "scores", type := (.array .long), accessFlags := 2, slot := 2, constantValue := 0 }, { name := "ordinals", type := (.array .int), accessFlags := 2, slot := 3, constantValue := 0 }, { name := "size", type := .int, accessFlags := 2, slot := 4, constantValue := 0 }]
  methods := #[k4m0, k4m1, k4m2, k4m3, k4m4, k4m5, k4m6, k4m7, k4m8]
  instanceTypes := #[.int, (.array .float), (.array .long), (.array .int), .int]
  staticTypes := #[]
  resolved := Array.replicate 117 none
  statics := none }

def pool5 : Array CpInfo := pool [(1, .class_ 2), (0, u "java/lang/Math"), (1, .class_ 6), (1, u "java/lang/Object"), (0, u "<init>"), (0, u "()V"), (89, .class_ 100), (1, u "java/lang/Math$RandomNumberGeneratorHolder"), (71, u "negativeZeroFloatBits"), (0, u "J"), (2, u "negativeZeroDoubleBits"), (24, u "min"), (43, u "$assertionsDisabled"), (0, u "Z"), (88, u "(II)I"), (2, u "twoToTheDoubleScaleDown"), (0, u "D"), (4, u "twoToTheDoubleScaleUp"), (9, u "E"), (3, u "PI"), (2, u "TAU"), (2, u "DEGREES_TO_RADIANS"), (0, u "RADIANS_TO_DEGREES")] 94

def k5m0 : Method := { name := "<init>", desc := "()V", sig := { parameters := [], returnType := none }, accessFlags := 2, code := none }
def k5c1 : Code := { maxStack := 2, maxLocals := 2, code := jdk_29_method_69_code, exceptionTable := #[], attributes := #[] }
def k5m1 : Method := { name := "min", desc := "(II)I", sig := { parameters := [.int, .int], returnType := some .int }, accessFlags := 9, code := some k5c1 }
/-- java/lang/Math -/
def k5 : Class := { plain "java/lang/Math" (some 0) with
  accessFlags := 49
  interfaces := #[]
  cf := some (fileOf pool5 1 #[.nestMembers #[98]] #[{ accessFlags := 2, nameIndex := 7, descriptorIndex := 8, attributes := #[] }, { accessFlags := 9, nameIndex := 201, descriptorIndex := 335, attributes := #[] }] 49 4 #[] #[{ accessFlags := 25, nameIndex := 354, descriptorIndex := 339, attributes := #[] }, { accessFlags := 25, nameIndex := 358, descriptorIndex := 339, attributes := #[] }, { accessFlags := 25, nameIndex := 361, descriptorIndex := 339, attributes := #[] }, { accessFlags := 26, nameIndex := 364, descriptorIndex := 339, attributes := #[] }, { accessFlags := 26, nameIndex := 365, descriptorIndex := 339, attributes := #[] }, { accessFlags := 26, nameIndex := 172, descriptorIndex := 173, attributes := #[] }, { accessFlags := 26, nameIndex := 176, descriptorIndex := 173, attributes := #[] }, { accessFlags := 8, nameIndex := 344, descriptorIndex := 339, attributes := #[] }, { accessFlags := 8, nameIndex := 338, descriptorIndex := 339, attributes := #[] }, { accessFlags := 4120, nameIndex := 245, descriptorIndex := 246, attributes := #[] }])
  fields := #[{ name := "E", type := .double, accessFlags := 25, slot := 0, constantValue := 0 }, { name := "PI", type := .double, accessFlags := 25, slot := 1, constantValue := 0 }, { name := "TAU", type := .double, accessFlags := 25, slot := 2, constantValue := 0 }, { name := "DEGREES_TO_RADIANS", type := .double, accessFlags := 26, slot := 3, constantValue := 0 }, { name := "RADIANS_TO_DEGREES", type := .double, accessFlags := 26, slot := 4, constantValue := 0 }, { name := "negativeZeroFloatBits", type := .long, accessFlags := 26, slot := 5, constantValue := 0 }, { name := "negativeZeroDoubleBits", type := .long, accessFlags := 26, slot := 6, constantValue := 0 }, { name := "twoToTheDoubleScaleUp", type := .double, accessFlags := 8, slot := 7, constantValue := 0 }, { name := "twoToTheDoubleScaleDown", type := .double, accessFlags := 8, slot := 8, constantValue := 0 }, { name := "$assertionsDisabled", type := .boolean, accessFlags := 4120, slot := 9, constantValue := 0 }]
  methods := #[k5m0, k5m1]
  instanceTypes := #[]
  staticTypes := #[.double, .double, .double, .double, .double, .long, .long, .double, .double, .boolean]
  resolved := Array.replicate 460 none
  statics := none }

def pool6 : Array CpInfo := pool [(1, u "java/lang/Cloneable"), (0, .class_ 1), (0, u "java/lang/Object"), (0, .class_ 3)] 3

/-- java/lang/Cloneable -/
def k6 : Class := { plain "java/lang/Cloneable" (some 0) with
  accessFlags := 1537
  interfaces := #[]
  cf := some (fileOf pool6 2 #[] #[] 1537 4 #[] #[])
  fields := #[]
  methods := #[]
  instanceTypes := #[]
  staticTypes := #[]
  resolved := Array.replicate 8 none
  statics := none }

def pool7 : Array CpInfo := pool [(1, u "java/io/Serializable"), (0, .class_ 1), (0, u "java/lang/Object"), (0, .class_ 3)] 3

/-- java/io/Serializable -/
def k7 : Class := { plain "java/io/Serializable" (some 0) with
  accessFlags := 1537
  interfaces := #[]
  cf := some (fileOf pool7 2 #[] #[] 1537 4 #[] #[])
  fields := #[]
  methods := #[]
  instanceTypes := #[]
  staticTypes := #[]
  resolved := Array.replicate 8 none
  statics := none }

/-- the primitive byte -/
def k8 : Class := { plain "byte" none with kind := .primitive 'B', accessFlags := 0x411 }
/-- [B -/
def k9 : Class := { plain "[B" (some 0) with kind := .array 8 .byte, interfaces := #[6, 7], accessFlags := 1041 }

/-- the primitive float -/
def k10 : Class := { plain "float" none with kind := .primitive 'F', accessFlags := 0x411 }
/-- [F -/
def k11 : Class := { plain "[F" (some 0) with kind := .array 10 .float, interfaces := #[6, 7], accessFlags := 1041 }

/-- the primitive int -/
def k12 : Class := { plain "int" none with kind := .primitive 'I', accessFlags := 0x411 }
/-- [I -/
def k13 : Class := { plain "[I" (some 0) with kind := .array 12 .int, interfaces := #[6, 7], accessFlags := 1041 }

/-- the primitive long -/
def k14 : Class := { plain "long" none with kind := .primitive 'J', accessFlags := 0x411 }
/-- [J -/
def k15 : Class := { plain "[J" (some 0) with kind := .array 14 .long, interfaces := #[6, 7], accessFlags := 1041 }

def heap : Heap := #[]
def classes : Array Class := #[k0, k1, k2, k3, k4, k5, k6, k7, k8, k9, k10, k11, k12, k13, k14, k15]
def interned : List (Array UInt16 × Addr) := []
def slotsUsed : Nat := 0
def theMethod : MethodId := ⟨1, 1⟩
def args0 : Array Value := #[.int 5, .long 6, .long 7, .long 8, .int 9, .int 4]
def aboutOver (below : List Frame) : State where
  vm := { classes := classes, interned := interned.toArray }
  heap := heap
  slotsUsed := slotsUsed
  threads := #[{ frames := .invoking theMethod args0 :: below }]
def below0 : List Frame := [.native { method := ⟨0, 0⟩, args := #[] }]
def about1 : State := aboutOver below0
def p0 : Program := .bare "" "" ""
def e0 : Env := launch0.env 0 0 0
theorem w_frames : about1.frames = Frame.invoking theMethod args0 :: below0 := rfl
set_option maxRecDepth 65536 in
theorem w_args : argsFit about1.vm theMethod args0 = true := by decide +kernel
set_option maxRecDepth 65536 in
theorem w_heap : heapFits about1 = true := by decide +kernel
set_option maxRecDepth 65536 in
theorem w_runnable : about1.curStatus? = some .runnable := by decide +kernel
set_option maxRecDepth 65536 in
theorem w_alone : about1.alone = true := by decide +kernel
set_option maxRecDepth 65536 in
theorem w_named : about1.methodNamed? x = some theMethod := by decide +kernel
set_option maxRecDepth 65536 in
theorem w_hears : about1.hears theMethod below0 = true := by decide +kernel
set_option maxRecDepth 65536 in
theorem w_ripe : about1.ripe theMethod args0 below0 = true := by decide +kernel
theorem w_running : about1.status = .running := rfl
set_option maxRecDepth 65536 in
theorem w_room : about1.hasRoom e0.platform room_1 = true :=
  launch0.hasRoom_least _ room_1 (by decide +kernel) (by decide +kernel) (by decide +kernel) (by decide +kernel) (by decide +kernel) (by decide +kernel)
theorem allAtoms_all (ts : List Jvm.Cond) (a : Array Jvm.Value) (st : Jvm.State) : (allAtoms ts).before a st = ts.all (fun c => c.before a st) := by
  induction ts with
  | nil => rfl
  | cons c t ih =>
    show (Jvm.Cond.and c (allAtoms t)).before a st = _
    rw [Jvm.Cond.before_and, ih, List.all_cons]
def words1 : List Jvm.Cond := Jvm.Cond.code x code maxLocals ret :: tables_1
/-- a 'code' word, met by the world's own term for the bytes: nothing is compared byte by byte -/
theorem code_word {y : MethodName} {bytes : ByteArray} {mx : Nat} {rt : Option FieldType} {a : Array Value} {s : State} {m : MethodId} {meth : Method} {c : Code} (h1 : s.methodNamed? y = some m) (h2 : s.vm.method? m = some meth) (h3 : meth.code = some c) (h4 : c.code = bytes)
    (h5 : (c.maxLocals == mx && c.exceptionTable.isEmpty && decide (c.maxStack ≤ mostOperands) && decide (meth.sig.returnType = rt) && !meth.locks && decide (parseMethodDescriptor y.desc = some meth.sig)) = true) : (Jvm.Cond.code y bytes mx rt).before a s = true := by
  simp only [Bool.and_eq_true, beq_iff_eq, Bool.not_eq_true', decide_eq_true_eq] at h5
  obtain ⟨⟨⟨⟨⟨g1, g2⟩, g3⟩, g4⟩, g5⟩, g6⟩ := h5
  simp [Cond.before, Cond.holds, Cond.value, h1, h2, h3, h4, g1, g2, g3, g4, g5, g6]
def isCode : Jvm.Cond → Bool
  | .code _ _ _ _ => true
  | _ => false
theorem all_split {L : List Jvm.Cond} {P : Jvm.Cond → Bool} (h1 : L.all (fun c => isCode c || P c) = true) (h2 : ∀ c ∈ L.filter isCode, P c = true) : L.all P = true := by
  refine List.all_eq_true.mpr fun c hc => ?_
  have h := List.all_eq_true.mp h1 c hc
  rcases Bool.eq_false_or_eq_true (isCode c) with hi | hi
  · exact h2 c (List.mem_filter.mpr ⟨hc, hi⟩)
  · simpa [hi] using h
set_option maxRecDepth 65536 in
theorem w_c0 : (Jvm.Cond.code x code maxLocals ret).before args0 about1 = true := code_word (m := ⟨1, 1⟩) (meth := k1m1) (c := k1c1) (by decide +kernel) rfl rfl rfl (by decide +kernel)
set_option maxRecDepth 65536 in
theorem w_c1 : (Jvm.Cond.code ({ cls := "com/example/senret/senret/RankedSentence", name := "asRead", desc := "(J)F" } : Jvm.MethodName) prog_20_method_3_code (2 : Nat) (Option.some Jvm.ClassFile.FieldType.float)).before args0 about1 = true := code_word (m := ⟨3, 0⟩) (meth := k3m0) (c := k3c0) (by decide +kernel) rfl rfl rfl (by decide +kernel)
set_option maxRecDepth 65536 in
theorem w_c2 : (Jvm.Cond.code ({ cls := "com/example/senret/senret/TopSentences", name := "<init>", desc := "(I)V" } : Jvm.MethodName) prog_25_method_1_code (3 : Nat) (Option.none : Option Jvm.ClassFile.FieldType)).before args0 about1 = true := code_word (m := ⟨4, 0⟩) (meth := k4m0) (c := k4c0) (by decide +kernel) rfl rfl rfl (by decide +kernel)
set_option maxRecDepth 65536 in
theorem w_c3 : (Jvm.Cond.code ({ cls := "java/lang/Object", name := "<init>", desc := "()V" } : Jvm.MethodName) object_method_1_code (1 : Nat) (Option.none : Option Jvm.ClassFile.FieldType)).before args0 about1 = true := code_word (m := ⟨0, 0⟩) (meth := k0m0) (c := k0c0) (by decide +kernel) rfl rfl rfl (by decide +kernel)
set_option maxRecDepth 65536 in
theorem w_c4 : (Jvm.Cond.code ({ cls := "java/lang/Math", name := "min", desc := "(II)I" } : Jvm.MethodName) jdk_29_method_69_code (2 : Nat) (Option.some Jvm.ClassFile.FieldType.int)).before args0 about1 = true := code_word (m := ⟨5, 1⟩) (meth := k5m1) (c := k5c1) (by decide +kernel) rfl rfl rfl (by decide +kernel)
set_option maxRecDepth 65536 in
theorem w_c5 : (Jvm.Cond.code ({ cls := "com/example/senret/senret/TopSentences", name := "lowestAdmitted", desc := "()F" } : Jvm.MethodName) prog_25_method_3_code (1 : Nat) (Option.some Jvm.ClassFile.FieldType.float)).before args0 about1 = true := code_word (m := ⟨4, 1⟩) (meth := k4m1) (c := k4c1) (by decide +kernel) rfl rfl rfl (by decide +kernel)
set_option maxRecDepth 65536 in
theorem w_c6 : (Jvm.Cond.code ({ cls := "com/example/senret/senret/TopSentences", name := "offer", desc := "(JI)V" } : Jvm.MethodName) prog_25_method_4_code (5 : Nat) (Option.none : Option Jvm.ClassFile.FieldType)).before args0 about1 = true := code_word (m := ⟨4, 2⟩) (meth := k4m2) (c := k4c2) (by decide +kernel) rfl rfl rfl (by decide +kernel)
set_option maxRecDepth 65536 in
theorem w_c7 : (Jvm.Cond.code ({ cls := "com/example/senret/senret/TopSentences", name := "grow", desc := "()V" } : Jvm.MethodName) prog_25_method_7_code (2 : Nat) (Option.none : Option Jvm.ClassFile.FieldType)).before args0 about1 = true := code_word (m := ⟨4, 4⟩) (meth := k4m4) (c := k4c4) (by decide +kernel) rfl rfl rfl (by decide +kernel)
set_option maxRecDepth 65536 in
theorem w_c8 : (Jvm.Cond.code ({ cls := "com/example/senret/senret/TopSentences", name := "siftUp", desc := "(IFJI)V" } : Jvm.MethodName) prog_25_method_8_code (8 : Nat) (Option.none : Option Jvm.ClassFile.FieldType)).before args0 about1 = true := code_word (m := ⟨4, 5⟩) (meth := k4m5) (c := k4c5) (by decide +kernel) rfl rfl rfl (by decide +kernel)
set_option maxRecDepth 65536 in
theorem w_c9 : (Jvm.Cond.code ({ cls := "com/example/senret/senret/TopSentences", name := "put", desc := "(IFJI)V" } : Jvm.MethodName) prog_25_method_11_code (6 : Nat) (Option.none : Option Jvm.ClassFile.FieldType)).before args0 about1 = true := code_word (m := ⟨4, 8⟩) (meth := k4m8) (c := k4c8) (by decide +kernel) rfl rfl rfl (by decide +kernel)
set_option maxRecDepth 65536 in
theorem w_c10 : (Jvm.Cond.code ({ cls := "com/example/senret/senret/TopSentencesLowestAdmittedPinLaw", name := "expected", desc := "(IIFFF)F" } : Jvm.MethodName) method_3_code (5 : Nat) (Option.some Jvm.ClassFile.FieldType.float)).before args0 about1 = true := code_word (m := ⟨1, 2⟩) (meth := k1m2) (c := k1c2) (by decide +kernel) rfl rfl rfl (by decide +kernel)
set_option maxRecDepth 65536 in
theorem w_c11 : (Jvm.Cond.code ({ cls := "com/example/senret/senret/TopSentences", name := "isWorse", desc := "(FIFI)Z" } : Jvm.MethodName) prog_25_method_6_code (4 : Nat) (Option.some Jvm.ClassFile.FieldType.boolean)).before args0 about1 = true := code_word (m := ⟨4, 3⟩) (meth := k4m3) (c := k4c3) (by decide +kernel) rfl rfl rfl (by decide +kernel)
set_option maxRecDepth 65536 in
theorem w_c12 : (Jvm.Cond.code ({ cls := "com/example/senret/senret/TopSentencesLowestAdmittedPinLaw", name := "max2", desc := "(FF)F" } : Jvm.MethodName) method_4_code (2 : Nat) (Option.some Jvm.ClassFile.FieldType.float)).before args0 about1 = true := code_word (m := ⟨1, 3⟩) (meth := k1m3) (c := k1c3) (by decide +kernel) rfl rfl rfl (by decide +kernel)
set_option maxRecDepth 65536 in
theorem w_c13 : (Jvm.Cond.code ({ cls := "com/example/senret/senret/TopSentences", name := "move", desc := "(II)V" } : Jvm.MethodName) prog_25_method_10_code (3 : Nat) (Option.none : Option Jvm.ClassFile.FieldType)).before args0 about1 = true := code_word (m := ⟨4, 7⟩) (meth := k4m7) (c := k4c7) (by decide +kernel) rfl rfl rfl (by decide +kernel)
set_option maxRecDepth 65536 in
theorem w_c14 : (Jvm.Cond.code ({ cls := "com/example/senret/senret/TopSentencesLowestAdmittedPinLaw", name := "min2", desc := "(FF)F" } : Jvm.MethodName) method_5_code (2 : Nat) (Option.some Jvm.ClassFile.FieldType.float)).before args0 about1 = true := code_word (m := ⟨1, 4⟩) (meth := k1m4) (c := k1c4) (by decide +kernel) rfl rfl rfl (by decide +kernel)
set_option maxRecDepth 65536 in
theorem w_c15 : (Jvm.Cond.code ({ cls := "com/example/senret/senret/TopSentences", name := "siftDown", desc := "(FJI)V" } : Jvm.MethodName) prog_25_method_9_code (7 : Nat) (Option.none : Option Jvm.ClassFile.FieldType)).before args0 about1 = true := code_word (m := ⟨4, 6⟩) (meth := k4m6) (c := k4c6) (by decide +kernel) rfl rfl rfl (by decide +kernel)
set_option maxRecDepth 65536 in
theorem w_c16 : (Jvm.Cond.code ({ cls := "com/example/senret/senret/TopSentencesLowestAdmittedPinLaw", name := "median", desc := "(FFF)F" } : Jvm.MethodName) method_6_code (3 : Nat) (Option.some Jvm.ClassFile.FieldType.float)).before args0 about1 = true := code_word (m := ⟨1, 5⟩) (meth := k1m5) (c := k1c5) (by decide +kernel) rfl rfl rfl (by decide +kernel)
def codes1 : List Jvm.Cond := [Jvm.Cond.code x code maxLocals ret, Jvm.Cond.code ({ cls := "com/example/senret/senret/RankedSentence", name := "asRead", desc := "(J)F" } : Jvm.MethodName) prog_20_method_3_code (2 : Nat) (Option.some Jvm.ClassFile.FieldType.float), Jvm.Cond.code ({ cls := "com/example/senret/senret/TopSentences", name := "<init>", desc := "(I)V" } : Jvm.MethodName) prog_25_method_1_code (3 : Nat) (Option.none : Option Jvm.ClassFile.FieldType), Jvm.Cond.code ({ cls := "java/lang/Object", name := "<init>", desc := "()V" } : Jvm.MethodName) object_method_1_code (1 : Nat) (Option.none : Option Jvm.ClassFile.FieldType), Jvm.Cond.code ({ cls := "java/lang/Math", name := "min", desc := "(II)I" } : Jvm.MethodName) jdk_29_method_69_code (2 : Nat) (Option.some Jvm.ClassFile.FieldType.int), Jvm.Cond.code ({ cls := "com/example/senret/senret/TopSentences", name := "lowestAdmitted", desc := "()F" } : Jvm.MethodName) prog_25_method_3_code (1 : Nat) (Option.some Jvm.ClassFile.FieldType.float), Jvm.Cond.code ({ cls := "com/example/senret/senret/TopSentences", name := "offer", desc := "(JI)V" } : Jvm.MethodName) prog_25_method_4_code (5 : Nat) (Option.none : Option Jvm.ClassFile.FieldType), Jvm.Cond.code ({ cls := "com/example/senret/senret/TopSentences", name := "grow", desc := "()V" } : Jvm.MethodName) prog_25_method_7_code (2 : Nat) (Option.none : Option Jvm.ClassFile.FieldType), Jvm.Cond.code ({ cls := "com/example/senret/senret/TopSentences", name := "siftUp", desc := "(IFJI)V" } : Jvm.MethodName) prog_25_method_8_code (8 : Nat) (Option.none : Option Jvm.ClassFile.FieldType), Jvm.Cond.code ({ cls := "com/example/senret/senret/TopSentences", name := "put", desc := "(IFJI)V" } : Jvm.MethodName) prog_25_method_11_code (6 : Nat) (Option.none : Option Jvm.ClassFile.FieldType), Jvm.Cond.code ({ cls := "com/example/senret/senret/TopSentencesLowestAdmittedPinLaw", name := "expected", desc := "(IIFFF)F" } : Jvm.MethodName) method_3_code (5 : Nat) (Option.some Jvm.ClassFile.FieldType.float), Jvm.Cond.code ({ cls := "com/example/senret/senret/TopSentences", name := "isWorse", desc := "(FIFI)Z" } : Jvm.MethodName) prog_25_method_6_code (4 : Nat) (Option.some Jvm.ClassFile.FieldType.boolean), Jvm.Cond.code ({ cls := "com/example/senret/senret/TopSentencesLowestAdmittedPinLaw", name := "max2", desc := "(FF)F" } : Jvm.MethodName) method_4_code (2 : Nat) (Option.some Jvm.ClassFile.FieldType.float), Jvm.Cond.code ({ cls := "com/example/senret/senret/TopSentences", name := "move", desc := "(II)V" } : Jvm.MethodName) prog_25_method_10_code (3 : Nat) (Option.none : Option Jvm.ClassFile.FieldType), Jvm.Cond.code ({ cls := "com/example/senret/senret/TopSentencesLowestAdmittedPinLaw", name := "min2", desc := "(FF)F" } : Jvm.MethodName) method_5_code (2 : Nat) (Option.some Jvm.ClassFile.FieldType.float), Jvm.Cond.code ({ cls := "com/example/senret/senret/TopSentences", name := "siftDown", desc := "(FJI)V" } : Jvm.MethodName) prog_25_method_9_code (7 : Nat) (Option.none : Option Jvm.ClassFile.FieldType), Jvm.Cond.code ({ cls := "com/example/senret/senret/TopSentencesLowestAdmittedPinLaw", name := "median", desc := "(FFF)F" } : Jvm.MethodName) method_6_code (3 : Nat) (Option.some Jvm.ClassFile.FieldType.float)]
set_option maxRecDepth 65536 in
theorem codes_eq : words1.filter isCode = codes1 := rfl
theorem w_codes : ∀ c ∈ words1.filter isCode, c.before args0 about1 = true := by
  rw [codes_eq]
  intro c hc
  simp only [codes1, List.mem_cons, List.not_mem_nil, or_false] at hc
  rcases hc with rfl | rfl | rfl | rfl | rfl | rfl | rfl | rfl | rfl | rfl | rfl | rfl | rfl | rfl | rfl | rfl | rfl
  · exact w_c0
  · exact w_c1
  · exact w_c2
  · exact w_c3
  · exact w_c4
  · exact w_c5
  · exact w_c6
  · exact w_c7
  · exact w_c8
  · exact w_c9
  · exact w_c10
  · exact w_c11
  · exact w_c12
  · exact w_c13
  · exact w_c14
  · exact w_c15
  · exact w_c16
set_option maxRecDepth 65536 in
theorem w_t1 : (words1.take 24).all (fun c => isCode c || c.before args0 about1) = true := by decide +kernel
set_option maxRecDepth 65536 in
theorem w_t2 : ((words1.drop 24).take 24).all (fun c => isCode c || c.before args0 about1) = true := by decide +kernel
set_option maxRecDepth 65536 in
theorem w_t3 : (((words1.drop 24).drop 24).take 24).all (fun c => isCode c || c.before args0 about1) = true := by decide +kernel
set_option maxRecDepth 65536 in
theorem w_t4 : (((words1.drop 24).drop 24).drop 24).all (fun c => isCode c || c.before args0 about1) = true := by decide +kernel
theorem w_tables : (allAtoms (Jvm.Cond.code x code maxLocals ret :: tables_1)).before args0 about1 = true := by
  rw [allAtoms_all]
  show words1.all (fun c => c.before args0 about1) = true
  refine all_split ?_ w_codes
  rw [← List.take_append_drop 24 words1, List.all_append, w_t1, ← List.take_append_drop 24 (words1.drop 24), List.all_append, w_t2, ← List.take_append_drop 24 ((words1.drop 24).drop 24), List.all_append, w_t3, w_t4]
  rfl
set_option maxRecDepth 65536 in
theorem w_case : (Jvm.Cond.and given_1 narrow_1).before args0 about1 = true := by decide +kernel
theorem w_applies : (headSpec (Jvm.Cond.code x code maxLocals ret :: tables_1) room_1).applies x e0.platform about1 = true :=
  (Spec.applies_iff w_frames).mpr ⟨w_running, w_runnable, w_alone, w_named, w_hears, w_ripe, w_room, w_tables⟩
theorem atStart : AtStart classFile x code maxLocals ret World_1 tables_1 room_1 Calls_1 rest_1 Pre_1 launch0 p0 e0 about1 theMethod args0 below0 :=
  ⟨lists_1, trivial, launch0.admits_env _ _ _, launch0.least_env, fairChoices_fair.cas, fairChoices_fair.clock, w_frames, w_args, w_heap, w_applies, trivial, trivial, w_case⟩
end start1
theorem witness_1 : WitnessClaimed_1 := ⟨start1.p0, start1.e0, start1.about1, start1.theMethod, start1.args0, start1.below0, start1.atStart⟩
end Jvm.Pilot.@@N@@
