import JvmDerived
import JvmDerived.Pilot.@@N@@Statement
import JvmDerived.Pilot.@@N@@Code
set_option linter.unusedVariables false
set_option linter.unusedSimpArgs false
set_option maxRecDepth 65536
set_option maxHeartbeats 40000000
namespace Jvm.RoadKit
open Sem ClassFile Op Lib Jvm.Stand Jvm.Free Jvm.LawKit
section New
variable {p : Program} {l : Launch} {e : Env} {R : Room} {s : State} {m : MethodId} {args : Array Value} {below : List Frame} {meth : Method} {c : Code} {T : State} {locs : List Loc} {cells slots : Nat}
theorem retI (X : Stand p l e R s m args below meth c T locs cells slots) (hx : p.tables.exec = Jvm.exec) {pc : Nat} {Ls : Array Slot} {z : Int32} {rest : List Value} (hret : meth.sig.returnType = some .int) (hd : decode c.code pc = .ok (.ireturn, 1)) {fs : List Frame}
    (hl : ∀ (f : JFrame) (acts : List Action), f.method = m → f.locked = none → f.entered = [] → (doReturn e (T.setTop f) acts (some (.int z))).1 = T.setFrames fs) : Steps p.tables e below (T.setTop (mkF m pc Ls (.int z :: rest))) (T.setFrames fs) := by
  have hm' : T.vm.method? m = some meth := X.method'
  have hn : narrow .int (.int z) = .int z := rfl
  show Steps p.tables e below (T.setTop { method := m, pc := pc, locals := Ls, stack := _ :: rest, locked := none }) _
  jvm_step X.here [X.here.top, hx, hd, hm', hret, hn]
  first | (intro acts; rw [hl _ acts rfl rfl rfl]) | rw [hl _ _ rfl rfl rfl]
  exact Steps.refl _
end New
/-- a body's contract, written short -/
abbrev OwnMet (l : Launch) (Z : State) (y : MethodName) (bytes : ByteArray) (maxL : Nat) (ret : Option FieldType) (ws : List Cond) (rm : Room) (as' : Array Value) (h0 : Heap) (Q : Option Value → Heap → List Loc → Prop) : Prop :=
  MetFree l y (head1 (Cond.code y bytes maxL ret :: ws) rm) (fun a U => a = as' ∧ Z.Warmed39 U.vm ∧ U.heap = h0) (fun _ _ _ _ _ => True) (fun _ U o U' => ∃ v L, o = .returned v ∧ Q v U'.heap L ∧ FrameEnd U o U' L rm.cells rm.slots)
theorem own_body {l : Launch} {Z : State} {y : MethodName} {bytes : ByteArray} {maxL : Nat} {ret : Option FieldType} {ws : List Cond} {rm : Room} {as' : Array Value} {h0 : Heap} {Q : Option Value → Heap → List Loc → Prop} {L0 : Array Slot} (hp : plainFor y = true) (hef : ∀ m, entryFrame m as' maxL = mkF m 0 L0 [])
    (k : ∀ (p : Program) (e : Env) (s : State) (m : MethodId) (below : List Frame) (meth : Method) (c : Code) (s₁ : State), p.tables.exec = Jvm.exec → c.code = bytes → c.maxLocals = maxL → s.vm.findClass y.cls = some m.cls → meth.name = y.name → meth.sig.returnType = ret → Z.Warmed39 s.vm → Stand p l e rm s m as' below meth c s₁ [] 0 0 → s₁.heap = h0 →
      ∃ (T : State) (L : List Loc) (ce sl : Nat) (v : Option Value), Stand p l e rm s m as' below meth c T L ce sl ∧ (ret = none → v = none) ∧ ce ≤ rm.cells ∧ sl ≤ rm.slots ∧ Q v T.heap L ∧
        ∀ fs, (∀ (f : JFrame) (acts : List Action), f.method = m → f.locked = none → f.entered = [] → (doReturn e (T.setTop f) acts v).1 = T.setFrames fs) → Steps p.tables e below (s₁.setTop (mkF m 0 L0 [])) (T.setFrames fs)) :
    OwnMet l Z y bytes maxL ret ws rm as' h0 Q := by
  refine MetFree.of_bodySF hp hisR ?_
  intro p e s m args below meth c s₁ Bd hml hP hK
  obtain ⟨hargs, hZ, hh⟩ := hP
  subst hargs
  obtain ⟨T, L, ce, sl, v, X, hv, hc, hs, hq, st⟩ := k p e s m below meth c s₁ Bd.exec Bd.bytes hml (findClass_of_methodNamed Bd.named) (name_of_methodNamed Bd.named Bd.method).1 Bd.returns hZ (Stand.of_body Bd) (by rw [← hh, Bd.state]; rfl)
  obtain ⟨fs, hr, hrun, hended, hW, hsame⟩ := X.leave (v := v) (fun h => hv (Bd.returns ▸ h))
  exact ⟨_, _, castTop (hef m) (st fs hr), hrun, hended, v, L, rfl, hq, ⟨_, rfl⟩, hW, hsame.mono hc hs⟩
theorem own_mvNest {Z s : State} {a0 args : Array Value} {own host : String} {index : Nat} {y : MethodName} (hZ : Z.Warmed39 s.vm) (w : (Cond.methodLinkNest own index y host).before a0 Z = true) : (Cond.methodLinkNest own index y host).before args s = true := (Cond.methodLinkNest_wide hZ w :)
section Calls
variable {p : Program} {l : Launch} {e : Env} {R : Room} {s : State} {m : MethodId} {args : Array Value} {below : List Frame} {meth : Method} {c : Code} {T : State} {locs : List Loc} {cells slots : Nat} {Z : State} {a0 : Array Value} {h : Heap}
  {own : String} {index : Nat} {y z : MethodName} {bytes : ByteArray} {maxL : Nat} {ret : Option FieldType} {rm : Room} {as' : Array Value} {Q : Option Value → Heap → List Loc → Prop} {pc : Nat} {Ls : Array Slot} {argsL rest : List Value} {W : Nat}
/-- what a call leaves -/
abbrev OwnCame (p : Program) (l : Launch) (e : Env) (R : Room) (s : State) (m : MethodId) (args : Array Value) (below : List Frame) (meth : Method) (c : Code) (T : State) (locs : List Loc) (cells slots : Nat) (rm : Room) (Q : Option Value → Heap → List Loc → Prop) (pc pc' : Nat) (Ls : Array Slot) (st rest : List Value) : Prop :=
  ∃ (v : Option Value) (T' : State) (L : List Loc), Stand p l e R s m args below meth c T' (locs ++ L) (cells + rm.cells) (slots + rm.slots) ∧ Q v T'.heap L ∧
    ∀ target, Steps p.tables e below (T'.setTop (mkF m pc' Ls (v.toList ++ rest))) target → Steps p.tables e below (T.setTop (mkF m pc Ls st)) target
theorem own_callS (X : Stand p l e R s m args below meth c T locs cells slots) (hx : p.tables.exec = Jvm.exec) (hZ : Z.Warmed39 s.vm) (hown : s.vm.findClass own = some m.cls)
    (w1 : (Cond.methodLink own index y).before a0 Z = true) (w2 : (Cond.static y).before a0 Z = true) (w3 : (Cond.initialized y.cls).before a0 Z = true) (w4 : (Cond.code y bytes maxL ret).before a0 Z = true)
    (hM : OwnMet l Z y bytes maxL ret [] rm as' h Q) (eT : T.heap = h) (hsize : Ls.size = c.maxLocals) (hlen : ∀ sig, parseMethodDescriptor y.desc = some sig → argsL.length = sig.parameters.length) (hd : decode c.code pc = .ok (.invokestatic index, 3))
    (has : argsL.toArray = as' := by rfl) (hW : (rest.map fun v => v.category).sum ≤ W := by exact Nat.le_of_eq rfl) (hf : rm.frames + 1 ≤ R.frames := by decide) (hl : W + (maxL + 11) + rm.locals ≤ R.locals := by decide) (hc : cells + rm.cells ≤ R.cells := by decide) (hs : slots + rm.slots ≤ R.slots := by decide) (hy : y.cls ≠ "java/lang/invoke/MethodHandle" ∧ y.cls ≠ "java/lang/invoke/VarHandle" := by decide) :
    OwnCame p l e R s m args below meth c T locs cells slots rm Q pc (pc + 3) Ls (argsL.reverse ++ rest) rest := by
  obtain ⟨v, vm1, ⟨T', L', c', n'⟩, -, XB, ⟨L, hQ, l1, y1, z1⟩, st⟩ := Jvm.LawKit.callS X hx (y := y) hown (mvT hZ w1) (mvT hZ w2) (mvT hZ w3) (mvT hZ w4) hy (backOf (W := W) hM hZ w4 w3 hf hl) (g := mkF m pc Ls (argsL.reverse ++ rest)) rfl hsize (argsL := argsL) (rest := rest) hlen rfl (by show 2 * 0 + _ ≤ _; omega) hd (fun _ _ => ⟨has, eT, hc, hs⟩)
  dsimp only at XB l1 y1 z1 st hQ
  subst l1 y1 z1
  exact ⟨v, T', L, XB, hQ, st⟩
theorem own_special (X : Stand p l e R s m args below meth c T locs cells slots) (hx : p.tables.exec = Jvm.exec) (hZ : Z.Warmed39 s.vm) (hown : s.vm.findClass own = some m.cls) {a : Addr}
    (w1 : (Cond.methodLink own index y).before a0 Z = true) (w2 : (Cond.instanceMethod y).before a0 Z = true) (w3 : (Cond.initialized y.cls).before a0 Z = true) (w4 : (Cond.code y bytes maxL none).before a0 Z = true)
    (hM : OwnMet l Z y bytes maxL none [] rm as' h Q) (eT : T.heap = h) (hsize : Ls.size = c.maxLocals) (hlen : ∀ sig, parseMethodDescriptor y.desc = some sig → argsL.length = sig.parameters.length) (hd : decode c.code pc = .ok (.invokespecial index, 3))
    (has : (.ref a :: argsL).toArray = as' := by rfl) (hW : (rest.map fun v => v.category).sum ≤ W := by exact Nat.le_of_eq rfl) (hf : rm.frames + 1 ≤ R.frames := by decide) (hl : W + (maxL + 11) + rm.locals ≤ R.locals := by decide) (hc : cells + rm.cells ≤ R.cells := by decide) (hs : slots + rm.slots ≤ R.slots := by decide) (hy : y.cls ≠ "java/lang/invoke/MethodHandle" ∧ y.cls ≠ "java/lang/invoke/VarHandle" := by decide) (hy1 : y.name = "<init>" := by rfl) :
    OwnCame p l e R s m args below meth c T locs cells slots rm Q pc (pc + 3) Ls (argsL.reverse ++ .ref a :: rest) rest := by
  obtain ⟨v, vm1, ⟨T', L', c', n'⟩, -, XB, ⟨L, hQ, l1, y1, z1⟩, st⟩ := X.specialBack hx (y := y) hy1 hown (mvT hZ w1) (mvT hZ w2) (mvT hZ w4) hy (backOf (W := W) hM hZ w4 w3 hf hl) (g := mkF m pc Ls (argsL.reverse ++ .ref a :: rest)) rfl hsize (Steps.refl _) (a := a) (argsL := argsL) (rest := rest) hlen rfl (by show 2 * 0 + _ ≤ _; omega) hd (fun _ _ => ⟨has, eT, hc, hs⟩)
  dsimp only at XB l1 y1 z1 st hQ
  subst l1 y1 z1
  exact ⟨v, T', L, XB, hQ, fun t k => st.trans k⟩
theorem own_virtual (X : Stand p l e R s m args below meth c T locs cells slots) (hx : p.tables.exec = Jvm.exec) (hZ : Z.Warmed39 s.vm) (hown : s.vm.findClass own = some m.cls) {a : Addr} {C : String} (E : Exa Z h a C)
    (w1 : (Cond.methodLink own index y).before a0 Z = true) (w2 : (Cond.declares y).before a0 Z = true) (nf : NotFace s y) (w5 : (Cond.selects C y z).before a0 Z = true) (w6 : (Cond.instanceMethod z).before a0 Z = true) (w3 : (Cond.initialized z.cls).before a0 Z = true) (w4 : (Cond.code z bytes maxL ret).before a0 Z = true)
    (hM : OwnMet l Z z bytes maxL ret [] rm as' h Q) (eT : T.heap = h) (hsize : Ls.size = c.maxLocals) (hlen : ∀ sig, parseMethodDescriptor y.desc = some sig → argsL.length = sig.parameters.length) (hd : decode c.code pc = .ok (.invokevirtual index, 3))
    (has : (.ref a :: argsL).toArray = as' := by rfl) (hW : (rest.map fun v => v.category).sum ≤ W := by exact Nat.le_of_eq rfl) (hf : rm.frames + 1 ≤ R.frames := by decide) (hl : W + (maxL + 11) + rm.locals ≤ R.locals := by decide) (hc : cells + rm.cells ≤ R.cells := by decide) (hs : slots + rm.slots ≤ R.slots := by decide) (hy : y.cls ≠ "java/lang/invoke/MethodHandle" ∧ y.cls ≠ "java/lang/invoke/VarHandle" := by decide) :
    OwnCame p l e R s m args below meth c T locs cells slots rm Q pc (pc + 3) Ls (argsL.reverse ++ .ref a :: rest) rest := by
  obtain ⟨cB, kB, i1, -, i3⟩ := isOf hZ eT E
  obtain ⟨v, vm1, ⟨T', L', c', n'⟩, -, XB, ⟨L, hQ, l1, y1, z1⟩, st⟩ := X.virtualBack hx (y := y) (z := z) hown (mvT hZ w1) (mvT hZ w2) nf (mvT hZ w5) (mvT hZ w6) hy (backOf (W := W) hM hZ w4 w3 hf hl) i1 i3 (g := mkF m pc Ls (argsL.reverse ++ .ref a :: rest)) rfl hsize (Steps.refl _) (argsL := argsL) (rest := rest) hlen rfl (by show 2 * 0 + _ ≤ _; omega) hd (fun _ _ => ⟨has, eT, hc, hs⟩)
  dsimp only at XB l1 y1 z1 st hQ
  subst l1 y1 z1
  exact ⟨v, T', L, XB, hQ, fun t k => st.trans k⟩
theorem own_virtualUp (X : Stand p l e R s m args below meth c T locs cells slots) (hx : p.tables.exec = Jvm.exec) (hZ : Z.Warmed39 s.vm) (hown : s.vm.findClass own = some m.cls) {a : Addr} {C owner : String} (E : Exa Z h a C)
    (w1 : (Cond.methodLink own index y).before a0 Z = true) (w7 : (Cond.sameMethod y.cls owner y.name y.desc).before a0 Z = true) (w2 : (Cond.declares ⟨owner, y.name, y.desc⟩).before a0 Z = true) (w5 : (Cond.selects C y z).before a0 Z = true) (w6 : (Cond.instanceMethod z).before a0 Z = true) (w3 : (Cond.initialized z.cls).before a0 Z = true) (w4 : (Cond.code z bytes maxL ret).before a0 Z = true)
    (hM : OwnMet l Z z bytes maxL ret [] rm as' h Q) (eT : T.heap = h) (hsize : Ls.size = c.maxLocals) (hlen : ∀ sig, parseMethodDescriptor y.desc = some sig → argsL.length = sig.parameters.length) (hd : decode c.code pc = .ok (.invokevirtual index, 3))
    (has : (.ref a :: argsL).toArray = as' := by rfl) (hW : (rest.map fun v => v.category).sum ≤ W := by exact Nat.le_of_eq rfl) (hf : rm.frames + 1 ≤ R.frames := by decide) (hl : W + (maxL + 11) + rm.locals ≤ R.locals := by decide) (hc : cells + rm.cells ≤ R.cells := by decide) (hs : slots + rm.slots ≤ R.slots := by decide) (hy : owner ≠ "java/lang/invoke/MethodHandle" ∧ owner ≠ "java/lang/invoke/VarHandle" := by decide) :
    OwnCame p l e R s m args below meth c T locs cells slots rm Q pc (pc + 3) Ls (argsL.reverse ++ .ref a :: rest) rest := by
  obtain ⟨cB, kB, i1, -, i3⟩ := isOf hZ eT E
  obtain ⟨v, vm1, ⟨T', L', c', n'⟩, -, XB, ⟨L, hQ, l1, y1, z1⟩, st⟩ := X.virtualBackUp hx (x := y) (y := z) (owner := owner) hown (mvT hZ w1) (mvT hZ w7) (mvT hZ w2) hy (mvT hZ w5) (mvT hZ w6) (backOf (W := W) hM hZ w4 w3 hf hl) i1 i3 (g := mkF m pc Ls (argsL.reverse ++ .ref a :: rest)) rfl hsize (Steps.refl _) (argsL := argsL) (rest := rest) hlen rfl (by show 2 * 0 + _ ≤ _; omega) hd (fun _ _ => ⟨has, eT, hc, hs⟩)
  dsimp only at XB l1 y1 z1 st hQ
  subst l1 y1 z1
  exact ⟨v, T', L, XB, hQ, fun t k => st.trans k⟩
theorem own_private (X : Stand p l e R s m args below meth c T locs cells slots) (hx : p.tables.exec = Jvm.exec) (hZ : Z.Warmed39 s.vm) (hown : s.vm.findClass own = some m.cls) {a : Addr} {C : String} (E : Exa Z h a C)
    (w1 : (Cond.methodLink own index y).before a0 Z = true) (w2 : (Cond.instanceMethod y).before a0 Z = true) (w5 : (Cond.selects y.cls y y).before args s = true) (w6 : (Cond.privateMethod y).before a0 Z = true) (w3 : (Cond.initialized y.cls).before a0 Z = true) (w4 : (Cond.code y bytes maxL ret).before a0 Z = true)
    (hM : OwnMet l Z y bytes maxL ret [] rm as' h Q) (eT : T.heap = h) (hsize : Ls.size = c.maxLocals) (hlen : ∀ sig, parseMethodDescriptor y.desc = some sig → argsL.length = sig.parameters.length) (hd : decode c.code pc = .ok (.invokevirtual index, 3))
    (has : (.ref a :: argsL).toArray = as' := by rfl) (hW : (rest.map fun v => v.category).sum ≤ W := by exact Nat.le_of_eq rfl) (hf : rm.frames + 1 ≤ R.frames := by decide) (hl : W + (maxL + 11) + rm.locals ≤ R.locals := by decide) (hc : cells + rm.cells ≤ R.cells := by decide) (hs : slots + rm.slots ≤ R.slots := by decide) (hy : y.cls ≠ "java/lang/invoke/MethodHandle" ∧ y.cls ≠ "java/lang/invoke/VarHandle" := by decide) :
    OwnCame p l e R s m args below meth c T locs cells slots rm Q pc (pc + 3) Ls (argsL.reverse ++ .ref a :: rest) rest := by
  obtain ⟨cq, q1, q2⟩ := E.cell
  obtain ⟨v, vm1, ⟨T', L', c', n'⟩, -, XB, ⟨L, hQ, l1, y1, z1⟩, st⟩ := X.privateBack hx (y := y) hown (mvT hZ w1) (mvT hZ w2) w5 (Cond.privateMethod_at (mvP hZ w6 (args := #[]))) (mvT hZ w4) hy (backOf (W := W) hM hZ w4 w3 hf hl) (g := mkF m pc Ls (argsL.reverse ++ .ref a :: rest)) rfl hsize (Steps.refl _) (a := a) (by rw [eT]; exact q1) q2 (argsL := argsL) (rest := rest) hlen rfl (by show 2 * 0 + _ ≤ _; omega) hd (fun _ _ => ⟨has, eT, hc, hs⟩)
  dsimp only at XB l1 y1 z1 st hQ
  subst l1 y1 z1
  exact ⟨v, T', L, XB, hQ, fun t k => st.trans k⟩
theorem own_iface (X : Stand p l e R s m args below meth c T locs cells slots) (hx : p.tables.exec = Jvm.exec) (hZ : Z.Warmed39 s.vm) (hown : s.vm.findClass own = some m.cls) {a : Addr} {C : String} {count : Nat} (E : Exa Z h a C)
    (w1 : (Cond.methodLink own index y).before a0 Z = true) (w2 : (Cond.declares y).before a0 Z = true) (w7 : (Cond.interfaceMethod y.cls y.cls y.name y.desc).before a0 Z = true) (w5 : (Cond.selects C y z).before a0 Z = true) (w6 : (Cond.instanceMethod z).before a0 Z = true) (w8 : (Cond.publicMethod z).before a0 Z = true) (w9 : (Cond.unhidden C y.name y.desc).before a0 Z = true) (wc : (Cond.castable C y.cls).before a0 Z = true) (w3 : (Cond.initialized z.cls).before a0 Z = true) (w4 : (Cond.code z bytes maxL ret).before a0 Z = true)
    (hM : OwnMet l Z z bytes maxL ret [] rm as' h Q) (eT : T.heap = h) (hsize : Ls.size = c.maxLocals) (hlen : ∀ sig, parseMethodDescriptor y.desc = some sig → argsL.length = sig.parameters.length) (hd : decode c.code pc = .ok (.invokeinterface index count, 5))
    (has : (.ref a :: argsL).toArray = as' := by rfl) (hW : (rest.map fun v => v.category).sum ≤ W := by exact Nat.le_of_eq rfl) (hf : rm.frames + 1 ≤ R.frames := by decide) (hl : W + (maxL + 11) + rm.locals ≤ R.locals := by decide) (hc : cells + rm.cells ≤ R.cells := by decide) (hs : slots + rm.slots ≤ R.slots := by decide) (hy : y.cls ≠ "java/lang/invoke/MethodHandle" ∧ y.cls ≠ "java/lang/invoke/VarHandle" := by decide) :
    OwnCame p l e R s m args below meth c T locs cells slots rm Q pc (pc + 5) Ls (argsL.reverse ++ .ref a :: rest) rest := by
  obtain ⟨cB, kB, i1, i2, i3⟩ := isOf hZ eT E
  obtain ⟨v, vm1, ⟨T', L', c', n'⟩, -, XB, ⟨L, hQ, l1, y1, z1⟩, st⟩ := X.interfaceBack hx (xi := y) (y := z) hown (mvT hZ w1) (mvT hZ w2) (mvT hZ w7 (by simp [Cond.onTables, Cond.keepsFace, Cond.keeps, Cond.steady, Cond.faceAtom, hy.1, hy.2])) (mvT hZ w5) (mvT hZ w6) (mvT hZ w8) (mvT hZ w9) (mvT hZ wc) hy (backOf (W := W) hM hZ w4 w3 hf hl) i1 i2 i3 (g := mkF m pc Ls (argsL.reverse ++ .ref a :: rest)) rfl hsize (Steps.refl _) (argsL := argsL) (rest := rest) hlen rfl (by show 2 * 0 + _ ≤ _; omega) hd (fun _ _ => ⟨has, eT, hc, hs⟩)
  dsimp only at XB l1 y1 z1 st hQ
  subst l1 y1 z1
  exact ⟨v, T', L, XB, hQ, fun t k => st.trans k⟩
theorem own_specialNest (X : Stand p l e R s m args below meth c T locs cells slots) (hx : p.tables.exec = Jvm.exec) (hZ : Z.Warmed39 s.vm) (hown : s.vm.findClass own = some m.cls) {a : Addr} {host : String}
    (w1 : (Cond.methodLinkNest own index y host).before args s = true) (w2 : (Cond.instanceMethod y).before a0 Z = true) (w3 : (Cond.initialized y.cls).before a0 Z = true) (w4 : (Cond.code y bytes maxL none).before a0 Z = true)
    (hM : OwnMet l Z y bytes maxL none [] rm as' h Q) (eT : T.heap = h) (hsize : Ls.size = c.maxLocals) (hlen : ∀ sig, parseMethodDescriptor y.desc = some sig → argsL.length = sig.parameters.length) (hd : decode c.code pc = .ok (.invokespecial index, 3))
    (has : (.ref a :: argsL).toArray = as' := by rfl) (hW : (rest.map fun v => v.category).sum ≤ W := by exact Nat.le_of_eq rfl) (hf : rm.frames + 1 ≤ R.frames := by decide) (hl : W + (maxL + 11) + rm.locals ≤ R.locals := by decide) (hc : cells + rm.cells ≤ R.cells := by decide) (hs : slots + rm.slots ≤ R.slots := by decide) (hy : y.cls ≠ "java/lang/invoke/MethodHandle" ∧ y.cls ≠ "java/lang/invoke/VarHandle" := by decide) (hy1 : y.name = "<init>" := by rfl) :
    OwnCame p l e R s m args below meth c T locs cells slots rm Q pc (pc + 3) Ls (argsL.reverse ++ .ref a :: rest) rest := by
  obtain ⟨v, vm1, ⟨T', L', c', n'⟩, -, XB, ⟨L, hQ, l1, y1, z1⟩, st⟩ := X.specialBackNest hx (y := y) hy1 hown w1 (mvT hZ w2) (mvT hZ w4) hy (backOf (W := W) hM hZ w4 w3 hf hl) (g := mkF m pc Ls (argsL.reverse ++ .ref a :: rest)) rfl hsize (Steps.refl _) (a := a) (argsL := argsL) (rest := rest) hlen rfl (by show 2 * 0 + _ ≤ _; omega) hd (fun _ _ => ⟨has, eT, hc, hs⟩)
  dsimp only at XB l1 y1 z1 st hQ
  subst l1 y1 z1
  exact ⟨v, T', L, XB, hQ, fun t k => st.trans k⟩
end Calls
theorem own_narR {v : Value} (h : v.isRef = true) {t : FieldType} (ht : t.isReference = true := by rfl) : narrow t v = v := by
  rcases ref_cases h with rfl | ⟨a, rfl⟩ <;> cases t <;> first | rfl | cases ht
theorem own_fitR {v : Value} (h : v.isRef = true) {t : FieldType} (ht : t.isReference = true := by rfl) : fits t v = true := by
  rcases ref_cases h with rfl | ⟨a, rfl⟩ <;> cases t <;> first | rfl | cases ht
theorem own_catR {v : Value} (h : v.isRef = true) : v.category = 1 := by rcases ref_cases h with rfl | ⟨a, rfl⟩ <;> rfl
theorem own_arv_of_arh {Z : State} {h : Heap} {a : Addr} {k : ClassId} {ty : FieldType} {z : Int32} {vs : List Value} {dv : Value} (F : Arh Z h a k ty z [] vs dv) : Arv Z h a k ty z vs dv := by
  obtain ⟨c, A, q, S, N, H, G⟩ := F
  exact ⟨c, A, q, S, N, H, G⟩
theorem own_getD_all (j : Nat) (d : Value) : ∀ n, (List.replicate n d).getD j d = d := by
  intro n
  simp only [List.getD_eq_getElem?_getD, List.getElem?_replicate]
  split <;> rfl
theorem own_c_nar_char (x : Int32) : ((nar .char x).toInt - x.toInt) % 65536 = 0 ∧ 0 ≤ (nar .char x).toInt ∧ (nar .char x).toInt < 65536 := c_i2c x
theorem own_c_nar_byte (x : Int32) : ((nar .byte x).toInt - x.toInt) % 256 = 0 ∧ -128 ≤ (nar .byte x).toInt ∧ (nar .byte x).toInt < 128 := c_i2b x
theorem own_mask (x m : Int32) (k : Nat) (hk : k ≤ 31) (hm : m.toBitVec.toNat = 2 ^ k - 1) (P : Int) (hP : ((2 ^ k : Nat) : Int) = P) : (x &&& m).toInt = x.toInt % P := by rw [← hP]; exact c_mask x m k hk hm
theorem own_maskL (x m : Int64) (k : Nat) (hk : k ≤ 63) (hm : m.toBitVec.toNat = 2 ^ k - 1) (P : Int) (hP : ((2 ^ k : Nat) : Int) = P) : (x &&& m).toInt = x.toInt % P := by rw [← hP]; exact c_maskL x m k hk hm
theorem own_ushr (x q : Int32) (k : Nat) (hk : q.toBitVec.toNat % 32 = k) (h0 : 0 < k) (P : Int) (hP : ((2 ^ k : Nat) : Int) = P) : ((x.toUInt32 >>> (q &&& 31).toUInt32).toInt32).toInt = (x.toInt % 4294967296) / P := by rw [← hP]; exact c_iushr x q k hk h0
theorem own_shr (x q : Int32) (k : Nat) (hk : q.toBitVec.toNat % 32 = k) (P : Int) (hP : ((2 ^ k : Nat) : Int) = P) : (x >>> (q &&& 31)).toInt = x.toInt / P := by rw [← hP]; exact c_ishr x q k hk
theorem own_irem_eq (x y : Int32) : x - (x / y) * y = x % y := by
  have h : (x - (x / y) * y).toInt = (x % y).toInt := by
    rw [Int32.toInt_sub, Int32.toInt_mul, Int32.toInt_mod, Int32.toInt_div, Int.bmod_mul_bmod, Int.sub_bmod_bmod]
    have hx := x.le_toInt; have hx' := x.toInt_lt
    have e : x.toInt - x.toInt.tdiv y.toInt * y.toInt = x.toInt.tmod y.toInt := by rw [Int.tmod_def, Int.mul_comm]
    rw [e]
    have h4 : (x.toInt.tmod y.toInt) ≤ 2147483647 := by
      by_cases hp : 0 ≤ x.toInt
      · have := Int.natAbs_tmod x.toInt y.toInt; have := Nat.mod_le x.toInt.natAbs y.toInt.natAbs; omega
      · have := Int.tmod_nonneg (a := -x.toInt) y.toInt (by omega); rw [Int.neg_tmod] at this; omega
    have h5 : -2147483648 ≤ (x.toInt.tmod y.toInt) := by
      have := Int.natAbs_tmod x.toInt y.toInt; have := Nat.mod_le x.toInt.natAbs y.toInt.natAbs; omega
    exact Int.bmod_eq_of_le (by omega) (by omega)
  exact Int32.toInt_inj.mp h
theorem own_irem (x y : Int32) (d : Int) (hy : y.toInt = d) : (0 ≤ x.toInt → (x - (x / y) * y).toInt = x.toInt % d) ∧ (x.toInt < 0 → (x - (x / y) * y).toInt = -((-x.toInt) % d)) := by rw [own_irem_eq]; exact c_irem x y d hy
end Jvm.RoadKit
namespace Jvm.Pilot.@@N@@
open Jvm Jvm.ClassFile Sem Op Lib Jvm.Free Jvm.Stand Jvm.LawKit Jvm.RoadKit Bundle Jvm.Pilot.@@N@@.Jvm.D
def Q0 (n0 : Nat) (v : Option Value) (h : Heap) (L : List Loc) : Prop := v = some (.int 1) ∧ Fr n0 L
theorem own_eqI {args : Array Value} {first s : State} {o : Option Outcome} {idx : List Nat} {t : Term} {n : Int32} (h : (Jvm.Cond.eq t (.int n)).value args first o s idx = some true) : t.eval args first o idx s = some (.int n) := by
  simp only [Jvm.Cond.value, Term.eval] at h
  cases ht : t.eval args first o idx s with
  | none => simp [ht] at h
  | some x => cases x <;> simp [ht] at h ⊢; exact h
theorem own_eqR {args : Array Value} {first s : State} {o : Option Outcome} {idx : List Nat} {t u : Term} {a : Addr} (h : (Jvm.Cond.eq t u).value args first o s idx = some true) (hu : u.eval args first o idx s = some (.ref a)) : t.eval args first o idx s = some (.ref a) := by
  simp only [Jvm.Cond.value, hu] at h
  cases ht : t.eval args first o idx s with
  | none => simp [ht] at h
  | some x => cases x <;> simp [ht] at h ⊢; exact h
theorem own_len {args : Array Value} {s : State} {t : Term} {n : Int32} {a : Addr} {c : Cell} {ty : FieldType} (h : (Term.length t).eval args s none [] s = some (.int n)) (ev : t.eval args s none [] s = some (.ref a)) (A : Arr s s.heap a c ty) : c.slots.size < 2 ^ 31 ∧ c.slots.size.toInt32 = n := by
  have e := Arr.fin (Vm.Alike.refl _) A
  by_cases q : c.slots.size < 2 ^ 31
  · have := (len_f ev e q).symm.trans h
    exact ⟨q, by simpa using this⟩
  · simp [Term.eval, ev, e, q] at h
theorem w_0 {a0 : Array Value} {Z : State} (hw : ∀ d ∈ tables_1, d.before a0 Z = true) : Jvm.Cond.before (Jvm.Cond.arrayClass Jvm.ClassFile.FieldType.char) a0 Z = true := hw _ (List.mem_of_getElem? (i := 0) rfl)
theorem w_1 {a0 : Array Value} {Z : State} (hw : ∀ d ∈ tables_1, d.before a0 Z = true) : Jvm.Cond.before (Jvm.Cond.classLink "com/example/chickadee/chickadee/server/SbiHttpReadPinLaw" (7 : Nat) "java/lang/String") a0 Z = true := hw _ (List.mem_of_getElem? (i := 1) rfl)
theorem w_2 {a0 : Array Value} {Z : State} (hw : ∀ d ∈ tables_1, d.before a0 Z = true) : Jvm.Cond.before (Jvm.Cond.instantiable "java/lang/String" (4 : Nat)) a0 Z = true := hw _ (List.mem_of_getElem? (i := 2) rfl)
theorem w_3 {a0 : Array Value} {Z : State} (hw : ∀ d ∈ tables_1, d.before a0 Z = true) : Jvm.Cond.before (Jvm.Cond.initialized "java/lang/String") a0 Z = true := hw _ (List.mem_of_getElem? (i := 3) rfl)
theorem w_27 {a0 : Array Value} {Z : State} (hw : ∀ d ∈ tables_1, d.before a0 Z = true) : Jvm.Cond.before (Jvm.Cond.laysFinal "java/lang/String" "java/lang/String" "coder" "B") a0 Z = true := hw _ (List.mem_of_getElem? (i := 27) rfl)
theorem w_29 {a0 : Array Value} {Z : State} (hw : ∀ d ∈ tables_1, d.before a0 Z = true) : Jvm.Cond.before (Jvm.Cond.laysFinal "java/lang/String" "java/lang/String" "value" "[B") a0 Z = true := hw _ (List.mem_of_getElem? (i := 29) rfl)
theorem d1_0 : decode jdk_42_method_3_code 0 = .ok (.aload_n 0, 1) := by decide +kernel
theorem d1_1 : decode jdk_42_method_3_code 1 = .ok (.aload_n 1, 1) := by decide +kernel
theorem d1_2 : decode jdk_42_method_3_code 2 = .ok (.iconst 0, 1) := by decide +kernel
theorem d1_3 : decode jdk_42_method_3_code 3 = .ok (.aload_n 1, 1) := by decide +kernel
theorem d1_4 : decode jdk_42_method_3_code 4 = .ok (.arraylength, 1) := by decide +kernel
theorem d1_5 : decode jdk_42_method_3_code 5 = .ok (.aconst_null, 1) := by decide +kernel
theorem d1_6 : decode jdk_42_method_3_code 6 = .ok (.invokespecial 27, 3) := by decide +kernel
theorem d2_0 : decode jdk_42_method_149_code 0 = .ok (.aload_n 0, 1) := by decide +kernel
theorem d2_1 : decode jdk_42_method_149_code 1 = .ok (.invokespecial 1, 3) := by decide +kernel
theorem w_11 {a0 : Array Value} {Z : State} (hw : ∀ d ∈ tables_1, d.before a0 Z = true) : Jvm.Cond.before (Jvm.Cond.methodLink "java/lang/String" (1 : Nat) ({ cls := "java/lang/Object", name := "<init>", desc := "()V" } : Jvm.MethodName)) a0 Z = true := hw _ (List.mem_of_getElem? (i := 11) rfl)
theorem w_12 {a0 : Array Value} {Z : State} (hw : ∀ d ∈ tables_1, d.before a0 Z = true) : Jvm.Cond.before (Jvm.Cond.instanceMethod ({ cls := "java/lang/Object", name := "<init>", desc := "()V" } : Jvm.MethodName)) a0 Z = true := hw _ (List.mem_of_getElem? (i := 12) rfl)
theorem w_13 {a0 : Array Value} {Z : State} (hw : ∀ d ∈ tables_1, d.before a0 Z = true) : Jvm.Cond.before (Jvm.Cond.code ({ cls := "java/lang/Object", name := "<init>", desc := "()V" } : Jvm.MethodName) object_method_1_code (1 : Nat) (Option.none : Option Jvm.ClassFile.FieldType)) a0 Z = true := hw _ (List.mem_of_getElem? (i := 13) rfl)
theorem d2_4 : decode jdk_42_method_149_code 4 = .ok (.iload_n 3, 1) := by decide +kernel
theorem d2_5 : decode jdk_42_method_149_code 5 = .ok (.ifCond .ne 22, 3) := by decide +kernel
theorem d2_27 : decode jdk_42_method_149_code 27 = .ok (.getstatic 38, 3) := by decide +kernel
theorem w_14 {a0 : Array Value} {Z : State} (hw : ∀ d ∈ tables_1, d.before a0 Z = true) : Jvm.Cond.before (Jvm.Cond.fieldLink "java/lang/String" (38 : Nat) "java/lang/String" "COMPACT_STRINGS" "Z") a0 Z = true := hw _ (List.mem_of_getElem? (i := 14) rfl)
theorem d2_30 : decode jdk_42_method_149_code 30 = .ok (.ifCond .eq 28, 3) := by decide +kernel
theorem d2_33 : decode jdk_42_method_149_code 33 = .ok (.aload_n 1, 1) := by decide +kernel
theorem d2_34 : decode jdk_42_method_149_code 34 = .ok (.iload_n 2, 1) := by decide +kernel
theorem d2_35 : decode jdk_42_method_149_code 35 = .ok (.iload_n 3, 1) := by decide +kernel
theorem d2_36 : decode jdk_42_method_149_code 36 = .ok (.invokestatic 177, 3) := by decide +kernel
theorem d4_0 : decode jdk_52_method_16_code 0 = .ok (.iload_n 2, 1) := by decide +kernel
theorem d4_1 : decode jdk_52_method_16_code 1 = .ok (.newarray .byte, 2) := by decide +kernel
theorem w_19 {a0 : Array Value} {Z : State} (hw : ∀ d ∈ tables_1, d.before a0 Z = true) : Jvm.Cond.before (Jvm.Cond.arrayClass Jvm.ClassFile.FieldType.byte) a0 Z = true := hw _ (List.mem_of_getElem? (i := 19) rfl)
theorem d4_3 : decode jdk_52_method_16_code 3 = .ok (.astore_n 3, 1) := by decide +kernel
theorem d4_4 : decode jdk_52_method_16_code 4 = .ok (.aload_n 0, 1) := by decide +kernel
theorem d4_5 : decode jdk_52_method_16_code 5 = .ok (.iload_n 1, 1) := by decide +kernel
theorem d4_6 : decode jdk_52_method_16_code 6 = .ok (.aload_n 3, 1) := by decide +kernel
theorem d4_7 : decode jdk_52_method_16_code 7 = .ok (.iconst 0, 1) := by decide +kernel
theorem d4_8 : decode jdk_52_method_16_code 8 = .ok (.iload_n 2, 1) := by decide +kernel
theorem d4_9 : decode jdk_52_method_16_code 9 = .ok (.invokestatic 115, 3) := by decide +kernel
theorem d5_0 : decode jdk_52_method_21_code 0 = .ok (.iconst 0, 1) := by decide +kernel
theorem d5_1 : decode jdk_52_method_21_code 1 = .ok (.istore 5, 2) := by decide +kernel
theorem d5_3 : decode jdk_52_method_21_code 3 = .ok (.iload 5, 2) := by decide +kernel
theorem d5_5 : decode jdk_52_method_21_code 5 = .ok (.iload 4, 2) := by decide +kernel
theorem d5_7 : decode jdk_52_method_21_code 7 = .ok (.if_icmp .ge 37, 3) := by decide +kernel
theorem d5_10 : decode jdk_52_method_21_code 10 = .ok (.aload_n 0, 1) := by decide +kernel
theorem d5_11 : decode jdk_52_method_21_code 11 = .ok (.iload_n 1, 1) := by decide +kernel
theorem d5_12 : decode jdk_52_method_21_code 12 = .ok (.caload, 1) := by decide +kernel
theorem d5_13 : decode jdk_52_method_21_code 13 = .ok (.istore 6, 2) := by decide +kernel
theorem d5_15 : decode jdk_52_method_21_code 15 = .ok (.iload 6, 2) := by decide +kernel
theorem d5_17 : decode jdk_52_method_21_code 17 = .ok (.sipush 255, 3) := by decide +kernel
theorem d5_20 : decode jdk_52_method_21_code 20 = .ok (.if_icmp .le 6, 3) := by decide +kernel
theorem d5_26 : decode jdk_52_method_21_code 26 = .ok (.aload_n 2, 1) := by decide +kernel
theorem d5_27 : decode jdk_52_method_21_code 27 = .ok (.iload_n 3, 1) := by decide +kernel
theorem d5_28 : decode jdk_52_method_21_code 28 = .ok (.iload 6, 2) := by decide +kernel
theorem d5_30 : decode jdk_52_method_21_code 30 = .ok (.i2b, 1) := by decide +kernel
theorem d5_31 : decode jdk_52_method_21_code 31 = .ok (.bastore, 1) := by decide +kernel
theorem d5_32 : decode jdk_52_method_21_code 32 = .ok (.iinc 1 1, 3) := by decide +kernel
theorem d5_35 : decode jdk_52_method_21_code 35 = .ok (.iinc 3 1, 3) := by decide +kernel
theorem d5_38 : decode jdk_52_method_21_code 38 = .ok (.iinc 5 1, 3) := by decide +kernel
theorem d5_41 : decode jdk_52_method_21_code 41 = .ok (.goto (-38), 3) := by decide +kernel
theorem d5_44 : decode jdk_52_method_21_code 44 = .ok (.iload 4, 2) := by decide +kernel
theorem d5_46 : decode jdk_52_method_21_code 46 = .ok (.ireturn, 1) := by decide +kernel
abbrev y_0 : MethodName := ⟨"java/lang/StringUTF16", "compress", "([CI[BII)I"⟩
theorem pn_0 : plainName "java/lang/StringUTF16" = true := by first | (simp [plainName, overriddenIn]; done) | decide +kernel
-- java/lang/StringUTF16.compress([CI[BII)I
abbrev Rm1 : Room := { frames := 0, cells := 0, slots := 0, locals := 0 }
def Q1 (Z : State) (a1 : Addr) (a2 : Addr) (k3 : ClassId) (k6 : ClassId) (h0 : Heap) (n0 : Nat) (v : Option Value) (h : Heap) (L : List Loc) : Prop := v = some (.int (5 : Int32)) ∧ Fr n0 L ∧ Keep h0 h [a2] ∧ Exa Z h a2 "[B" ∧ Arv Z h a2 k6 .byte (5 : Int32) [(.int (104 : Int32)), (.int (116 : Int32)), (.int (116 : Int32)), (.int (112 : Int32)), (.int (49 : Int32))] (.int (0 : Int32))
theorem ef1 (a1 : Addr) (a2 : Addr) (m : MethodId) : entryFrame m #[(.ref a1), (.int (0 : Int32)), (.ref a2), (.int (0 : Int32)), (.int (5 : Int32))] 7 = mkF m 0 #[.val (.ref a1), .val (.int (0 : Int32)), .val (.ref a2), .val (.int (0 : Int32)), .val (.int (5 : Int32)), .unset, .unset] [] := by first | (simp [entryFrame, mkF, argsToLocals, Value.category]; done) | rfl
theorem rm1 (l : Launch) (Z : State) (a0 : Array Value) (hw : ∀ d ∈ tables_1, d.before a0 Z = true) (ws : List Jvm.Cond) (a1 : Addr) (a2 : Addr) (k3 : ClassId) (k6 : ClassId) (h0 : Heap) (n0 : Nat) (Z0 : n0 ≤ h0.size) (V_a1 : Arv Z h0 a1 k3 .char (5 : Int32) [(.int (104 : Int32)), (.int (116 : Int32)), (.int (116 : Int32)), (.int (112 : Int32)), (.int (49 : Int32))] (.int (0 : Int32))) (V_a2 : Arv Z h0 a2 k6 .byte (5 : Int32) [(.int (0 : Int32)), (.int (0 : Int32)), (.int (0 : Int32)), (.int (0 : Int32)), (.int (0 : Int32))] (.int (0 : Int32))) (g_a2 : n0 ≤ a2) (ne_a1_a2 : a1 ≠ a2) (E_a2 : Exa Z h0 a2 "[B") :
    OwnMet l Z y_0 jdk_52_method_21_code 7 (some .int) ws Rm1 #[(.ref a1), (.int (0 : Int32)), (.ref a2), (.int (0 : Int32)), (.int (5 : Int32))] h0 (Q1 Z a1 a2 k3 k6 h0 n0) := by
  refine own_body (plainFor_of_name pn_0) (ef1 a1 a2) ?_
  intro p e s m below meth c s₁ hx hby hml hown hnm hret hZ X0 e0
  have N0 := Fr.nil n0
  obtain ⟨cl4, Ar4, q4, S4, M4, Hs4, G4⟩ := id V_a1
  have hin5 : ¬ ((0 : Int32) < 0 ∨ cl4.slots.size ≤ ((0 : Int32)).toNatClampNeg) := inb_of S4 ⟨(by decide : ¬ ((0 : Int32) < (0 : Int32))), (by decide : (0 : Int32) < (5 : Int32))⟩
  obtain ⟨cl7, Ar7, q7, S7, M7, Hs7, G7⟩ := id V_a2
  have hin8 : ¬ ((0 : Int32) < 0 ∨ cl7.slots.size ≤ ((0 : Int32)).toNatClampNeg) := inb_of S7 ⟨(by decide : ¬ ((0 : Int32) < (0 : Int32))), (by decide : (0 : Int32) < (5 : Int32))⟩
  obtain ⟨T9, h9, X9, e9, W9, st9⟩ := stB X0 hx hZ e0 Ar7 (j := (0 : Int32)) hin8 (g := (mkF m 31 #[.val (.ref a1), .val (.int (0 : Int32)), .val (.ref a2), .val (.int (0 : Int32)), .val (.int (5 : Int32)), .val (.int (0 : Int32)), .val (.int (104 : Int32))] [(.int (104 : Int32)), (.int (0 : Int32)), (.ref a2)])) rfl rfl (hb hby d5_31)
  have s0 := (Keep.of_wr W9).1
  have N9 := Fr.snoc X9 N0 g_a2
  have Vs9 : Arv Z h9 a2 k6 .byte (5 : Int32) [(.int (104 : Int32)), (.int (0 : Int32)), (.int (0 : Int32)), (.int (0 : Int32)), (.int (0 : Int32))] (.int (0 : Int32)) := Arv.set Ar7 q7 S7 M7 Hs7 G7 (fits_nar_byte _) W9 0 rfl (Nat.le_of_ble_eq_true rfl)
  have Va10 := (V_a1.other W9 ne_a1_a2)
  obtain ⟨cl11, Ar11, q11, S11, M11, Hs11, G11⟩ := id Va10
  have hin12 : ¬ ((1 : Int32) < 0 ∨ cl11.slots.size ≤ ((1 : Int32)).toNatClampNeg) := inb_of S11 ⟨(by decide : ¬ ((1 : Int32) < (0 : Int32))), (by decide : (1 : Int32) < (5 : Int32))⟩
  obtain ⟨cl13, Ar13, q13, S13, M13, Hs13, G13⟩ := id Vs9
  have hin14 : ¬ ((1 : Int32) < 0 ∨ cl13.slots.size ≤ ((1 : Int32)).toNatClampNeg) := inb_of S13 ⟨(by decide : ¬ ((1 : Int32) < (0 : Int32))), (by decide : (1 : Int32) < (5 : Int32))⟩
  obtain ⟨T15, h15, X15, e15, W15, st15⟩ := stB X9 hx hZ e9 Ar13 (j := (1 : Int32)) hin14 (g := (mkF m 31 #[.val (.ref a1), .val (.int (1 : Int32)), .val (.ref a2), .val (.int (1 : Int32)), .val (.int (5 : Int32)), .val (.int (1 : Int32)), .val (.int (116 : Int32))] [(.int (116 : Int32)), (.int (1 : Int32)), (.ref a2)])) rfl rfl (hb hby d5_31)
  have s1 := (Keep.of_wr W15).1
  have N15 := Fr.snoc X15 N9 g_a2
  have Vs15 : Arv Z h15 a2 k6 .byte (5 : Int32) [(.int (104 : Int32)), (.int (116 : Int32)), (.int (0 : Int32)), (.int (0 : Int32)), (.int (0 : Int32))] (.int (0 : Int32)) := Arv.set Ar13 q13 S13 M13 Hs13 G13 (fits_nar_byte _) W15 1 rfl (Nat.le_of_ble_eq_true rfl)
  have Va16 := (Va10.other W15 ne_a1_a2)
  obtain ⟨cl17, Ar17, q17, S17, M17, Hs17, G17⟩ := id Va16
  have hin18 : ¬ ((2 : Int32) < 0 ∨ cl17.slots.size ≤ ((2 : Int32)).toNatClampNeg) := inb_of S17 ⟨(by decide : ¬ ((2 : Int32) < (0 : Int32))), (by decide : (2 : Int32) < (5 : Int32))⟩
  obtain ⟨cl19, Ar19, q19, S19, M19, Hs19, G19⟩ := id Vs15
  have hin20 : ¬ ((2 : Int32) < 0 ∨ cl19.slots.size ≤ ((2 : Int32)).toNatClampNeg) := inb_of S19 ⟨(by decide : ¬ ((2 : Int32) < (0 : Int32))), (by decide : (2 : Int32) < (5 : Int32))⟩
  obtain ⟨T21, h21, X21, e21, W21, st21⟩ := stB X15 hx hZ e15 Ar19 (j := (2 : Int32)) hin20 (g := (mkF m 31 #[.val (.ref a1), .val (.int (2 : Int32)), .val (.ref a2), .val (.int (2 : Int32)), .val (.int (5 : Int32)), .val (.int (2 : Int32)), .val (.int (116 : Int32))] [(.int (116 : Int32)), (.int (2 : Int32)), (.ref a2)])) rfl rfl (hb hby d5_31)
  have s2 := (Keep.of_wr W21).1
  have N21 := Fr.snoc X21 N15 g_a2
  have Vs21 : Arv Z h21 a2 k6 .byte (5 : Int32) [(.int (104 : Int32)), (.int (116 : Int32)), (.int (116 : Int32)), (.int (0 : Int32)), (.int (0 : Int32))] (.int (0 : Int32)) := Arv.set Ar19 q19 S19 M19 Hs19 G19 (fits_nar_byte _) W21 2 rfl (Nat.le_of_ble_eq_true rfl)
  have Va22 := (Va16.other W21 ne_a1_a2)
  obtain ⟨cl23, Ar23, q23, S23, M23, Hs23, G23⟩ := id Va22
  have hin24 : ¬ ((3 : Int32) < 0 ∨ cl23.slots.size ≤ ((3 : Int32)).toNatClampNeg) := inb_of S23 ⟨(by decide : ¬ ((3 : Int32) < (0 : Int32))), (by decide : (3 : Int32) < (5 : Int32))⟩
  obtain ⟨cl25, Ar25, q25, S25, M25, Hs25, G25⟩ := id Vs21
  have hin26 : ¬ ((3 : Int32) < 0 ∨ cl25.slots.size ≤ ((3 : Int32)).toNatClampNeg) := inb_of S25 ⟨(by decide : ¬ ((3 : Int32) < (0 : Int32))), (by decide : (3 : Int32) < (5 : Int32))⟩
  obtain ⟨T27, h27, X27, e27, W27, st27⟩ := stB X21 hx hZ e21 Ar25 (j := (3 : Int32)) hin26 (g := (mkF m 31 #[.val (.ref a1), .val (.int (3 : Int32)), .val (.ref a2), .val (.int (3 : Int32)), .val (.int (5 : Int32)), .val (.int (3 : Int32)), .val (.int (112 : Int32))] [(.int (112 : Int32)), (.int (3 : Int32)), (.ref a2)])) rfl rfl (hb hby d5_31)
  have s3 := (Keep.of_wr W27).1
  have N27 := Fr.snoc X27 N21 g_a2
  have Vs27 : Arv Z h27 a2 k6 .byte (5 : Int32) [(.int (104 : Int32)), (.int (116 : Int32)), (.int (116 : Int32)), (.int (112 : Int32)), (.int (0 : Int32))] (.int (0 : Int32)) := Arv.set Ar25 q25 S25 M25 Hs25 G25 (fits_nar_byte _) W27 3 rfl (Nat.le_of_ble_eq_true rfl)
  have Va28 := (Va22.other W27 ne_a1_a2)
  obtain ⟨cl29, Ar29, q29, S29, M29, Hs29, G29⟩ := id Va28
  have hin30 : ¬ ((4 : Int32) < 0 ∨ cl29.slots.size ≤ ((4 : Int32)).toNatClampNeg) := inb_of S29 ⟨(by decide : ¬ ((4 : Int32) < (0 : Int32))), (by decide : (4 : Int32) < (5 : Int32))⟩
  obtain ⟨cl31, Ar31, q31, S31, M31, Hs31, G31⟩ := id Vs27
  have hin32 : ¬ ((4 : Int32) < 0 ∨ cl31.slots.size ≤ ((4 : Int32)).toNatClampNeg) := inb_of S31 ⟨(by decide : ¬ ((4 : Int32) < (0 : Int32))), (by decide : (4 : Int32) < (5 : Int32))⟩
  obtain ⟨T33, h33, X33, e33, W33, st33⟩ := stB X27 hx hZ e27 Ar31 (j := (4 : Int32)) hin32 (g := (mkF m 31 #[.val (.ref a1), .val (.int (4 : Int32)), .val (.ref a2), .val (.int (4 : Int32)), .val (.int (5 : Int32)), .val (.int (4 : Int32)), .val (.int (49 : Int32))] [(.int (49 : Int32)), (.int (4 : Int32)), (.ref a2)])) rfl rfl (hb hby d5_31)
  have s4 := (Keep.of_wr W33).1
  have N33 := Fr.snoc X33 N27 g_a2
  have Vs33 : Arv Z h33 a2 k6 .byte (5 : Int32) [(.int (104 : Int32)), (.int (116 : Int32)), (.int (116 : Int32)), (.int (112 : Int32)), (.int (49 : Int32))] (.int (0 : Int32)) := Arv.set Ar31 q31 S31 M31 Hs31 G31 (fits_nar_byte _) W33 4 rfl (Nat.le_of_ble_eq_true rfl)
  have Ex34 := (((((E_a2.wr W9).wr W15).wr W21).wr W27).wr W33)
  have Kp0 : Keep h0 h9 [a2] := (Keep.refl h0 [a2]).wr W9 (Or.inl (List.mem_of_getElem? (i := 0) rfl))
  have Kp1 : Keep h0 h15 [a2] := Kp0.wr W15 (Or.inl (List.mem_of_getElem? (i := 0) rfl))
  have Kp2 : Keep h0 h21 [a2] := Kp1.wr W21 (Or.inl (List.mem_of_getElem? (i := 0) rfl))
  have Kp3 : Keep h0 h27 [a2] := Kp2.wr W27 (Or.inl (List.mem_of_getElem? (i := 0) rfl))
  have Kp4 : Keep h0 h33 [a2] := Kp3.wr W33 (Or.inl (List.mem_of_getElem? (i := 0) rfl))
  refine ⟨T33, _, _, _, (some (.int (5 : Int32))), X33, nofun, by decide, by decide, ?_, fun fs hr => ?_⟩
  · show Q1 Z a1 a2 k3 k6 h0 n0 _ T33.heap _
    rw [e33]
    exact ⟨rfl, N33, Kp4, Ex34, Vs33⟩
  · show Steps p.tables e below (s₁.setTop (mkF m 0 #[.val (.ref a1), .val (.int (0 : Int32)), .val (.ref a2), .val (.int (0 : Int32)), .val (.int (5 : Int32)), .unset, .unset] [])) _
    refine XS.iconst X0.here hx rfl (hb hby d5_0) ?_
    refine XS.istore X0.here hx rfl (hb hby d5_1) rfl (l' := #[.val (.ref a1), .val (.int (0 : Int32)), .val (.ref a2), .val (.int (0 : Int32)), .val (.int (5 : Int32)), .val (.int (0 : Int32)), .unset]) rfl ?_
    refine XS.iload X0.here hx rfl (hb hby d5_3) rfl ?_
    refine XS.iload X0.here hx rfl (hb hby d5_5) rfl ?_
    refine XS.icmpNo X0.here hx rfl (hb hby d5_7) rfl (tlt ((by decide : (0 : Int32) < (5 : Int32)) : (0 : Int32) < (5 : Int32))).2.1 ?_
    refine XS.aloadN X0.here hx rfl (hb hby d5_10) rfl rfl ?_
    refine XS.iloadN X0.here hx rfl (hb hby d5_11) rfl ?_
    refine X0.caload hx (j := (0 : Int32)) (v := (.int (104 : Int32))) (by rw [e0]; exact Ar4.1) (State.isArrayOf_alike hZ.alike Ar4.2.1) Ar4.2.2 hin5 (Has.at Hs4 hin5 rfl) (g := (mkF m 12 #[.val (.ref a1), .val (.int (0 : Int32)), .val (.ref a2), .val (.int (0 : Int32)), .val (.int (5 : Int32)), .val (.int (0 : Int32)), .unset] [(.int (0 : Int32)), (.ref a1)])) rfl rfl (hb hby d5_12) _ ?_
    refine XS.istore X0.here hx rfl (hb hby d5_13) rfl (l' := #[.val (.ref a1), .val (.int (0 : Int32)), .val (.ref a2), .val (.int (0 : Int32)), .val (.int (5 : Int32)), .val (.int (0 : Int32)), .val (.int (104 : Int32))]) rfl ?_
    refine XS.iload X0.here hx rfl (hb hby d5_15) rfl ?_
    refine XS.sipush X0.here hx rfl (hb hby d5_17) ?_
    refine XS.icmpYes X0.here hx rfl (pc0 := 20) (pc' := 26) rfl (hb hby d5_20) rfl (flt ((by decide : ¬ ((255 : Int32) < (104 : Int32))) : ¬ ((255 : Int32) < (104 : Int32)))).2.2.2 (by decide) (by decide) ?_
    show Steps p.tables e below (s₁.setTop (mkF m 26 #[.val (.ref a1), .val (.int (0 : Int32)), .val (.ref a2), .val (.int (0 : Int32)), .val (.int (5 : Int32)), .val (.int (0 : Int32)), .val (.int (104 : Int32))] [])) _
    refine XS.aloadN X0.here hx rfl (hb hby d5_26) rfl rfl ?_
    refine XS.iloadN X0.here hx rfl (hb hby d5_27) rfl ?_
    refine XS.iload X0.here hx rfl (hb hby d5_28) rfl ?_
    refine XS.i2b X0.here hx rfl (hb hby d5_30) rfl ?_
    refine st9 _ ?_
    refine XS.iinc X9.here hx rfl (hb hby d5_32) rfl (l' := #[.val (.ref a1), .val (.int (1 : Int32)), .val (.ref a2), .val (.int (0 : Int32)), .val (.int (5 : Int32)), .val (.int (0 : Int32)), .val (.int (104 : Int32))]) rfl ?_
    refine XS.iinc X9.here hx rfl (hb hby d5_35) rfl (l' := #[.val (.ref a1), .val (.int (1 : Int32)), .val (.ref a2), .val (.int (1 : Int32)), .val (.int (5 : Int32)), .val (.int (0 : Int32)), .val (.int (104 : Int32))]) rfl ?_
    refine XS.iinc X9.here hx rfl (hb hby d5_38) rfl (l' := #[.val (.ref a1), .val (.int (1 : Int32)), .val (.ref a2), .val (.int (1 : Int32)), .val (.int (5 : Int32)), .val (.int (1 : Int32)), .val (.int (104 : Int32))]) rfl ?_
    refine XS.goto X9.here hx rfl (pc0 := 41) (pc' := 3) rfl (hb hby d5_41) (by decide) (by decide) ?_
    refine XS.iload X9.here hx rfl (hb hby d5_3) rfl ?_
    refine XS.iload X9.here hx rfl (hb hby d5_5) rfl ?_
    refine XS.icmpNo X9.here hx rfl (hb hby d5_7) rfl (tlt ((by decide : (1 : Int32) < (5 : Int32)) : (1 : Int32) < (5 : Int32))).2.1 ?_
    show Steps p.tables e below (T9.setTop (mkF m 10 #[.val (.ref a1), .val (.int (1 : Int32)), .val (.ref a2), .val (.int (1 : Int32)), .val (.int (5 : Int32)), .val (.int (1 : Int32)), .val (.int (104 : Int32))] [])) _
    refine XS.aloadN X9.here hx rfl (hb hby d5_10) rfl rfl ?_
    refine XS.iloadN X9.here hx rfl (hb hby d5_11) rfl ?_
    refine X9.caload hx (j := (1 : Int32)) (v := (.int (116 : Int32))) (by rw [e9]; exact Ar11.1) (State.isArrayOf_alike hZ.alike Ar11.2.1) Ar11.2.2 hin12 (Has.at Hs11 hin12 rfl) (g := (mkF m 12 #[.val (.ref a1), .val (.int (1 : Int32)), .val (.ref a2), .val (.int (1 : Int32)), .val (.int (5 : Int32)), .val (.int (1 : Int32)), .val (.int (104 : Int32))] [(.int (1 : Int32)), (.ref a1)])) rfl rfl (hb hby d5_12) _ ?_
    refine XS.istore X9.here hx rfl (hb hby d5_13) rfl (l' := #[.val (.ref a1), .val (.int (1 : Int32)), .val (.ref a2), .val (.int (1 : Int32)), .val (.int (5 : Int32)), .val (.int (1 : Int32)), .val (.int (116 : Int32))]) rfl ?_
    refine XS.iload X9.here hx rfl (hb hby d5_15) rfl ?_
    refine XS.sipush X9.here hx rfl (hb hby d5_17) ?_
    refine XS.icmpYes X9.here hx rfl (pc0 := 20) (pc' := 26) rfl (hb hby d5_20) rfl (flt ((by decide : ¬ ((255 : Int32) < (116 : Int32))) : ¬ ((255 : Int32) < (116 : Int32)))).2.2.2 (by decide) (by decide) ?_
    refine XS.aloadN X9.here hx rfl (hb hby d5_26) rfl rfl ?_
    refine XS.iloadN X9.here hx rfl (hb hby d5_27) rfl ?_
    refine XS.iload X9.here hx rfl (hb hby d5_28) rfl ?_
    refine XS.i2b X9.here hx rfl (hb hby d5_30) rfl ?_
    refine st15 _ ?_
    show Steps p.tables e below (T15.setTop (mkF m 32 #[.val (.ref a1), .val (.int (1 : Int32)), .val (.ref a2), .val (.int (1 : Int32)), .val (.int (5 : Int32)), .val (.int (1 : Int32)), .val (.int (116 : Int32))] [])) _
    refine XS.iinc X15.here hx rfl (hb hby d5_32) rfl (l' := #[.val (.ref a1), .val (.int (2 : Int32)), .val (.ref a2), .val (.int (1 : Int32)), .val (.int (5 : Int32)), .val (.int (1 : Int32)), .val (.int (116 : Int32))]) rfl ?_
    refine XS.iinc X15.here hx rfl (hb hby d5_35) rfl (l' := #[.val (.ref a1), .val (.int (2 : Int32)), .val (.ref a2), .val (.int (2 : Int32)), .val (.int (5 : Int32)), .val (.int (1 : Int32)), .val (.int (116 : Int32))]) rfl ?_
    refine XS.iinc X15.here hx rfl (hb hby d5_38) rfl (l' := #[.val (.ref a1), .val (.int (2 : Int32)), .val (.ref a2), .val (.int (2 : Int32)), .val (.int (5 : Int32)), .val (.int (2 : Int32)), .val (.int (116 : Int32))]) rfl ?_
    refine XS.goto X15.here hx rfl (pc0 := 41) (pc' := 3) rfl (hb hby d5_41) (by decide) (by decide) ?_
    refine XS.iload X15.here hx rfl (hb hby d5_3) rfl ?_
    refine XS.iload X15.here hx rfl (hb hby d5_5) rfl ?_
    refine XS.icmpNo X15.here hx rfl (hb hby d5_7) rfl (tlt ((by decide : (2 : Int32) < (5 : Int32)) : (2 : Int32) < (5 : Int32))).2.1 ?_
    refine XS.aloadN X15.here hx rfl (hb hby d5_10) rfl rfl ?_
    refine XS.iloadN X15.here hx rfl (hb hby d5_11) rfl ?_
    refine X15.caload hx (j := (2 : Int32)) (v := (.int (116 : Int32))) (by rw [e15]; exact Ar17.1) (State.isArrayOf_alike hZ.alike Ar17.2.1) Ar17.2.2 hin18 (Has.at Hs17 hin18 rfl) (g := (mkF m 12 #[.val (.ref a1), .val (.int (2 : Int32)), .val (.ref a2), .val (.int (2 : Int32)), .val (.int (5 : Int32)), .val (.int (2 : Int32)), .val (.int (116 : Int32))] [(.int (2 : Int32)), (.ref a1)])) rfl rfl (hb hby d5_12) _ ?_
    refine XS.istore X15.here hx rfl (hb hby d5_13) rfl (l' := #[.val (.ref a1), .val (.int (2 : Int32)), .val (.ref a2), .val (.int (2 : Int32)), .val (.int (5 : Int32)), .val (.int (2 : Int32)), .val (.int (116 : Int32))]) rfl ?_
    refine XS.iload X15.here hx rfl (hb hby d5_15) rfl ?_
    show Steps p.tables e below (T15.setTop (mkF m 17 #[.val (.ref a1), .val (.int (2 : Int32)), .val (.ref a2), .val (.int (2 : Int32)), .val (.int (5 : Int32)), .val (.int (2 : Int32)), .val (.int (116 : Int32))] [(.int (116 : Int32))])) _
    refine XS.sipush X15.here hx rfl (hb hby d5_17) ?_
    refine XS.icmpYes X15.here hx rfl (pc0 := 20) (pc' := 26) rfl (hb hby d5_20) rfl (flt ((by decide : ¬ ((255 : Int32) < (116 : Int32))) : ¬ ((255 : Int32) < (116 : Int32)))).2.2.2 (by decide) (by decide) ?_
    refine XS.aloadN X15.here hx rfl (hb hby d5_26) rfl rfl ?_
    refine XS.iloadN X15.here hx rfl (hb hby d5_27) rfl ?_
    refine XS.iload X15.here hx rfl (hb hby d5_28) rfl ?_
    refine XS.i2b X15.here hx rfl (hb hby d5_30) rfl ?_
    refine st21 _ ?_
    refine XS.iinc X21.here hx rfl (hb hby d5_32) rfl (l' := #[.val (.ref a1), .val (.int (3 : Int32)), .val (.ref a2), .val (.int (2 : Int32)), .val (.int (5 : Int32)), .val (.int (2 : Int32)), .val (.int (116 : Int32))]) rfl ?_
    refine XS.iinc X21.here hx rfl (hb hby d5_35) rfl (l' := #[.val (.ref a1), .val (.int (3 : Int32)), .val (.ref a2), .val (.int (3 : Int32)), .val (.int (5 : Int32)), .val (.int (2 : Int32)), .val (.int (116 : Int32))]) rfl ?_
    refine XS.iinc X21.here hx rfl (hb hby d5_38) rfl (l' := #[.val (.ref a1), .val (.int (3 : Int32)), .val (.ref a2), .val (.int (3 : Int32)), .val (.int (5 : Int32)), .val (.int (3 : Int32)), .val (.int (116 : Int32))]) rfl ?_
    refine XS.goto X21.here hx rfl (pc0 := 41) (pc' := 3) rfl (hb hby d5_41) (by decide) (by decide) ?_
    refine XS.iload X21.here hx rfl (hb hby d5_3) rfl ?_
    show Steps p.tables e below (T21.setTop (mkF m 5 #[.val (.ref a1), .val (.int (3 : Int32)), .val (.ref a2), .val (.int (3 : Int32)), .val (.int (5 : Int32)), .val (.int (3 : Int32)), .val (.int (116 : Int32))] [(.int (3 : Int32))])) _
    refine XS.iload X21.here hx rfl (hb hby d5_5) rfl ?_
    refine XS.icmpNo X21.here hx rfl (hb hby d5_7) rfl (tlt ((by decide : (3 : Int32) < (5 : Int32)) : (3 : Int32) < (5 : Int32))).2.1 ?_
    refine XS.aloadN X21.here hx rfl (hb hby d5_10) rfl rfl ?_
    refine XS.iloadN X21.here hx rfl (hb hby d5_11) rfl ?_
    refine X21.caload hx (j := (3 : Int32)) (v := (.int (112 : Int32))) (by rw [e21]; exact Ar23.1) (State.isArrayOf_alike hZ.alike Ar23.2.1) Ar23.2.2 hin24 (Has.at Hs23 hin24 rfl) (g := (mkF m 12 #[.val (.ref a1), .val (.int (3 : Int32)), .val (.ref a2), .val (.int (3 : Int32)), .val (.int (5 : Int32)), .val (.int (3 : Int32)), .val (.int (116 : Int32))] [(.int (3 : Int32)), (.ref a1)])) rfl rfl (hb hby d5_12) _ ?_
    refine XS.istore X21.here hx rfl (hb hby d5_13) rfl (l' := #[.val (.ref a1), .val (.int (3 : Int32)), .val (.ref a2), .val (.int (3 : Int32)), .val (.int (5 : Int32)), .val (.int (3 : Int32)), .val (.int (112 : Int32))]) rfl ?_
    refine XS.iload X21.here hx rfl (hb hby d5_15) rfl ?_
    refine XS.sipush X21.here hx rfl (hb hby d5_17) ?_
    refine XS.icmpYes X21.here hx rfl (pc0 := 20) (pc' := 26) rfl (hb hby d5_20) rfl (flt ((by decide : ¬ ((255 : Int32) < (112 : Int32))) : ¬ ((255 : Int32) < (112 : Int32)))).2.2.2 (by decide) (by decide) ?_
    refine XS.aloadN X21.here hx rfl (hb hby d5_26) rfl rfl ?_
    refine XS.iloadN X21.here hx rfl (hb hby d5_27) rfl ?_
    refine XS.iload X21.here hx rfl (hb hby d5_28) rfl ?_
    show Steps p.tables e below (T21.setTop (mkF m 30 #[.val (.ref a1), .val (.int (3 : Int32)), .val (.ref a2), .val (.int (3 : Int32)), .val (.int (5 : Int32)), .val (.int (3 : Int32)), .val (.int (112 : Int32))] [(.int (112 : Int32)), (.int (3 : Int32)), (.ref a2)])) _
    refine XS.i2b X21.here hx rfl (hb hby d5_30) rfl ?_
    refine st27 _ ?_
    refine XS.iinc X27.here hx rfl (hb hby d5_32) rfl (l' := #[.val (.ref a1), .val (.int (4 : Int32)), .val (.ref a2), .val (.int (3 : Int32)), .val (.int (5 : Int32)), .val (.int (3 : Int32)), .val (.int (112 : Int32))]) rfl ?_
    refine XS.iinc X27.here hx rfl (hb hby d5_35) rfl (l' := #[.val (.ref a1), .val (.int (4 : Int32)), .val (.ref a2), .val (.int (4 : Int32)), .val (.int (5 : Int32)), .val (.int (3 : Int32)), .val (.int (112 : Int32))]) rfl ?_
    refine XS.iinc X27.here hx rfl (hb hby d5_38) rfl (l' := #[.val (.ref a1), .val (.int (4 : Int32)), .val (.ref a2), .val (.int (4 : Int32)), .val (.int (5 : Int32)), .val (.int (4 : Int32)), .val (.int (112 : Int32))]) rfl ?_
    refine XS.goto X27.here hx rfl (pc0 := 41) (pc' := 3) rfl (hb hby d5_41) (by decide) (by decide) ?_
    refine XS.iload X27.here hx rfl (hb hby d5_3) rfl ?_
    refine XS.iload X27.here hx rfl (hb hby d5_5) rfl ?_
    refine XS.icmpNo X27.here hx rfl (hb hby d5_7) rfl (tlt ((by decide : (4 : Int32) < (5 : Int32)) : (4 : Int32) < (5 : Int32))).2.1 ?_
    refine XS.aloadN X27.here hx rfl (hb hby d5_10) rfl rfl ?_
    refine XS.iloadN X27.here hx rfl (hb hby d5_11) rfl ?_
    refine X27.caload hx (j := (4 : Int32)) (v := (.int (49 : Int32))) (by rw [e27]; exact Ar29.1) (State.isArrayOf_alike hZ.alike Ar29.2.1) Ar29.2.2 hin30 (Has.at Hs29 hin30 rfl) (g := (mkF m 12 #[.val (.ref a1), .val (.int (4 : Int32)), .val (.ref a2), .val (.int (4 : Int32)), .val (.int (5 : Int32)), .val (.int (4 : Int32)), .val (.int (112 : Int32))] [(.int (4 : Int32)), (.ref a1)])) rfl rfl (hb hby d5_12) _ ?_
    show Steps p.tables e below (T27.setTop (mkF m 13 #[.val (.ref a1), .val (.int (4 : Int32)), .val (.ref a2), .val (.int (4 : Int32)), .val (.int (5 : Int32)), .val (.int (4 : Int32)), .val (.int (112 : Int32))] [(.int (49 : Int32))])) _
    refine XS.istore X27.here hx rfl (hb hby d5_13) rfl (l' := #[.val (.ref a1), .val (.int (4 : Int32)), .val (.ref a2), .val (.int (4 : Int32)), .val (.int (5 : Int32)), .val (.int (4 : Int32)), .val (.int (49 : Int32))]) rfl ?_
    refine XS.iload X27.here hx rfl (hb hby d5_15) rfl ?_
    refine XS.sipush X27.here hx rfl (hb hby d5_17) ?_
    refine XS.icmpYes X27.here hx rfl (pc0 := 20) (pc' := 26) rfl (hb hby d5_20) rfl (flt ((by decide : ¬ ((255 : Int32) < (49 : Int32))) : ¬ ((255 : Int32) < (49 : Int32)))).2.2.2 (by decide) (by decide) ?_
    refine XS.aloadN X27.here hx rfl (hb hby d5_26) rfl rfl ?_
    refine XS.iloadN X27.here hx rfl (hb hby d5_27) rfl ?_
    refine XS.iload X27.here hx rfl (hb hby d5_28) rfl ?_
    refine XS.i2b X27.here hx rfl (hb hby d5_30) rfl ?_
    refine st33 _ ?_
    refine XS.iinc X33.here hx rfl (hb hby d5_32) rfl (l' := #[.val (.ref a1), .val (.int (5 : Int32)), .val (.ref a2), .val (.int (4 : Int32)), .val (.int (5 : Int32)), .val (.int (4 : Int32)), .val (.int (49 : Int32))]) rfl ?_
    refine XS.iinc X33.here hx rfl (hb hby d5_35) rfl (l' := #[.val (.ref a1), .val (.int (5 : Int32)), .val (.ref a2), .val (.int (5 : Int32)), .val (.int (5 : Int32)), .val (.int (4 : Int32)), .val (.int (49 : Int32))]) rfl ?_
    refine XS.iinc X33.here hx rfl (hb hby d5_38) rfl (l' := #[.val (.ref a1), .val (.int (5 : Int32)), .val (.ref a2), .val (.int (5 : Int32)), .val (.int (5 : Int32)), .val (.int (5 : Int32)), .val (.int (49 : Int32))]) rfl ?_
    show Steps p.tables e below (T33.setTop (mkF m 41 #[.val (.ref a1), .val (.int (5 : Int32)), .val (.ref a2), .val (.int (5 : Int32)), .val (.int (5 : Int32)), .val (.int (5 : Int32)), .val (.int (49 : Int32))] [])) _
    refine XS.goto X33.here hx rfl (pc0 := 41) (pc' := 3) rfl (hb hby d5_41) (by decide) (by decide) ?_
    refine XS.iload X33.here hx rfl (hb hby d5_3) rfl ?_
    refine XS.iload X33.here hx rfl (hb hby d5_5) rfl ?_
    refine XS.icmpYes X33.here hx rfl (pc0 := 7) (pc' := 44) rfl (hb hby d5_7) rfl (flt ((by decide : ¬ ((5 : Int32) < (5 : Int32))) : ¬ ((5 : Int32) < (5 : Int32)))).2.1 (by decide) (by decide) ?_
    refine XS.iload X33.here hx rfl (hb hby d5_44) rfl ?_
    exact retI X33 hx hret (hb hby d5_46) hr
theorem pd_0 : parseMethodDescriptor "([CI[BII)I" = some ⟨[(.array .char), .int, (.array .byte), .int, .int], some .int⟩ := by decide +kernel
theorem w_17 {a0 : Array Value} {Z : State} (hw : ∀ d ∈ tables_1, d.before a0 Z = true) : Jvm.Cond.before (Jvm.Cond.initialized "java/lang/StringUTF16") a0 Z = true := hw _ (List.mem_of_getElem? (i := 17) rfl)
theorem w_22 {a0 : Array Value} {Z : State} (hw : ∀ d ∈ tables_1, d.before a0 Z = true) : Jvm.Cond.before (Jvm.Cond.code ({ cls := "java/lang/StringUTF16", name := "compress", desc := "([CI[BII)I" } : Jvm.MethodName) jdk_52_method_21_code (7 : Nat) (Option.some Jvm.ClassFile.FieldType.int)) a0 Z = true := hw _ (List.mem_of_getElem? (i := 22) rfl)
theorem w_20 {a0 : Array Value} {Z : State} (hw : ∀ d ∈ tables_1, d.before a0 Z = true) : Jvm.Cond.before (Jvm.Cond.methodLink "java/lang/StringUTF16" (115 : Nat) ({ cls := "java/lang/StringUTF16", name := "compress", desc := "([CI[BII)I" } : Jvm.MethodName)) a0 Z = true := hw _ (List.mem_of_getElem? (i := 20) rfl)
theorem w_21 {a0 : Array Value} {Z : State} (hw : ∀ d ∈ tables_1, d.before a0 Z = true) : Jvm.Cond.before (Jvm.Cond.static ({ cls := "java/lang/StringUTF16", name := "compress", desc := "([CI[BII)I" } : Jvm.MethodName)) a0 Z = true := hw _ (List.mem_of_getElem? (i := 21) rfl)
theorem d4_12 : decode jdk_52_method_16_code 12 = .ok (.istore 4, 2) := by decide +kernel
theorem d4_14 : decode jdk_52_method_16_code 14 = .ok (.iload 4, 2) := by decide +kernel
theorem d4_16 : decode jdk_52_method_16_code 16 = .ok (.iload_n 2, 1) := by decide +kernel
theorem d4_17 : decode jdk_52_method_16_code 17 = .ok (.if_icmp .eq 40, 3) := by decide +kernel
theorem d4_57 : decode jdk_52_method_16_code 57 = .ok (.aload_n 3, 1) := by decide +kernel
theorem d4_58 : decode jdk_52_method_16_code 58 = .ok (.areturn, 1) := by decide +kernel
abbrev y_1 : MethodName := ⟨"java/lang/StringUTF16", "compress", "([CII)[B"⟩
-- java/lang/StringUTF16.compress([CII)[B
abbrev Rm2 : Room := { frames := 1, cells := 1, slots := 5, locals := 18 }
def Q2 (Z : State) (a1 : Addr) (k3 : ClassId) (h0 : Heap) (n0 : Nat) (v : Option Value) (h : Heap) (L : List Loc) : Prop := ∃ b2 : Addr, ∃ k2 : ClassId, v = some (.ref b2) ∧ Fr n0 L ∧ Keep h0 h [] ∧ h0.size ≤ b2 ∧ Exa Z h b2 "[B" ∧ Arv Z h b2 k2 .byte (5 : Int32) [(.int (104 : Int32)), (.int (116 : Int32)), (.int (116 : Int32)), (.int (112 : Int32)), (.int (49 : Int32))] (.int (0 : Int32))
theorem ef2 (a1 : Addr) (m : MethodId) : entryFrame m #[(.ref a1), (.int (0 : Int32)), (.int (5 : Int32))] 6 = mkF m 0 #[.val (.ref a1), .val (.int (0 : Int32)), .val (.int (5 : Int32)), .unset, .unset, .unset] [] := by first | (simp [entryFrame, mkF, argsToLocals, Value.category]; done) | rfl
theorem rm2 (l : Launch) (Z : State) (a0 : Array Value) (hw : ∀ d ∈ tables_1, d.before a0 Z = true) (ws : List Jvm.Cond) (a1 : Addr) (k3 : ClassId) (h0 : Heap) (n0 : Nat) (Z0 : n0 ≤ h0.size) (V_a1 : Arv Z h0 a1 k3 .char (5 : Int32) [(.int (104 : Int32)), (.int (116 : Int32)), (.int (116 : Int32)), (.int (112 : Int32)), (.int (49 : Int32))] (.int (0 : Int32))) :
    OwnMet l Z y_1 jdk_52_method_16_code 6 (some (.array .byte)) ws Rm2 #[(.ref a1), (.int (0 : Int32)), (.int (5 : Int32))] h0 (Q2 Z a1 k3 h0 n0) := by
  refine own_body (plainFor_of_name pn_0) (ef2 a1) ?_
  intro p e s m below meth c s₁ hx hby hml hown hnm hret hZ X0 e0
  have N0 := Fr.nil n0
  obtain ⟨T2, h2, k2, X2, e2, E2, A2, B2, st2⟩ := newPE (aty := .byte) X0 hx hZ (w_19 hw) e0 (g := (mkF m 1 #[.val (.ref a1), .val (.int (0 : Int32)), .val (.int (5 : Int32)), .unset, .unset, .unset] [(.int (5 : Int32))])) rfl (hb hby d4_1) rfl (by decide) (cap := 5) (by decide) (by decide) (by decide) (by decide) (ad := "[B") (by decide)
  obtain ⟨b2, g2⟩ : ∃ z, z = h0.size := ⟨_, rfl⟩
  rw [← g2] at A2 B2 st2
  have s0 := E2.1
  have Vn2 : Arv Z h2 b2 k2 .byte (5 : Int32) [(.int (0 : Int32)), (.int (0 : Int32)), (.int (0 : Int32)), (.int (0 : Int32)), (.int (0 : Int32))] (.int (0 : Int32)) := (Arv.new A2 (by decide)).pad (pad_rep [] (.int (0 : Int32)) 5)
  have Va4 := (V_a1.ext E2)
  have g_b2 : n0 ≤ b2 := Nat.le_trans Z0 (Nat.le_of_eq g2.symm)
  have ne_a1_b2 := Nat.ne_of_lt (Nat.lt_of_lt_of_le V_a1.lt (Nat.le_of_eq g2.symm))
  have z1 := Nat.le_trans Z0 s0
  obtain ⟨_, T5, L5, X5, hQ5, st5⟩ := own_callS X2 hx hZ hown (y := y_0) (w_20 hw) (w_21 hw) (w_17 hw) (w_22 hw) (rm1 l Z a0 hw [] a1 b2 k3 k2 h2 n0 z1 Va4 Vn2 g_b2 ne_a1_b2 B2) e2 (Ls := #[.val (.ref a1), .val (.int (0 : Int32)), .val (.int (5 : Int32)), .val (.ref b2), .unset, .unset]) (by rw [hml]; rfl) (argsL := [(.ref a1), (.int (0 : Int32)), (.ref b2), (.int (0 : Int32)), (.int (5 : Int32))]) (rest := []) (lenOf pd_0 rfl) (hb hby d4_9) (W := 0)
  obtain ⟨rfl, Nq5, K5, o5_0, o5_1⟩ := hQ5
  have N5 := Fr.app N0 Nq5
  have s1 := K5.1
  have sz_b2 : h0.size ≤ b2 := (Nat.le_of_eq g2.symm)
  have Kp0 : Keep h0 h2 [] := (Keep.refl h0 []).ext E2
  have Kp1 : Keep h0 T5.heap [] := Kp0.trans K5 (allS (Or.inr sz_b2) all0)
  refine ⟨T5, _, _, _, (some (.ref b2)), X5, nofun, by decide, by decide, ?_, fun fs hr => ?_⟩
  · show Q2 Z a1 k3 h0 n0 _ T5.heap _
    exact ⟨b2, k2, rfl, N5, Kp1, sz_b2, o5_0, o5_1⟩
  · show Steps p.tables e below (s₁.setTop (mkF m 0 #[.val (.ref a1), .val (.int (0 : Int32)), .val (.int (5 : Int32)), .unset, .unset, .unset] [])) _
    refine XS.iloadN X0.here hx rfl (hb hby d4_0) rfl ?_
    refine st2 _ ?_
    refine XS.astoreN X2.here hx rfl (hb hby d4_3) rfl rfl (l' := #[.val (.ref a1), .val (.int (0 : Int32)), .val (.int (5 : Int32)), .val (.ref b2), .unset, .unset]) rfl ?_
    refine XS.aloadN X2.here hx rfl (hb hby d4_4) rfl rfl ?_
    refine XS.iloadN X2.here hx rfl (hb hby d4_5) rfl ?_
    refine XS.aloadN X2.here hx rfl (hb hby d4_6) rfl rfl ?_
    refine XS.iconst X2.here hx rfl (hb hby d4_7) ?_
    refine XS.iloadN X2.here hx rfl (hb hby d4_8) rfl ?_
    refine st5 _ ?_
    refine XS.istore X5.here hx rfl (hb hby d4_12) rfl (l' := #[.val (.ref a1), .val (.int (0 : Int32)), .val (.int (5 : Int32)), .val (.ref b2), .val (.int (5 : Int32)), .unset]) rfl ?_
    refine XS.iload X5.here hx rfl (hb hby d4_14) rfl ?_
    refine XS.iloadN X5.here hx rfl (hb hby d4_16) rfl ?_
    show Steps p.tables e below (T5.setTop (mkF m 17 #[.val (.ref a1), .val (.int (0 : Int32)), .val (.int (5 : Int32)), .val (.ref b2), .val (.int (5 : Int32)), .unset] [(.int (5 : Int32)), (.int (5 : Int32))])) _
    refine XS.icmpYes X5.here hx rfl (pc0 := 17) (pc' := 57) rfl (hb hby d4_17) rfl (teq ((by decide : (5 : Int32) = (5 : Int32)) : (5 : Int32) = (5 : Int32))).1 (by decide) (by decide) ?_
    refine XS.aloadN X5.here hx rfl (hb hby d4_57) rfl rfl ?_
    exact retOut X5 hx hret rfl (Or.inr (Or.inr (Or.inr (Or.inr ⟨rfl, rfl, rfl⟩)))) (hb hby d4_58) hr
theorem pd_1 : parseMethodDescriptor "([CII)[B" = some ⟨[(.array .char), .int, .int], some (.array .byte)⟩ := by decide +kernel
theorem w_18 {a0 : Array Value} {Z : State} (hw : ∀ d ∈ tables_1, d.before a0 Z = true) : Jvm.Cond.before (Jvm.Cond.code ({ cls := "java/lang/StringUTF16", name := "compress", desc := "([CII)[B" } : Jvm.MethodName) jdk_52_method_16_code (6 : Nat) (Option.some (Jvm.ClassFile.FieldType.array Jvm.ClassFile.FieldType.byte))) a0 Z = true := hw _ (List.mem_of_getElem? (i := 18) rfl)
theorem w_15 {a0 : Array Value} {Z : State} (hw : ∀ d ∈ tables_1, d.before a0 Z = true) : Jvm.Cond.before (Jvm.Cond.methodLink "java/lang/String" (177 : Nat) ({ cls := "java/lang/StringUTF16", name := "compress", desc := "([CII)[B" } : Jvm.MethodName)) a0 Z = true := hw _ (List.mem_of_getElem? (i := 15) rfl)
theorem w_16 {a0 : Array Value} {Z : State} (hw : ∀ d ∈ tables_1, d.before a0 Z = true) : Jvm.Cond.before (Jvm.Cond.static ({ cls := "java/lang/StringUTF16", name := "compress", desc := "([CII)[B" } : Jvm.MethodName)) a0 Z = true := hw _ (List.mem_of_getElem? (i := 16) rfl)
theorem d2_39 : decode jdk_42_method_149_code 39 = .ok (.astore 5, 2) := by decide +kernel
theorem d2_41 : decode jdk_42_method_149_code 41 = .ok (.aload_n 0, 1) := by decide +kernel
theorem d2_42 : decode jdk_42_method_149_code 42 = .ok (.aload 5, 2) := by decide +kernel
theorem d2_44 : decode jdk_42_method_149_code 44 = .ok (.iload_n 3, 1) := by decide +kernel
theorem d2_45 : decode jdk_42_method_149_code 45 = .ok (.invokestatic 47, 3) := by decide +kernel
theorem d6_0 : decode jdk_52_method_15_code 0 = .ok (.iload_n 1, 1) := by decide +kernel
theorem d6_1 : decode jdk_52_method_15_code 1 = .ok (.aload_n 0, 1) := by decide +kernel
theorem d6_2 : decode jdk_52_method_15_code 2 = .ok (.arraylength, 1) := by decide +kernel
theorem d6_3 : decode jdk_52_method_15_code 3 = .ok (.isub, 1) := by decide +kernel
theorem d6_4 : decode jdk_52_method_15_code 4 = .ok (.bipush 31, 2) := by decide +kernel
theorem d6_6 : decode jdk_52_method_15_code 6 = .ok (.iushr, 1) := by decide +kernel
theorem d6_7 : decode jdk_52_method_15_code 7 = .ok (.i2b, 1) := by decide +kernel
theorem d6_8 : decode jdk_52_method_15_code 8 = .ok (.ireturn, 1) := by decide +kernel
abbrev y_2 : MethodName := ⟨"java/lang/StringUTF16", "coderFromArrayLen", "([BI)B"⟩
-- java/lang/StringUTF16.coderFromArrayLen([BI)B
abbrev Rm3 : Room := { frames := 0, cells := 0, slots := 0, locals := 0 }
def Q3 (Z : State) (a1 : Addr) (k2 : ClassId) (h0 : Heap) (n0 : Nat) (v : Option Value) (h : Heap) (L : List Loc) : Prop := v = some (.int (0 : Int32)) ∧ Fr n0 L ∧ h = h0
theorem ef3 (a1 : Addr) (m : MethodId) : entryFrame m #[(.ref a1), (.int (5 : Int32))] 2 = mkF m 0 #[.val (.ref a1), .val (.int (5 : Int32))] [] := by first | (simp [entryFrame, mkF, argsToLocals, Value.category]; done) | rfl
theorem rm3 (l : Launch) (Z : State) (a0 : Array Value) (hw : ∀ d ∈ tables_1, d.before a0 Z = true) (ws : List Jvm.Cond) (a1 : Addr) (k2 : ClassId) (h0 : Heap) (n0 : Nat) (Z0 : n0 ≤ h0.size) (V_a1 : Arv Z h0 a1 k2 .byte (5 : Int32) [(.int (104 : Int32)), (.int (116 : Int32)), (.int (116 : Int32)), (.int (112 : Int32)), (.int (49 : Int32))] (.int (0 : Int32))) :
    OwnMet l Z y_2 jdk_52_method_15_code 2 (some .byte) ws Rm3 #[(.ref a1), (.int (5 : Int32))] h0 (Q3 Z a1 k2 h0 n0) := by
  refine own_body (plainFor_of_name pn_0) (ef3 a1) ?_
  intro p e s m below meth c s₁ hx hby hml hown hnm hret hZ X0 e0
  have N0 := Fr.nil n0
  obtain ⟨cl3, Ar3, q3, S3, M3, Hs3, G3⟩ := id V_a1
  refine ⟨s₁, _, _, _, (some (.int (0 : Int32))), X0, nofun, by decide, by decide, ?_, fun fs hr => ?_⟩
  · show Q3 Z a1 k2 h0 n0 _ s₁.heap _
    rw [e0]
    exact ⟨rfl, N0, rfl⟩
  · show Steps p.tables e below (s₁.setTop (mkF m 0 #[.val (.ref a1), .val (.int (5 : Int32))] [])) _
    refine XS.iloadN X0.here hx rfl (hb hby d6_0) rfl ?_
    refine XS.aloadN X0.here hx rfl (hb hby d6_1) rfl rfl ?_
    refine X0.arraylength hx (by rw [e0]; exact Ar3.1) (State.isArrayOf_alike hZ.alike Ar3.2.1) (g := (mkF m 2 #[.val (.ref a1), .val (.int (5 : Int32))] [(.ref a1), (.int (5 : Int32))])) rfl rfl (hb hby d6_2) _ ?_
    show Steps p.tables e below (s₁.setTop (mkF m 3 #[.val (.ref a1), .val (.int (5 : Int32))] [(.int cl3.slots.size.toInt32), (.int (5 : Int32))])) _
    rw [len_of S3 M3]
    refine XS.isub X0.here hx rfl (hb hby d6_3) rfl ?_
    refine XS.bipush X0.here hx rfl (hb hby d6_4) ?_
    refine XS.iushr X0.here hx rfl (hb hby d6_6) rfl ?_
    refine XS.i2b X0.here hx rfl (hb hby d6_7) rfl ?_
    exact retN X0 hx (t := .byte) hret (by simp) (hb hby d6_8) hr
theorem pd_2 : parseMethodDescriptor "([BI)B" = some ⟨[(.array .byte), .int], some .byte⟩ := by decide +kernel
theorem w_25 {a0 : Array Value} {Z : State} (hw : ∀ d ∈ tables_1, d.before a0 Z = true) : Jvm.Cond.before (Jvm.Cond.code ({ cls := "java/lang/StringUTF16", name := "coderFromArrayLen", desc := "([BI)B" } : Jvm.MethodName) jdk_52_method_15_code (2 : Nat) (Option.some Jvm.ClassFile.FieldType.byte)) a0 Z = true := hw _ (List.mem_of_getElem? (i := 25) rfl)
theorem w_23 {a0 : Array Value} {Z : State} (hw : ∀ d ∈ tables_1, d.before a0 Z = true) : Jvm.Cond.before (Jvm.Cond.methodLink "java/lang/String" (47 : Nat) ({ cls := "java/lang/StringUTF16", name := "coderFromArrayLen", desc := "([BI)B" } : Jvm.MethodName)) a0 Z = true := hw _ (List.mem_of_getElem? (i := 23) rfl)
theorem w_24 {a0 : Array Value} {Z : State} (hw : ∀ d ∈ tables_1, d.before a0 Z = true) : Jvm.Cond.before (Jvm.Cond.static ({ cls := "java/lang/StringUTF16", name := "coderFromArrayLen", desc := "([BI)B" } : Jvm.MethodName)) a0 Z = true := hw _ (List.mem_of_getElem? (i := 24) rfl)
theorem d2_48 : decode jdk_42_method_149_code 48 = .ok (.putfield 15, 3) := by decide +kernel
theorem w_26 {a0 : Array Value} {Z : State} (hw : ∀ d ∈ tables_1, d.before a0 Z = true) : Jvm.Cond.before (Jvm.Cond.fieldLink "java/lang/String" (15 : Nat) "java/lang/String" "coder" "B") a0 Z = true := hw _ (List.mem_of_getElem? (i := 26) rfl)
theorem d2_51 : decode jdk_42_method_149_code 51 = .ok (.aload_n 0, 1) := by decide +kernel
theorem d2_52 : decode jdk_42_method_149_code 52 = .ok (.aload 5, 2) := by decide +kernel
theorem d2_54 : decode jdk_42_method_149_code 54 = .ok (.putfield 9, 3) := by decide +kernel
theorem w_28 {a0 : Array Value} {Z : State} (hw : ∀ d ∈ tables_1, d.before a0 Z = true) : Jvm.Cond.before (Jvm.Cond.fieldLink "java/lang/String" (9 : Nat) "java/lang/String" "value" "[B") a0 Z = true := hw _ (List.mem_of_getElem? (i := 28) rfl)
theorem d2_57 : decode jdk_42_method_149_code 57 = .ok (.return_, 1) := by decide +kernel
abbrev y_3 : MethodName := ⟨"java/lang/String", "<init>", "([CIILjava/lang/Void;)V"⟩
theorem pn_1 : plainName "java/lang/String" = true := by first | (simp [plainName, overriddenIn]; done) | decide +kernel
-- java/lang/String.<init>([CIILjava/lang/Void;)V
abbrev Rm4 : Room := { frames := 2, cells := 1, slots := 5, locals := 35 }
def Q4 (Z : State) (a1 : Addr) (a2 : Addr) (p4 : Int32) (k7 : ClassId) (h0 : Heap) (n0 : Nat) (v : Option Value) (h : Heap) (L : List Loc) : Prop := ∃ b8_b2 : Addr, ∃ k8_k2 : ClassId, v = none ∧ Fr n0 L ∧ Keep h0 h [a1] ∧ Exa Z h a1 "java/lang/String" ∧ Fld Z h a1 "java/lang/String" "coder" "B" (.int (0 : Int32)) ∧ Fld Z h a1 "java/lang/String" "value" "[B" (.ref b8_b2) ∧ h0.size ≤ b8_b2 ∧ Exa Z h b8_b2 "[B" ∧ Arv Z h b8_b2 k8_k2 .byte (5 : Int32) [(.int (104 : Int32)), (.int (116 : Int32)), (.int (116 : Int32)), (.int (112 : Int32)), (.int (49 : Int32))] (.int (0 : Int32))
theorem ef4 (a1 : Addr) (a2 : Addr) (m : MethodId) : entryFrame m #[(.ref a1), (.ref a2), (.int (0 : Int32)), (.int (5 : Int32)), .null] 6 = mkF m 0 #[.val (.ref a1), .val (.ref a2), .val (.int (0 : Int32)), .val (.int (5 : Int32)), .val .null, .unset] [] := by first | (simp [entryFrame, mkF, argsToLocals, Value.category]; done) | rfl
theorem rm4 (l : Launch) (Z : State) (a0 : Array Value) (hw : ∀ d ∈ tables_1, d.before a0 Z = true) (ws : List Jvm.Cond) (a1 : Addr) (a2 : Addr) (p4 : Int32) (k7 : ClassId) (h0 : Heap) (n0 : Nat) (Z0 : n0 ≤ h0.size) (S_COMPACT_STRINGS : Sta Z Z.heap "java/lang/String" "COMPACT_STRINGS" "Z" (.int p4)) (Od0 : Old Z n0 h0) (c6 : ¬ (p4 = (0 : Int32))) (V_a2 : Arv Z h0 a2 k7 .char (5 : Int32) [(.int (104 : Int32)), (.int (116 : Int32)), (.int (116 : Int32)), (.int (112 : Int32)), (.int (49 : Int32))] (.int (0 : Int32))) (F_coder_a1 : Fld Z h0 a1 "java/lang/String" "coder" "B" (.int (0 : Int32))) (E_a1 : Exa Z h0 a1 "java/lang/String") (g_a1 : n0 ≤ a1) (F_value_a1 : Fld Z h0 a1 "java/lang/String" "value" "[B" .null) :
    OwnMet l Z y_3 jdk_42_method_149_code 6 none ws Rm4 #[(.ref a1), (.ref a2), (.int (0 : Int32)), (.int (5 : Int32)), .null] h0 (Q4 Z a1 a2 p4 k7 h0 n0) := by
  refine own_body (plainFor_of_name pn_1) (ef4 a1 a2) ?_
  intro p e s m below meth c s₁ hx hby hml hown hnm hret hZ X0 e0
  have N0 := Fr.nil n0
  obtain ⟨T3, X3, e3, st3⟩ := initO X0 hx hZ hown (w_11 hw) (w_12 hw) (w_13 hw) e0 (g := (mkF m 1 #[.val (.ref a1), .val (.ref a2), .val (.int (0 : Int32)), .val (.int (5 : Int32)), .val .null, .unset] [(.ref a1)])) rfl (by rw [hml]; rfl) rfl (hb hby d2_1) (by decide) (W := 0) (by show 2 * 0 + _ ≤ _; exact Nat.le_of_eq rfl) (by decide)
  obtain ⟨T5, X5, e5, st5⟩ := getS2 X3 hx hZ hown (host := "") (Or.inl (w_14 hw)) Via.refl e3 (S_COMPACT_STRINGS.ext Od0.2) (g := (mkF m 27 #[.val (.ref a1), .val (.ref a2), .val (.int (0 : Int32)), .val (.int (5 : Int32)), .val .null, .unset] [])) rfl (hb hby d2_27)
  obtain ⟨_, T8, L8, X8, hQ8, st8⟩ := own_callS X5 hx hZ hown (y := y_1) (w_15 hw) (w_16 hw) (w_17 hw) (w_18 hw) (rm2 l Z a0 hw [] a2 k7 h0 n0 Z0 V_a2) e5 (Ls := #[.val (.ref a1), .val (.ref a2), .val (.int (0 : Int32)), .val (.int (5 : Int32)), .val .null, .unset]) (by rw [hml]; rfl) (argsL := [(.ref a2), (.int (0 : Int32)), (.int (5 : Int32))]) (rest := []) (lenOf pd_1 rfl) (hb hby d2_36) (W := 0)
  obtain ⟨b8_b2, k8_k2, rfl, Nq8, K8, o8_0, o8_1, o8_2⟩ := hQ8
  have N8 := Fr.app N0 Nq8
  have s0 := K8.1
  have z1 := Nat.le_trans Z0 s0
  obtain ⟨_, T9, L9, X9, hQ9, st9⟩ := own_callS X8 hx hZ hown (y := y_2) (w_23 hw) (w_24 hw) (w_17 hw) (w_25 hw) (rm3 l Z a0 hw [] b8_b2 k8_k2 T8.heap n0 z1 o8_2) rfl (Ls := #[.val (.ref a1), .val (.ref a2), .val (.int (0 : Int32)), .val (.int (5 : Int32)), .val .null, .val (.ref b8_b2)]) (by rw [hml]; rfl) (argsL := [(.ref b8_b2), (.int (5 : Int32))]) (rest := [(.ref a1)]) (lenOf pd_2 rfl) (hb hby d2_45) (W := 1)
  obtain ⟨rfl, Nq9, e9⟩ := hQ9
  have N9 := Fr.app N8 Nq9
  have Fl10 := (F_coder_a1.keep K8 nin0)
  have Ex11 := (E_a1.keep K8)
  obtain ⟨T12, h12, X12, e12, W12, st12⟩ := putFN X9 hx hZ hown (w_26 hw) Via.refl e9 Fl10 Ex11 (Or.inr ⟨(w_27 hw), rfl, hnm⟩) (w_2 hw) (ty := .byte) (v' := (.int (nar .byte (0 : Int32)))) (by decide) rfl (fits_nar_byte _) (g := (mkF m 48 #[.val (.ref a1), .val (.ref a2), .val (.int (0 : Int32)), .val (.int (5 : Int32)), .val .null, .val (.ref b8_b2)] [(.int (0 : Int32)), (.ref a1)])) rfl rfl (hb hby d2_48)
  have s1 := (Keep.of_wr W12).1
  have N12 := Fr.snoc X12 N9 g_a1
  have Fw12 : Fld Z h12 a1 "java/lang/String" "coder" "B" (.int (0 : Int32)) := Fl10.same W12
  have Ex13 := (Ex11.wr W12)
  have Fl14 := ((F_value_a1.keep K8 nin0).other W12 (Or.inr (slot_ne (Or.inr (w_29 hw)) (Or.inr (w_27 hw)) (by decide) (t := (.array .byte)) (t' := .byte) (by decide) (by decide))))
  obtain ⟨T15, h15, X15, e15, W15, st15⟩ := putF X12 hx hZ hown (host := "") (Or.inl (w_28 hw)) Via.refl e12 Fl14 Ex13 (Or.inr ⟨(w_29 hw), rfl, hnm⟩) (w_2 hw) (ty := (.array .byte)) (by decide) rfl rfl (g := (mkF m 54 #[.val (.ref a1), .val (.ref a2), .val (.int (0 : Int32)), .val (.int (5 : Int32)), .val .null, .val (.ref b8_b2)] [(.ref b8_b2), (.ref a1)])) rfl rfl (hb hby d2_54)
  have s2 := (Keep.of_wr W15).1
  have N15 := Fr.snoc X15 N12 g_a1
  have Fw15 : Fld Z h15 a1 "java/lang/String" "value" "[B" (.ref b8_b2) := Fl14.same W15
  have Ex16 := (Ex13.wr W15)
  have Fl17 := (Fw12.other W15 (Or.inr (slot_ne (Or.inr (w_27 hw)) (Or.inr (w_29 hw)) (by decide) (t := .byte) (t' := (.array .byte)) (by decide) (by decide))))
  have sz_b8_b2 : h0.size ≤ b8_b2 := o8_0
  have Ex18 := ((o8_1.wr W12).wr W15)
  have ne_a1_b8_b2 := Nat.ne_of_lt (Nat.lt_of_lt_of_le F_value_a1.lt o8_0)
  have Va19 := ((o8_2.other W12 (Ne.symm ne_a1_b8_b2)).other W15 (Ne.symm ne_a1_b8_b2))
  have Kp0 : Keep h0 T8.heap [a1] := (Keep.refl h0 [a1]).trans K8 all0
  have Kp1 : Keep h0 h12 [a1] := Kp0.wr W12 (Or.inl (List.mem_of_getElem? (i := 0) rfl))
  have Kp2 : Keep h0 h15 [a1] := Kp1.wr W15 (Or.inl (List.mem_of_getElem? (i := 0) rfl))
  refine ⟨T15, _, _, _, none, X15, (fun _ => rfl), by decide, by decide, ?_, fun fs hr => ?_⟩
  · show Q4 Z a1 a2 p4 k7 h0 n0 _ T15.heap _
    rw [e15]
    exact ⟨b8_b2, k8_k2, rfl, N15, Kp2, Ex16, Fl17, Fw15, sz_b8_b2, Ex18, Va19⟩
  · show Steps p.tables e below (s₁.setTop (mkF m 0 #[.val (.ref a1), .val (.ref a2), .val (.int (0 : Int32)), .val (.int (5 : Int32)), .val .null, .unset] [])) _
    refine XS.aloadN X0.here hx rfl (hb hby d2_0) rfl rfl ?_
    refine st3 _ ?_
    refine XS.iloadN X3.here hx rfl (hb hby d2_4) rfl ?_
    refine XS.ifYes X3.here hx rfl (pc0 := 5) (pc' := 27) rfl (hb hby d2_5) rfl ((if0 _ _).trans (feq ((by decide : ¬ ((5 : Int32) = (0 : Int32))) : ¬ ((5 : Int32) = (0 : Int32)))).2) (by decide) (by decide) ?_
    refine st5 _ ?_
    refine XS.ifNo X5.here hx rfl (hb hby d2_30) rfl ((if0 _ _).trans (feq (c6 : ¬ (p4 = (0 : Int32)))).1) ?_
    refine XS.aloadN X5.here hx rfl (hb hby d2_33) rfl rfl ?_
    refine XS.iloadN X5.here hx rfl (hb hby d2_34) rfl ?_
    refine XS.iloadN X5.here hx rfl (hb hby d2_35) rfl ?_
    refine st8 _ ?_
    refine XS.astore X8.here hx rfl (hb hby d2_39) rfl rfl (l' := #[.val (.ref a1), .val (.ref a2), .val (.int (0 : Int32)), .val (.int (5 : Int32)), .val .null, .val (.ref b8_b2)]) rfl ?_
    refine XS.aloadN X8.here hx rfl (hb hby d2_41) rfl rfl ?_
    show Steps p.tables e below (T8.setTop (mkF m 42 #[.val (.ref a1), .val (.ref a2), .val (.int (0 : Int32)), .val (.int (5 : Int32)), .val .null, .val (.ref b8_b2)] [(.ref a1)])) _
    refine XS.aload X8.here hx rfl (hb hby d2_42) rfl rfl ?_
    refine XS.iloadN X8.here hx rfl (hb hby d2_44) rfl ?_
    refine st9 _ ?_
    refine st12 _ ?_
    refine XS.aloadN X12.here hx rfl (hb hby d2_51) rfl rfl ?_
    refine XS.aload X12.here hx rfl (hb hby d2_52) rfl rfl ?_
    refine st15 _ ?_
    exact X15.returnOut hx hret (hb hby d2_57) hr
theorem pd_3 : parseMethodDescriptor "([CIILjava/lang/Void;)V" = some ⟨[(.array .char), .int, .int, (.object "java/lang/Void")], none⟩ := by decide +kernel
theorem w_10 {a0 : Array Value} {Z : State} (hw : ∀ d ∈ tables_1, d.before a0 Z = true) : Jvm.Cond.before (Jvm.Cond.code ({ cls := "java/lang/String", name := "<init>", desc := "([CIILjava/lang/Void;)V" } : Jvm.MethodName) jdk_42_method_149_code (6 : Nat) (Option.none : Option Jvm.ClassFile.FieldType)) a0 Z = true := hw _ (List.mem_of_getElem? (i := 10) rfl)
theorem w_7 {a0 : Array Value} {Z : State} (hw : ∀ d ∈ tables_1, d.before a0 Z = true) : Jvm.Cond.before (Jvm.Cond.methodLink "java/lang/String" (27 : Nat) ({ cls := "java/lang/String", name := "<init>", desc := "([CIILjava/lang/Void;)V" } : Jvm.MethodName)) a0 Z = true := hw _ (List.mem_of_getElem? (i := 7) rfl)
theorem w_8 {a0 : Array Value} {Z : State} (hw : ∀ d ∈ tables_1, d.before a0 Z = true) : Jvm.Cond.before (Jvm.Cond.instanceMethod ({ cls := "java/lang/String", name := "<init>", desc := "([CIILjava/lang/Void;)V" } : Jvm.MethodName)) a0 Z = true := hw _ (List.mem_of_getElem? (i := 8) rfl)
theorem d1_9 : decode jdk_42_method_3_code 9 = .ok (.return_, 1) := by decide +kernel
abbrev y_4 : MethodName := ⟨"java/lang/String", "<init>", "([C)V"⟩
-- java/lang/String.<init>([C)V
abbrev Rm5 : Room := { frames := 3, cells := 1, slots := 5, locals := 52 }
def Q5 (Z : State) (a1 : Addr) (a2 : Addr) (k3 : ClassId) (p5 : Int32) (h0 : Heap) (n0 : Nat) (v : Option Value) (h : Heap) (L : List Loc) : Prop := ∃ b7_b8_b2 : Addr, ∃ k7_k8_k2 : ClassId, v = none ∧ Fr n0 L ∧ Keep h0 h [a1] ∧ Exa Z h a1 "java/lang/String" ∧ Fld Z h a1 "java/lang/String" "coder" "B" (.int (0 : Int32)) ∧ Fld Z h a1 "java/lang/String" "value" "[B" (.ref b7_b8_b2) ∧ h0.size ≤ b7_b8_b2 ∧ Exa Z h b7_b8_b2 "[B" ∧ Arv Z h b7_b8_b2 k7_k8_k2 .byte (5 : Int32) [(.int (104 : Int32)), (.int (116 : Int32)), (.int (116 : Int32)), (.int (112 : Int32)), (.int (49 : Int32))] (.int (0 : Int32))
theorem ef5 (a1 : Addr) (a2 : Addr) (m : MethodId) : entryFrame m #[(.ref a1), (.ref a2)] 2 = mkF m 0 #[.val (.ref a1), .val (.ref a2)] [] := by first | (simp [entryFrame, mkF, argsToLocals, Value.category]; done) | rfl
theorem rm5 (l : Launch) (Z : State) (a0 : Array Value) (hw : ∀ d ∈ tables_1, d.before a0 Z = true) (ws : List Jvm.Cond) (a1 : Addr) (a2 : Addr) (k3 : ClassId) (p5 : Int32) (h0 : Heap) (n0 : Nat) (Z0 : n0 ≤ h0.size) (V_a2 : Arv Z h0 a2 k3 .char (5 : Int32) [(.int (104 : Int32)), (.int (116 : Int32)), (.int (116 : Int32)), (.int (112 : Int32)), (.int (49 : Int32))] (.int (0 : Int32))) (S_COMPACT_STRINGS : Sta Z Z.heap "java/lang/String" "COMPACT_STRINGS" "Z" (.int p5)) (Od0 : Old Z n0 h0) (c6 : ¬ (p5 = (0 : Int32))) (F_coder_a1 : Fld Z h0 a1 "java/lang/String" "coder" "B" (.int (0 : Int32))) (E_a1 : Exa Z h0 a1 "java/lang/String") (g_a1 : n0 ≤ a1) (F_value_a1 : Fld Z h0 a1 "java/lang/String" "value" "[B" .null) :
    OwnMet l Z y_4 jdk_42_method_3_code 2 none ws Rm5 #[(.ref a1), (.ref a2)] h0 (Q5 Z a1 a2 k3 p5 h0 n0) := by
  refine own_body (plainFor_of_name pn_1) (ef5 a1 a2) ?_
  intro p e s m below meth c s₁ hx hby hml hown hnm hret hZ X0 e0
  have N0 := Fr.nil n0
  obtain ⟨cl4, Ar4, q4, S4, M4, Hs4, G4⟩ := id V_a2
  obtain ⟨_, T7, L7, X7, hQ7, st7⟩ := own_special X0 hx hZ hown (y := y_3) (a := a1) (w_7 hw) (w_8 hw) (w_3 hw) (w_10 hw) (rm4 l Z a0 hw [] a1 a2 p5 k3 h0 n0 Z0 S_COMPACT_STRINGS Od0 c6 V_a2 F_coder_a1 E_a1 g_a1 F_value_a1) e0 (Ls := #[.val (.ref a1), .val (.ref a2)]) (by rw [hml]; rfl) (argsL := [(.ref a2), (.int (0 : Int32)), (.int (5 : Int32)), .null]) (rest := []) (lenOf pd_3 rfl) (hb hby d1_6) (W := 0)
  obtain ⟨b7_b8_b2, k7_k8_k2, rfl, Nq7, K7, o7_0, o7_1, o7_2, o7_3, o7_4, o7_5⟩ := hQ7
  have N7 := Fr.app N0 Nq7
  have s0 := K7.1
  have sz_b7_b8_b2 : h0.size ≤ b7_b8_b2 := o7_3
  have Kp0 : Keep h0 T7.heap [a1] := (Keep.refl h0 [a1]).trans K7 (allS (Or.inl (List.mem_of_getElem? (i := 0) rfl)) all0)
  refine ⟨T7, _, _, _, none, X7, (fun _ => rfl), by decide, by decide, ?_, fun fs hr => ?_⟩
  · show Q5 Z a1 a2 k3 p5 h0 n0 _ T7.heap _
    exact ⟨b7_b8_b2, k7_k8_k2, rfl, N7, Kp0, o7_0, o7_1, o7_2, sz_b7_b8_b2, o7_4, o7_5⟩
  · show Steps p.tables e below (s₁.setTop (mkF m 0 #[.val (.ref a1), .val (.ref a2)] [])) _
    refine XS.aloadN X0.here hx rfl (hb hby d1_0) rfl rfl ?_
    refine XS.aloadN X0.here hx rfl (hb hby d1_1) rfl rfl ?_
    refine XS.iconst X0.here hx rfl (hb hby d1_2) ?_
    refine XS.aloadN X0.here hx rfl (hb hby d1_3) rfl rfl ?_
    refine X0.arraylength hx (by rw [e0]; exact Ar4.1) (State.isArrayOf_alike hZ.alike Ar4.2.1) (g := (mkF m 4 #[.val (.ref a1), .val (.ref a2)] [(.ref a2), (.int (0 : Int32)), (.ref a2), (.ref a1)])) rfl rfl (hb hby d1_4) _ ?_
    show Steps p.tables e below (s₁.setTop (mkF m 5 #[.val (.ref a1), .val (.ref a2)] [(.int cl4.slots.size.toInt32), (.int (0 : Int32)), (.ref a2), (.ref a1)])) _
    rw [len_of S4 M4]
    refine XS.aconstNull X0.here hx rfl (hb hby d1_5) ?_
    refine st7 _ ?_
    exact X7.returnOut hx hret (hb hby d1_9) hr
theorem pd_4 : parseMethodDescriptor "([C)V" = some ⟨[(.array .char)], none⟩ := by decide +kernel
theorem w_6 {a0 : Array Value} {Z : State} (hw : ∀ d ∈ tables_1, d.before a0 Z = true) : Jvm.Cond.before (Jvm.Cond.code ({ cls := "java/lang/String", name := "<init>", desc := "([C)V" } : Jvm.MethodName) jdk_42_method_3_code (2 : Nat) (Option.none : Option Jvm.ClassFile.FieldType)) a0 Z = true := hw _ (List.mem_of_getElem? (i := 6) rfl)
theorem w_4 {a0 : Array Value} {Z : State} (hw : ∀ d ∈ tables_1, d.before a0 Z = true) : Jvm.Cond.before (Jvm.Cond.methodLink "com/example/chickadee/chickadee/server/SbiHttpReadPinLaw" (9 : Nat) ({ cls := "java/lang/String", name := "<init>", desc := "([C)V" } : Jvm.MethodName)) a0 Z = true := hw _ (List.mem_of_getElem? (i := 4) rfl)
theorem w_5 {a0 : Array Value} {Z : State} (hw : ∀ d ∈ tables_1, d.before a0 Z = true) : Jvm.Cond.before (Jvm.Cond.instanceMethod ({ cls := "java/lang/String", name := "<init>", desc := "([C)V" } : Jvm.MethodName)) a0 Z = true := hw _ (List.mem_of_getElem? (i := 5) rfl)
theorem d7_0 : decode prog_70_method_4_code 0 = .ok (.invokestatic 33, 3) := by decide +kernel
theorem d8_0 : decode prog_70_method_1_code 0 = .ok (.getstatic 10, 3) := by decide +kernel
theorem w_37 {a0 : Array Value} {Z : State} (hw : ∀ d ∈ tables_1, d.before a0 Z = true) : Jvm.Cond.before (Jvm.Cond.fieldLink "com/example/chickadee/chickadee/server/SbiHttp" (10 : Nat) "com/example/chickadee/chickadee/server/SbiHttp" "$VALUES" "[Lcom/example/chickadee/chickadee/server/SbiHttp;") a0 Z = true := hw _ (List.mem_of_getElem? (i := 37) rfl)
theorem d8_3 : decode prog_70_method_1_code 3 = .ok (.invokevirtual 14, 3) := by decide +kernel
theorem w_39 {a0 : Array Value} {Z : State} (hw : ∀ d ∈ tables_1, d.before a0 Z = true) : Jvm.Cond.before (Jvm.Cond.methodLink "com/example/chickadee/chickadee/server/SbiHttp" (14 : Nat) ({ cls := "[Lcom/example/chickadee/chickadee/server/SbiHttp;", name := "clone", desc := "()Ljava/lang/Object;" } : Jvm.MethodName)) a0 Z = true := hw _ (List.mem_of_getElem? (i := 39) rfl)
theorem w_40 {a0 : Array Value} {Z : State} (hw : ∀ d ∈ tables_1, d.before a0 Z = true) : Jvm.Cond.before (Jvm.Cond.sameMethod "[Lcom/example/chickadee/chickadee/server/SbiHttp;" "java/lang/Object" "clone" "()Ljava/lang/Object;") a0 Z = true := hw _ (List.mem_of_getElem? (i := 40) rfl)
theorem w_44 {a0 : Array Value} {Z : State} (hw : ∀ d ∈ tables_1, d.before a0 Z = true) : Jvm.Cond.before (Jvm.Cond.native ({ cls := "java/lang/Object", name := "clone", desc := "()Ljava/lang/Object;" } : Jvm.MethodName)) a0 Z = true := hw _ (List.mem_of_getElem? (i := 44) rfl)
theorem w_42 {a0 : Array Value} {Z : State} (hw : ∀ d ∈ tables_1, d.before a0 Z = true) : Jvm.Cond.before (Jvm.Cond.instanceMethod ({ cls := "java/lang/Object", name := "clone", desc := "()Ljava/lang/Object;" } : Jvm.MethodName)) a0 Z = true := hw _ (List.mem_of_getElem? (i := 42) rfl)
theorem w_43 {a0 : Array Value} {Z : State} (hw : ∀ d ∈ tables_1, d.before a0 Z = true) : Jvm.Cond.before (Jvm.Cond.selects "[Lcom/example/chickadee/chickadee/server/SbiHttp;" ({ cls := "[Lcom/example/chickadee/chickadee/server/SbiHttp;", name := "clone", desc := "()Ljava/lang/Object;" } : Jvm.MethodName) ({ cls := "java/lang/Object", name := "clone", desc := "()Ljava/lang/Object;" } : Jvm.MethodName)) a0 Z = true := hw _ (List.mem_of_getElem? (i := 43) rfl)
theorem w_45 {a0 : Array Value} {Z : State} (hw : ∀ d ∈ tables_1, d.before a0 Z = true) : Jvm.Cond.before (Jvm.Cond.castable "[Lcom/example/chickadee/chickadee/server/SbiHttp;" "java/lang/Cloneable") a0 Z = true := hw _ (List.mem_of_getElem? (i := 45) rfl)
theorem d8_6 : decode prog_70_method_1_code 6 = .ok (.checkcast 15, 3) := by decide +kernel
theorem w_49 {a0 : Array Value} {Z : State} (hw : ∀ d ∈ tables_1, d.before a0 Z = true) : Jvm.Cond.before (Jvm.Cond.classLink "com/example/chickadee/chickadee/server/SbiHttp" (15 : Nat) "[Lcom/example/chickadee/chickadee/server/SbiHttp;") a0 Z = true := hw _ (List.mem_of_getElem? (i := 49) rfl)
theorem d8_9 : decode prog_70_method_1_code 9 = .ok (.areturn, 1) := by decide +kernel
abbrev y_5 : MethodName := ⟨"com/example/chickadee/chickadee/server/SbiHttp", "values", "()[Lcom/example/chickadee/chickadee/server/SbiHttp;"⟩
theorem pn_2 : plainName "com/example/chickadee/chickadee/server/SbiHttp" = true := by first | (simp [plainName, overriddenIn]; done) | decide +kernel
-- com/example/chickadee/chickadee/server/SbiHttp.values()[Lcom/example/chickadee/chickadee/server/SbiHttp;
abbrev Rm6 : Room := { frames := 1, cells := 1, slots := 2, locals := 14 }
def Q6 (Z : State) (a1 : Addr) (a3 : Addr) (a4 : Addr) (k5 : ClassId) (h0 : Heap) (n0 : Nat) (v : Option Value) (h : Heap) (L : List Loc) : Prop := ∃ b6 : Addr, v = some (.ref b6) ∧ Fr n0 L ∧ Keep h0 h [] ∧ h0.size ≤ b6 ∧ Exa Z h b6 "[Lcom/example/chickadee/chickadee/server/SbiHttp;" ∧ Arv Z h b6 k5 (.object "com/example/chickadee/chickadee/server/SbiHttp") (2 : Int32) [(.ref a3), (.ref a4)] .null
theorem ef6  (m : MethodId) : entryFrame m #[] 0 = mkF m 0 #[] [] := by first | (simp [entryFrame, mkF, argsToLocals, Value.category]; done) | rfl
theorem rm6 (l : Launch) (Z : State) (a0 : Array Value) (hw : ∀ d ∈ tables_1, d.before a0 Z = true) (ws : List Jvm.Cond) (a1 : Addr) (a3 : Addr) (a4 : Addr) (k5 : ClassId) (h0 : Heap) (n0 : Nat) (Z0 : n0 ≤ h0.size) (S__VALUES : Sta Z Z.heap "com/example/chickadee/chickadee/server/SbiHttp" "$VALUES" "[Lcom/example/chickadee/chickadee/server/SbiHttp;" (.ref a1)) (Od0 : Old Z n0 h0) (V_a1 : Arv Z h0 a1 k5 (.object "com/example/chickadee/chickadee/server/SbiHttp") (2 : Int32) [(.ref a3), (.ref a4)] .null) (E_a1 : Exa Z h0 a1 "[Lcom/example/chickadee/chickadee/server/SbiHttp;") :
    OwnMet l Z y_5 prog_70_method_1_code 0 (some (.array (.object "com/example/chickadee/chickadee/server/SbiHttp"))) ws Rm6 #[] h0 (Q6 Z a1 a3 a4 k5 h0 n0) := by
  refine own_body (plainFor_of_name pn_2) (ef6) ?_
  intro p e s m below meth c s₁ hx hby hml hown hnm hret hZ X0 e0
  have N0 := Fr.nil n0
  obtain ⟨T2, X2, e2, st2⟩ := getS2 X0 hx hZ hown (host := "") (Or.inl (w_37 hw)) Via.refl e0 (S__VALUES.ext Od0.2) (g := (mkF m 0 #[] [])) rfl (hb hby d8_0)
  obtain ⟨T6, h6, X6, e6, E6, V6, B6, st6⟩ := cloneH X2 hx hZ hown (w_39 hw) (w_40 hw) (w_44 hw) (w_42 hw) (w_43 hw) (w_45 hw) e2 (Arv.arh V_a1) E_a1 (g := (mkF m 3 #[] [(.ref a1)])) rfl (by rw [hml]; rfl) rfl (hb hby d8_3) (by decide) (W := 0) (cap := 2) (by show 2 * 0 + _ ≤ _; exact Nat.le_of_eq rfl) (by decide) (by decide) (by decide) (by decide)
  obtain ⟨b6, g6⟩ : ∃ z, z = h0.size := ⟨_, rfl⟩
  rw [← g6] at V6 B6 st6
  have s0 := E6.1
  have Vn6 : Arv Z h6 b6 k5 (.object "com/example/chickadee/chickadee/server/SbiHttp") (2 : Int32) [(.ref a3), (.ref a4)] .null := own_arv_of_arh V6
  obtain ⟨T7, X7, e7, st7⟩ := castY X6 hx hZ hown (w_49 hw) e6 (Ins.self B6) (g := (mkF m 6 #[] [(.ref b6)])) rfl rfl (hb hby d8_6)
  have sz_b6 : h0.size ≤ b6 := (Nat.le_of_eq g6.symm)
  have Kp0 : Keep h0 h6 [] := (Keep.refl h0 []).ext E6
  refine ⟨T7, _, _, _, (some (.ref b6)), X7, nofun, by decide, by decide, ?_, fun fs hr => ?_⟩
  · show Q6 Z a1 a3 a4 k5 h0 n0 _ T7.heap _
    rw [e7]
    exact ⟨b6, rfl, N0, Kp0, sz_b6, B6, Vn6⟩
  · show Steps p.tables e below (s₁.setTop (mkF m 0 #[] [])) _
    refine st2 _ ?_
    refine st6 _ ?_
    refine st7 _ ?_
    exact retOut X7 hx hret rfl (Or.inr (Or.inr (Or.inr (Or.inr ⟨rfl, rfl, rfl⟩)))) (hb hby d8_9) hr
theorem pd_5 : parseMethodDescriptor "()[Lcom/example/chickadee/chickadee/server/SbiHttp;" = some ⟨[], some (.array (.object "com/example/chickadee/chickadee/server/SbiHttp"))⟩ := by decide +kernel
theorem w_32 {a0 : Array Value} {Z : State} (hw : ∀ d ∈ tables_1, d.before a0 Z = true) : Jvm.Cond.before (Jvm.Cond.initialized "com/example/chickadee/chickadee/server/SbiHttp") a0 Z = true := hw _ (List.mem_of_getElem? (i := 32) rfl)
theorem w_36 {a0 : Array Value} {Z : State} (hw : ∀ d ∈ tables_1, d.before a0 Z = true) : Jvm.Cond.before (Jvm.Cond.code ({ cls := "com/example/chickadee/chickadee/server/SbiHttp", name := "values", desc := "()[Lcom/example/chickadee/chickadee/server/SbiHttp;" } : Jvm.MethodName) prog_70_method_1_code (0 : Nat) (Option.some (Jvm.ClassFile.FieldType.array (Jvm.ClassFile.FieldType.object "com/example/chickadee/chickadee/server/SbiHttp")))) a0 Z = true := hw _ (List.mem_of_getElem? (i := 36) rfl)
theorem w_34 {a0 : Array Value} {Z : State} (hw : ∀ d ∈ tables_1, d.before a0 Z = true) : Jvm.Cond.before (Jvm.Cond.methodLink "com/example/chickadee/chickadee/server/SbiHttp" (33 : Nat) ({ cls := "com/example/chickadee/chickadee/server/SbiHttp", name := "values", desc := "()[Lcom/example/chickadee/chickadee/server/SbiHttp;" } : Jvm.MethodName)) a0 Z = true := hw _ (List.mem_of_getElem? (i := 34) rfl)
theorem w_35 {a0 : Array Value} {Z : State} (hw : ∀ d ∈ tables_1, d.before a0 Z = true) : Jvm.Cond.before (Jvm.Cond.static ({ cls := "com/example/chickadee/chickadee/server/SbiHttp", name := "values", desc := "()[Lcom/example/chickadee/chickadee/server/SbiHttp;" } : Jvm.MethodName)) a0 Z = true := hw _ (List.mem_of_getElem? (i := 35) rfl)
theorem d7_3 : decode prog_70_method_4_code 3 = .ok (.astore_n 1, 1) := by decide +kernel
theorem d7_4 : decode prog_70_method_4_code 4 = .ok (.aload_n 1, 1) := by decide +kernel
theorem d7_5 : decode prog_70_method_4_code 5 = .ok (.arraylength, 1) := by decide +kernel
theorem d7_6 : decode prog_70_method_4_code 6 = .ok (.istore_n 2, 1) := by decide +kernel
theorem d7_7 : decode prog_70_method_4_code 7 = .ok (.iconst 0, 1) := by decide +kernel
theorem d7_8 : decode prog_70_method_4_code 8 = .ok (.istore_n 3, 1) := by decide +kernel
theorem d7_9 : decode prog_70_method_4_code 9 = .ok (.iload_n 3, 1) := by decide +kernel
theorem d7_10 : decode prog_70_method_4_code 10 = .ok (.iload_n 2, 1) := by decide +kernel
theorem d7_11 : decode prog_70_method_4_code 11 = .ok (.if_icmp .ge 29, 3) := by decide +kernel
theorem d7_14 : decode prog_70_method_4_code 14 = .ok (.aload_n 1, 1) := by decide +kernel
theorem d7_15 : decode prog_70_method_4_code 15 = .ok (.iload_n 3, 1) := by decide +kernel
theorem d7_16 : decode prog_70_method_4_code 16 = .ok (.aaload, 1) := by decide +kernel
theorem d7_17 : decode prog_70_method_4_code 17 = .ok (.astore 4, 2) := by decide +kernel
theorem d7_19 : decode prog_70_method_4_code 19 = .ok (.aload 4, 2) := by decide +kernel
theorem d7_21 : decode prog_70_method_4_code 21 = .ok (.getfield 29, 3) := by decide +kernel
theorem w_51 {a0 : Array Value} {Z : State} (hw : ∀ d ∈ tables_1, d.before a0 Z = true) : Jvm.Cond.before (Jvm.Cond.fieldLink "com/example/chickadee/chickadee/server/SbiHttp" (29 : Nat) "com/example/chickadee/chickadee/server/SbiHttp" "option" "Ljava/lang/String;") a0 Z = true := hw _ (List.mem_of_getElem? (i := 51) rfl)
theorem d7_24 : decode prog_70_method_4_code 24 = .ok (.aload_n 0, 1) := by decide +kernel
theorem d7_25 : decode prog_70_method_4_code 25 = .ok (.invokevirtual 37, 3) := by decide +kernel
theorem d9_0 : decode jdk_42_method_66_code 0 = .ok (.aload_n 0, 1) := by decide +kernel
theorem d9_1 : decode jdk_42_method_66_code 1 = .ok (.aload_n 1, 1) := by decide +kernel
theorem d9_2 : decode jdk_42_method_66_code 2 = .ok (.if_acmp .ne 5, 3) := by decide +kernel
theorem d9_7 : decode jdk_42_method_66_code 7 = .ok (.aload_n 1, 1) := by decide +kernel
theorem d9_8 : decode jdk_42_method_66_code 8 = .ok (.instanceof 10, 3) := by decide +kernel
theorem w_58 {a0 : Array Value} {Z : State} (hw : ∀ d ∈ tables_1, d.before a0 Z = true) : Jvm.Cond.before (Jvm.Cond.classLink "java/lang/String" (10 : Nat) "java/lang/String") a0 Z = true := hw _ (List.mem_of_getElem? (i := 58) rfl)
theorem d9_11 : decode jdk_42_method_66_code 11 = .ok (.ifCond .eq 43, 3) := by decide +kernel
theorem d9_14 : decode jdk_42_method_66_code 14 = .ok (.aload_n 1, 1) := by decide +kernel
theorem d9_15 : decode jdk_42_method_66_code 15 = .ok (.checkcast 10, 3) := by decide +kernel
theorem d9_18 : decode jdk_42_method_66_code 18 = .ok (.astore_n 2, 1) := by decide +kernel
theorem d9_19 : decode jdk_42_method_66_code 19 = .ok (.getstatic 38, 3) := by decide +kernel
theorem d9_22 : decode jdk_42_method_66_code 22 = .ok (.ifCond .eq 14, 3) := by decide +kernel
theorem d9_25 : decode jdk_42_method_66_code 25 = .ok (.aload_n 0, 1) := by decide +kernel
theorem d9_26 : decode jdk_42_method_66_code 26 = .ok (.getfield 15, 3) := by decide +kernel
theorem d9_29 : decode jdk_42_method_66_code 29 = .ok (.aload_n 2, 1) := by decide +kernel
theorem d9_30 : decode jdk_42_method_66_code 30 = .ok (.getfield 15, 3) := by decide +kernel
theorem d9_33 : decode jdk_42_method_66_code 33 = .ok (.if_icmp .ne 21, 3) := by decide +kernel
theorem d9_36 : decode jdk_42_method_66_code 36 = .ok (.aload_n 0, 1) := by decide +kernel
theorem d9_37 : decode jdk_42_method_66_code 37 = .ok (.getfield 9, 3) := by decide +kernel
theorem d9_40 : decode jdk_42_method_66_code 40 = .ok (.aload_n 2, 1) := by decide +kernel
theorem d9_41 : decode jdk_42_method_66_code 41 = .ok (.getfield 9, 3) := by decide +kernel
theorem d9_44 : decode jdk_42_method_66_code 44 = .ok (.invokestatic 541, 3) := by decide +kernel
theorem d10_0 : decode jdk_43_method_13_code 0 = .ok (.aload_n 0, 1) := by decide +kernel
theorem d10_1 : decode jdk_43_method_13_code 1 = .ok (.arraylength, 1) := by decide +kernel
theorem d10_2 : decode jdk_43_method_13_code 2 = .ok (.aload_n 1, 1) := by decide +kernel
theorem d10_3 : decode jdk_43_method_13_code 3 = .ok (.arraylength, 1) := by decide +kernel
theorem d10_4 : decode jdk_43_method_13_code 4 = .ok (.if_icmp .ne 30, 3) := by decide +kernel
theorem d10_34 : decode jdk_43_method_13_code 34 = .ok (.iconst 0, 1) := by decide +kernel
theorem d10_35 : decode jdk_43_method_13_code 35 = .ok (.ireturn, 1) := by decide +kernel
abbrev y_6 : MethodName := ⟨"java/lang/StringLatin1", "equals", "([B[B)Z"⟩
theorem pn_3 : plainName "java/lang/StringLatin1" = true := by first | (simp [plainName, overriddenIn]; done) | decide +kernel
-- java/lang/StringLatin1.equals([B[B)Z
abbrev Rm7 : Room := { frames := 0, cells := 0, slots := 0, locals := 0 }
def Q7 (Z : State) (a1 : Addr) (a2 : Addr) (k3 : ClassId) (k5 : ClassId) (h0 : Heap) (n0 : Nat) (v : Option Value) (h : Heap) (L : List Loc) : Prop := v = some (.int (0 : Int32)) ∧ Fr n0 L ∧ h = h0
theorem ef7 (a1 : Addr) (a2 : Addr) (m : MethodId) : entryFrame m #[(.ref a1), (.ref a2)] 3 = mkF m 0 #[.val (.ref a1), .val (.ref a2), .unset] [] := by first | (simp [entryFrame, mkF, argsToLocals, Value.category]; done) | rfl
theorem rm7 (l : Launch) (Z : State) (a0 : Array Value) (hw : ∀ d ∈ tables_1, d.before a0 Z = true) (ws : List Jvm.Cond) (a1 : Addr) (a2 : Addr) (k3 : ClassId) (k5 : ClassId) (h0 : Heap) (n0 : Nat) (Z0 : n0 ≤ h0.size) (V_a1 : Arv Z h0 a1 k3 .byte (3 : Int32) [(.int (104 : Int32)), (.int (50 : Int32)), (.int (99 : Int32))] (.int (0 : Int32))) (V_a2 : Arv Z h0 a2 k5 .byte (5 : Int32) [(.int (104 : Int32)), (.int (116 : Int32)), (.int (116 : Int32)), (.int (112 : Int32)), (.int (49 : Int32))] (.int (0 : Int32))) :
    OwnMet l Z y_6 jdk_43_method_13_code 3 (some .boolean) ws Rm7 #[(.ref a1), (.ref a2)] h0 (Q7 Z a1 a2 k3 k5 h0 n0) := by
  refine own_body (plainFor_of_name pn_3) (ef7 a1 a2) ?_
  intro p e s m below meth c s₁ hx hby hml hown hnm hret hZ X0 e0
  have N0 := Fr.nil n0
  obtain ⟨cl4, Ar4, q4, S4, M4, Hs4, G4⟩ := id V_a1
  obtain ⟨cl6, Ar6, q6, S6, M6, Hs6, G6⟩ := id V_a2
  refine ⟨s₁, _, _, _, (some (.int (0 : Int32))), X0, nofun, by decide, by decide, ?_, fun fs hr => ?_⟩
  · show Q7 Z a1 a2 k3 k5 h0 n0 _ s₁.heap _
    rw [e0]
    exact ⟨rfl, N0, rfl⟩
  · show Steps p.tables e below (s₁.setTop (mkF m 0 #[.val (.ref a1), .val (.ref a2), .unset] [])) _
    refine XS.aloadN X0.here hx rfl (hb hby d10_0) rfl rfl ?_
    refine X0.arraylength hx (by rw [e0]; exact Ar4.1) (State.isArrayOf_alike hZ.alike Ar4.2.1) (g := (mkF m 1 #[.val (.ref a1), .val (.ref a2), .unset] [(.ref a1)])) rfl rfl (hb hby d10_1) _ ?_
    show Steps p.tables e below (s₁.setTop (mkF m 2 #[.val (.ref a1), .val (.ref a2), .unset] [(.int cl4.slots.size.toInt32)])) _
    rw [len_of S4 M4]
    refine XS.aloadN X0.here hx rfl (hb hby d10_2) rfl rfl ?_
    refine X0.arraylength hx (by rw [e0]; exact Ar6.1) (State.isArrayOf_alike hZ.alike Ar6.2.1) (g := (mkF m 3 #[.val (.ref a1), .val (.ref a2), .unset] [(.ref a2), (.int (3 : Int32))])) rfl rfl (hb hby d10_3) _ ?_
    show Steps p.tables e below (s₁.setTop (mkF m 4 #[.val (.ref a1), .val (.ref a2), .unset] [(.int cl6.slots.size.toInt32), (.int (3 : Int32))])) _
    rw [len_of S6 M6]
    refine XS.icmpYes X0.here hx rfl (pc0 := 4) (pc' := 34) rfl (hb hby d10_4) rfl (feq ((by decide : ¬ ((3 : Int32) = (5 : Int32))) : ¬ ((3 : Int32) = (5 : Int32)))).2 (by decide) (by decide) ?_
    refine XS.iconst X0.here hx rfl (hb hby d10_34) ?_
    exact retN X0 hx (t := .boolean) hret (by simp) (hb hby d10_35) hr
theorem pd_6 : parseMethodDescriptor "([B[B)Z" = some ⟨[(.array .byte), (.array .byte)], some .boolean⟩ := by decide +kernel
theorem w_61 {a0 : Array Value} {Z : State} (hw : ∀ d ∈ tables_1, d.before a0 Z = true) : Jvm.Cond.before (Jvm.Cond.initialized "java/lang/StringLatin1") a0 Z = true := hw _ (List.mem_of_getElem? (i := 61) rfl)
theorem w_62 {a0 : Array Value} {Z : State} (hw : ∀ d ∈ tables_1, d.before a0 Z = true) : Jvm.Cond.before (Jvm.Cond.code ({ cls := "java/lang/StringLatin1", name := "equals", desc := "([B[B)Z" } : Jvm.MethodName) jdk_43_method_13_code (3 : Nat) (Option.some Jvm.ClassFile.FieldType.boolean)) a0 Z = true := hw _ (List.mem_of_getElem? (i := 62) rfl)
theorem w_59 {a0 : Array Value} {Z : State} (hw : ∀ d ∈ tables_1, d.before a0 Z = true) : Jvm.Cond.before (Jvm.Cond.methodLink "java/lang/String" (541 : Nat) ({ cls := "java/lang/StringLatin1", name := "equals", desc := "([B[B)Z" } : Jvm.MethodName)) a0 Z = true := hw _ (List.mem_of_getElem? (i := 59) rfl)
theorem w_60 {a0 : Array Value} {Z : State} (hw : ∀ d ∈ tables_1, d.before a0 Z = true) : Jvm.Cond.before (Jvm.Cond.static ({ cls := "java/lang/StringLatin1", name := "equals", desc := "([B[B)Z" } : Jvm.MethodName)) a0 Z = true := hw _ (List.mem_of_getElem? (i := 60) rfl)
theorem d9_47 : decode jdk_42_method_66_code 47 = .ok (.ifCond .eq 7, 3) := by decide +kernel
theorem d9_54 : decode jdk_42_method_66_code 54 = .ok (.iconst 0, 1) := by decide +kernel
theorem d9_55 : decode jdk_42_method_66_code 55 = .ok (.ireturn, 1) := by decide +kernel
abbrev y_7 : MethodName := ⟨"java/lang/String", "equals", "(Ljava/lang/Object;)Z"⟩
-- java/lang/String.equals(Ljava/lang/Object;)Z
abbrev Rm8 : Room := { frames := 1, cells := 0, slots := 0, locals := 14 }
def Q8 (Z : State) (a1 : Addr) (a2 : Addr) (p5 : Int32) (a10 : Addr) (a12 : Addr) (k14 : ClassId) (k15 : ClassId) (h0 : Heap) (n0 : Nat) (v : Option Value) (h : Heap) (L : List Loc) : Prop := v = some (.int (0 : Int32)) ∧ Fr n0 L ∧ h = h0
theorem ef8 (a1 : Addr) (a2 : Addr) (m : MethodId) : entryFrame m #[(.ref a1), (.ref a2)] 3 = mkF m 0 #[.val (.ref a1), .val (.ref a2), .unset] [] := by first | (simp [entryFrame, mkF, argsToLocals, Value.category]; done) | rfl
theorem rm8 (l : Launch) (Z : State) (a0 : Array Value) (hw : ∀ d ∈ tables_1, d.before a0 Z = true) (ws : List Jvm.Cond) (a1 : Addr) (a2 : Addr) (p5 : Int32) (a10 : Addr) (a12 : Addr) (k14 : ClassId) (k15 : ClassId) (h0 : Heap) (n0 : Nat) (Z0 : n0 ≤ h0.size) (ne_a1_a2 : a1 ≠ a2) (E_a2 : Exa Z h0 a2 "java/lang/String") (S_COMPACT_STRINGS : Sta Z Z.heap "java/lang/String" "COMPACT_STRINGS" "Z" (.int p5)) (Od0 : Old Z n0 h0) (c7 : ¬ (p5 = (0 : Int32))) (F_coder_a1 : Fld Z h0 a1 "java/lang/String" "coder" "B" (.int (0 : Int32))) (F_coder_a2 : Fld Z h0 a2 "java/lang/String" "coder" "B" (.int (0 : Int32))) (F_value_a1 : Fld Z h0 a1 "java/lang/String" "value" "[B" (.ref a10)) (F_value_a2 : Fld Z h0 a2 "java/lang/String" "value" "[B" (.ref a12)) (V_a10 : Arv Z h0 a10 k14 .byte (3 : Int32) [(.int (104 : Int32)), (.int (50 : Int32)), (.int (99 : Int32))] (.int (0 : Int32))) (V_a12 : Arv Z h0 a12 k15 .byte (5 : Int32) [(.int (104 : Int32)), (.int (116 : Int32)), (.int (116 : Int32)), (.int (112 : Int32)), (.int (49 : Int32))] (.int (0 : Int32))) :
    OwnMet l Z y_7 jdk_42_method_66_code 3 (some .boolean) ws Rm8 #[(.ref a1), (.ref a2)] h0 (Q8 Z a1 a2 p5 a10 a12 k14 k15 h0 n0) := by
  refine own_body (plainFor_of_name pn_1) (ef8 a1 a2) ?_
  intro p e s m below meth c s₁ hx hby hml hown hnm hret hZ X0 e0
  have N0 := Fr.nil n0
  obtain ⟨T3, X3, e3, st3⟩ := instY X0 hx hZ hown (w_58 hw) e0 (Ins.self E_a2) (g := (mkF m 8 #[.val (.ref a1), .val (.ref a2), .unset] [(.ref a2)])) rfl rfl (hb hby d9_8)
  obtain ⟨T4, X4, e4, st4⟩ := castY X3 hx hZ hown (w_58 hw) e3 (Ins.self E_a2) (g := (mkF m 15 #[.val (.ref a1), .val (.ref a2), .unset] [(.ref a2)])) rfl rfl (hb hby d9_15)
  obtain ⟨T6, X6, e6, st6⟩ := getS2 X4 hx hZ hown (host := "") (Or.inl (w_14 hw)) Via.refl e4 (S_COMPACT_STRINGS.ext Od0.2) (g := (mkF m 19 #[.val (.ref a1), .val (.ref a2), .val (.ref a2)] [])) rfl (hb hby d9_19)
  obtain ⟨T8, X8, e8, st8⟩ := getF X6 hx hZ hown (host := "") (Or.inl (w_26 hw)) Via.refl e6 F_coder_a1 (g := (mkF m 26 #[.val (.ref a1), .val (.ref a2), .val (.ref a2)] [(.ref a1)])) rfl rfl (hb hby d9_26)
  obtain ⟨T9, X9, e9, st9⟩ := getF X8 hx hZ hown (host := "") (Or.inl (w_26 hw)) Via.refl e8 F_coder_a2 (g := (mkF m 30 #[.val (.ref a1), .val (.ref a2), .val (.ref a2)] [(.ref a2), (.int (0 : Int32))])) rfl rfl (hb hby d9_30)
  obtain ⟨T11, X11, e11, st11⟩ := getF X9 hx hZ hown (host := "") (Or.inl (w_28 hw)) Via.refl e9 F_value_a1 (g := (mkF m 37 #[.val (.ref a1), .val (.ref a2), .val (.ref a2)] [(.ref a1)])) rfl rfl (hb hby d9_37)
  obtain ⟨T13, X13, e13, st13⟩ := getF X11 hx hZ hown (host := "") (Or.inl (w_28 hw)) Via.refl e11 F_value_a2 (g := (mkF m 41 #[.val (.ref a1), .val (.ref a2), .val (.ref a2)] [(.ref a2), (.ref a10)])) rfl rfl (hb hby d9_41)
  obtain ⟨_, T16, L16, X16, hQ16, st16⟩ := own_callS X13 hx hZ hown (y := y_6) (w_59 hw) (w_60 hw) (w_61 hw) (w_62 hw) (rm7 l Z a0 hw [] a10 a12 k14 k15 h0 n0 Z0 V_a10 V_a12) e13 (Ls := #[.val (.ref a1), .val (.ref a2), .val (.ref a2)]) (by rw [hml]; rfl) (argsL := [(.ref a10), (.ref a12)]) (rest := []) (lenOf pd_6 rfl) (hb hby d9_44) (W := 0)
  obtain ⟨rfl, Nq16, e16⟩ := hQ16
  have N16 := Fr.app N0 Nq16
  refine ⟨T16, _, _, _, (some (.int (0 : Int32))), X16, nofun, by decide, by decide, ?_, fun fs hr => ?_⟩
  · show Q8 Z a1 a2 p5 a10 a12 k14 k15 h0 n0 _ T16.heap _
    rw [e16]
    exact ⟨rfl, N16, rfl⟩
  · show Steps p.tables e below (s₁.setTop (mkF m 0 #[.val (.ref a1), .val (.ref a2), .unset] [])) _
    refine XS.aloadN X0.here hx rfl (hb hby d9_0) rfl rfl ?_
    refine XS.aloadN X0.here hx rfl (hb hby d9_1) rfl rfl ?_
    refine Jvm.RoadKit.acmp (g := (mkF m 2 #[.val (.ref a1), .val (.ref a2), .unset] [(.ref a2), (.ref a1)])) X0 hx rfl rfl rfl (pc0 := 2) (pc' := 7) (same := false) rfl (hb hby d9_2) rfl (decide_eq_false fun q => ne_a1_a2 (Value.ref.inj q)) (by decide) (by decide) ?_
    refine XS.aloadN X0.here hx rfl (hb hby d9_7) rfl rfl ?_
    refine st3 _ ?_
    refine XS.ifNo X3.here hx rfl (hb hby d9_11) rfl ((if0 _ _).trans (feq ((by decide : ¬ ((1 : Int32) = (0 : Int32))) : ¬ ((1 : Int32) = (0 : Int32)))).1) ?_
    refine XS.aloadN X3.here hx rfl (hb hby d9_14) rfl rfl ?_
    refine st4 _ ?_
    refine XS.astoreN X4.here hx rfl (hb hby d9_18) rfl rfl (l' := #[.val (.ref a1), .val (.ref a2), .val (.ref a2)]) rfl ?_
    refine st6 _ ?_
    refine XS.ifNo X6.here hx rfl (hb hby d9_22) rfl ((if0 _ _).trans (feq (c7 : ¬ (p5 = (0 : Int32)))).1) ?_
    refine XS.aloadN X6.here hx rfl (hb hby d9_25) rfl rfl ?_
    show Steps p.tables e below (T6.setTop (mkF m 26 #[.val (.ref a1), .val (.ref a2), .val (.ref a2)] [(.ref a1)])) _
    refine st8 _ ?_
    refine XS.aloadN X8.here hx rfl (hb hby d9_29) rfl rfl ?_
    refine st9 _ ?_
    refine XS.icmpNo X9.here hx rfl (hb hby d9_33) rfl (teq ((by decide : (0 : Int32) = (0 : Int32)) : (0 : Int32) = (0 : Int32))).2 ?_
    refine XS.aloadN X9.here hx rfl (hb hby d9_36) rfl rfl ?_
    refine st11 _ ?_
    refine XS.aloadN X11.here hx rfl (hb hby d9_40) rfl rfl ?_
    refine st13 _ ?_
    refine st16 _ ?_
    refine XS.ifYes X16.here hx rfl (pc0 := 47) (pc' := 54) rfl (hb hby d9_47) rfl ((if0 _ _).trans (teq ((by decide : (0 : Int32) = (0 : Int32)) : (0 : Int32) = (0 : Int32))).1) (by decide) (by decide) ?_
    refine XS.iconst X16.here hx rfl (hb hby d9_54) ?_
    exact retN X16 hx (t := .boolean) hret (by simp) (hb hby d9_55) hr
theorem pd_7 : parseMethodDescriptor "(Ljava/lang/Object;)Z" = some ⟨[(.object "java/lang/Object")], some .boolean⟩ := by decide +kernel
theorem w_57 {a0 : Array Value} {Z : State} (hw : ∀ d ∈ tables_1, d.before a0 Z = true) : Jvm.Cond.before (Jvm.Cond.code ({ cls := "java/lang/String", name := "equals", desc := "(Ljava/lang/Object;)Z" } : Jvm.MethodName) jdk_42_method_66_code (3 : Nat) (Option.some Jvm.ClassFile.FieldType.boolean)) a0 Z = true := hw _ (List.mem_of_getElem? (i := 57) rfl)
theorem w_53 {a0 : Array Value} {Z : State} (hw : ∀ d ∈ tables_1, d.before a0 Z = true) : Jvm.Cond.before (Jvm.Cond.methodLink "com/example/chickadee/chickadee/server/SbiHttp" (37 : Nat) ({ cls := "java/lang/String", name := "equals", desc := "(Ljava/lang/Object;)Z" } : Jvm.MethodName)) a0 Z = true := hw _ (List.mem_of_getElem? (i := 53) rfl)
theorem w_56 {a0 : Array Value} {Z : State} (hw : ∀ d ∈ tables_1, d.before a0 Z = true) : Jvm.Cond.before (Jvm.Cond.selects "java/lang/String" ({ cls := "java/lang/String", name := "equals", desc := "(Ljava/lang/Object;)Z" } : Jvm.MethodName) ({ cls := "java/lang/String", name := "equals", desc := "(Ljava/lang/Object;)Z" } : Jvm.MethodName)) a0 Z = true := hw _ (List.mem_of_getElem? (i := 56) rfl)
theorem w_54 {a0 : Array Value} {Z : State} (hw : ∀ d ∈ tables_1, d.before a0 Z = true) : Jvm.Cond.before (Jvm.Cond.declares ({ cls := "java/lang/String", name := "equals", desc := "(Ljava/lang/Object;)Z" } : Jvm.MethodName)) a0 Z = true := hw _ (List.mem_of_getElem? (i := 54) rfl)
theorem w_55 {a0 : Array Value} {Z : State} (hw : ∀ d ∈ tables_1, d.before a0 Z = true) : Jvm.Cond.before (Jvm.Cond.instanceMethod ({ cls := "java/lang/String", name := "equals", desc := "(Ljava/lang/Object;)Z" } : Jvm.MethodName)) a0 Z = true := hw _ (List.mem_of_getElem? (i := 55) rfl)
theorem d7_28 : decode prog_70_method_4_code 28 = .ok (.ifCond .eq 6, 3) := by decide +kernel
theorem d7_34 : decode prog_70_method_4_code 34 = .ok (.iinc 3 1, 3) := by decide +kernel
theorem d7_37 : decode prog_70_method_4_code 37 = .ok (.goto (-28), 3) := by decide +kernel
theorem d10_7 : decode jdk_43_method_13_code 7 = .ok (.iconst 0, 1) := by decide +kernel
theorem d10_8 : decode jdk_43_method_13_code 8 = .ok (.istore_n 2, 1) := by decide +kernel
theorem d10_9 : decode jdk_43_method_13_code 9 = .ok (.iload_n 2, 1) := by decide +kernel
theorem d10_10 : decode jdk_43_method_13_code 10 = .ok (.aload_n 0, 1) := by decide +kernel
theorem d10_11 : decode jdk_43_method_13_code 11 = .ok (.arraylength, 1) := by decide +kernel
theorem d10_12 : decode jdk_43_method_13_code 12 = .ok (.if_icmp .ge 20, 3) := by decide +kernel
theorem d10_15 : decode jdk_43_method_13_code 15 = .ok (.aload_n 0, 1) := by decide +kernel
theorem d10_16 : decode jdk_43_method_13_code 16 = .ok (.iload_n 2, 1) := by decide +kernel
theorem d10_17 : decode jdk_43_method_13_code 17 = .ok (.baload, 1) := by decide +kernel
theorem d10_18 : decode jdk_43_method_13_code 18 = .ok (.aload_n 1, 1) := by decide +kernel
theorem d10_19 : decode jdk_43_method_13_code 19 = .ok (.iload_n 2, 1) := by decide +kernel
theorem d10_20 : decode jdk_43_method_13_code 20 = .ok (.baload, 1) := by decide +kernel
theorem d10_21 : decode jdk_43_method_13_code 21 = .ok (.if_icmp .eq 5, 3) := by decide +kernel
theorem d10_26 : decode jdk_43_method_13_code 26 = .ok (.iinc 2 1, 3) := by decide +kernel
theorem d10_29 : decode jdk_43_method_13_code 29 = .ok (.goto (-20), 3) := by decide +kernel
theorem d10_32 : decode jdk_43_method_13_code 32 = .ok (.iconst 1, 1) := by decide +kernel
theorem d10_33 : decode jdk_43_method_13_code 33 = .ok (.ireturn, 1) := by decide +kernel
-- java/lang/StringLatin1.equals([B[B)Z
abbrev Rm9 : Room := { frames := 0, cells := 0, slots := 0, locals := 0 }
def Q9 (Z : State) (a1 : Addr) (a2 : Addr) (k3 : ClassId) (k5 : ClassId) (h0 : Heap) (n0 : Nat) (v : Option Value) (h : Heap) (L : List Loc) : Prop := v = some (.int (1 : Int32)) ∧ Fr n0 L ∧ h = h0
theorem ef9 (a1 : Addr) (a2 : Addr) (m : MethodId) : entryFrame m #[(.ref a1), (.ref a2)] 3 = mkF m 0 #[.val (.ref a1), .val (.ref a2), .unset] [] := by first | (simp [entryFrame, mkF, argsToLocals, Value.category]; done) | rfl
theorem rm9 (l : Launch) (Z : State) (a0 : Array Value) (hw : ∀ d ∈ tables_1, d.before a0 Z = true) (ws : List Jvm.Cond) (a1 : Addr) (a2 : Addr) (k3 : ClassId) (k5 : ClassId) (h0 : Heap) (n0 : Nat) (Z0 : n0 ≤ h0.size) (V_a1 : Arv Z h0 a1 k3 .byte (5 : Int32) [(.int (104 : Int32)), (.int (116 : Int32)), (.int (116 : Int32)), (.int (112 : Int32)), (.int (49 : Int32))] (.int (0 : Int32))) (V_a2 : Arv Z h0 a2 k5 .byte (5 : Int32) [(.int (104 : Int32)), (.int (116 : Int32)), (.int (116 : Int32)), (.int (112 : Int32)), (.int (49 : Int32))] (.int (0 : Int32))) :
    OwnMet l Z y_6 jdk_43_method_13_code 3 (some .boolean) ws Rm9 #[(.ref a1), (.ref a2)] h0 (Q9 Z a1 a2 k3 k5 h0 n0) := by
  refine own_body (plainFor_of_name pn_3) (ef9 a1 a2) ?_
  intro p e s m below meth c s₁ hx hby hml hown hnm hret hZ X0 e0
  have N0 := Fr.nil n0
  obtain ⟨cl4, Ar4, q4, S4, M4, Hs4, G4⟩ := id V_a1
  obtain ⟨cl6, Ar6, q6, S6, M6, Hs6, G6⟩ := id V_a2
  have hin7 : ¬ ((0 : Int32) < 0 ∨ cl4.slots.size ≤ ((0 : Int32)).toNatClampNeg) := inb_of S4 ⟨(by decide : ¬ ((0 : Int32) < (0 : Int32))), (by decide : (0 : Int32) < (5 : Int32))⟩
  have hin8 : ¬ ((0 : Int32) < 0 ∨ cl6.slots.size ≤ ((0 : Int32)).toNatClampNeg) := inb_of S6 ⟨(by decide : ¬ ((0 : Int32) < (0 : Int32))), (by decide : (0 : Int32) < (5 : Int32))⟩
  have hin9 : ¬ ((1 : Int32) < 0 ∨ cl4.slots.size ≤ ((1 : Int32)).toNatClampNeg) := inb_of S4 ⟨(by decide : ¬ ((1 : Int32) < (0 : Int32))), (by decide : (1 : Int32) < (5 : Int32))⟩
  have hin10 : ¬ ((1 : Int32) < 0 ∨ cl6.slots.size ≤ ((1 : Int32)).toNatClampNeg) := inb_of S6 ⟨(by decide : ¬ ((1 : Int32) < (0 : Int32))), (by decide : (1 : Int32) < (5 : Int32))⟩
  have hin11 : ¬ ((2 : Int32) < 0 ∨ cl4.slots.size ≤ ((2 : Int32)).toNatClampNeg) := inb_of S4 ⟨(by decide : ¬ ((2 : Int32) < (0 : Int32))), (by decide : (2 : Int32) < (5 : Int32))⟩
  have hin12 : ¬ ((2 : Int32) < 0 ∨ cl6.slots.size ≤ ((2 : Int32)).toNatClampNeg) := inb_of S6 ⟨(by decide : ¬ ((2 : Int32) < (0 : Int32))), (by decide : (2 : Int32) < (5 : Int32))⟩
  have hin13 : ¬ ((3 : Int32) < 0 ∨ cl4.slots.size ≤ ((3 : Int32)).toNatClampNeg) := inb_of S4 ⟨(by decide : ¬ ((3 : Int32) < (0 : Int32))), (by decide : (3 : Int32) < (5 : Int32))⟩
  have hin14 : ¬ ((3 : Int32) < 0 ∨ cl6.slots.size ≤ ((3 : Int32)).toNatClampNeg) := inb_of S6 ⟨(by decide : ¬ ((3 : Int32) < (0 : Int32))), (by decide : (3 : Int32) < (5 : Int32))⟩
  have hin15 : ¬ ((4 : Int32) < 0 ∨ cl4.slots.size ≤ ((4 : Int32)).toNatClampNeg) := inb_of S4 ⟨(by decide : ¬ ((4 : Int32) < (0 : Int32))), (by decide : (4 : Int32) < (5 : Int32))⟩
  have hin16 : ¬ ((4 : Int32) < 0 ∨ cl6.slots.size ≤ ((4 : Int32)).toNatClampNeg) := inb_of S6 ⟨(by decide : ¬ ((4 : Int32) < (0 : Int32))), (by decide : (4 : Int32) < (5 : Int32))⟩
  refine ⟨s₁, _, _, _, (some (.int (1 : Int32))), X0, nofun, by decide, by decide, ?_, fun fs hr => ?_⟩
  · show Q9 Z a1 a2 k3 k5 h0 n0 _ s₁.heap _
    rw [e0]
    exact ⟨rfl, N0, rfl⟩
  · show Steps p.tables e below (s₁.setTop (mkF m 0 #[.val (.ref a1), .val (.ref a2), .unset] [])) _
    refine XS.aloadN X0.here hx rfl (hb hby d10_0) rfl rfl ?_
    refine X0.arraylength hx (by rw [e0]; exact Ar4.1) (State.isArrayOf_alike hZ.alike Ar4.2.1) (g := (mkF m 1 #[.val (.ref a1), .val (.ref a2), .unset] [(.ref a1)])) rfl rfl (hb hby d10_1) _ ?_
    show Steps p.tables e below (s₁.setTop (mkF m 2 #[.val (.ref a1), .val (.ref a2), .unset] [(.int cl4.slots.size.toInt32)])) _
    rw [len_of S4 M4]
    refine XS.aloadN X0.here hx rfl (hb hby d10_2) rfl rfl ?_
    refine X0.arraylength hx (by rw [e0]; exact Ar6.1) (State.isArrayOf_alike hZ.alike Ar6.2.1) (g := (mkF m 3 #[.val (.ref a1), .val (.ref a2), .unset] [(.ref a2), (.int (5 : Int32))])) rfl rfl (hb hby d10_3) _ ?_
    show Steps p.tables e below (s₁.setTop (mkF m 4 #[.val (.ref a1), .val (.ref a2), .unset] [(.int cl6.slots.size.toInt32), (.int (5 : Int32))])) _
    rw [len_of S6 M6]
    refine XS.icmpNo X0.here hx rfl (hb hby d10_4) rfl (teq ((by decide : (5 : Int32) = (5 : Int32)) : (5 : Int32) = (5 : Int32))).2 ?_
    refine XS.iconst X0.here hx rfl (hb hby d10_7) ?_
    refine XS.istoreN X0.here hx rfl (hb hby d10_8) rfl (l' := #[.val (.ref a1), .val (.ref a2), .val (.int (0 : Int32))]) rfl ?_
    refine XS.iloadN X0.here hx rfl (hb hby d10_9) rfl ?_
    refine XS.aloadN X0.here hx rfl (hb hby d10_10) rfl rfl ?_
    refine X0.arraylength hx (by rw [e0]; exact Ar4.1) (State.isArrayOf_alike hZ.alike Ar4.2.1) (g := (mkF m 11 #[.val (.ref a1), .val (.ref a2), .val (.int (0 : Int32))] [(.ref a1), (.int (0 : Int32))])) rfl rfl (hb hby d10_11) _ ?_
    show Steps p.tables e below (s₁.setTop (mkF m 12 #[.val (.ref a1), .val (.ref a2), .val (.int (0 : Int32))] [(.int cl4.slots.size.toInt32), (.int (0 : Int32))])) _
    rw [len_of S4 M4]
    refine XS.icmpNo X0.here hx rfl (hb hby d10_12) rfl (tlt ((by decide : (0 : Int32) < (5 : Int32)) : (0 : Int32) < (5 : Int32))).2.1 ?_
    refine XS.aloadN X0.here hx rfl (hb hby d10_15) rfl rfl ?_
    refine XS.iloadN X0.here hx rfl (hb hby d10_16) rfl ?_
    refine X0.baloadBytes hx (j := (0 : Int32)) (v := (.int (104 : Int32))) (by rw [e0]; exact Ar4.1) (State.isArrayOf_alike hZ.alike Ar4.2.1) Ar4.2.2 hin7 (Has.at Hs4 hin7 rfl) (g := (mkF m 17 #[.val (.ref a1), .val (.ref a2), .val (.int (0 : Int32))] [(.int (0 : Int32)), (.ref a1)])) rfl rfl (hb hby d10_17) _ ?_
    refine XS.aloadN X0.here hx rfl (hb hby d10_18) rfl rfl ?_
    refine XS.iloadN X0.here hx rfl (hb hby d10_19) rfl ?_
    refine X0.baloadBytes hx (j := (0 : Int32)) (v := (.int (104 : Int32))) (by rw [e0]; exact Ar6.1) (State.isArrayOf_alike hZ.alike Ar6.2.1) Ar6.2.2 hin8 (Has.at Hs6 hin8 rfl) (g := (mkF m 20 #[.val (.ref a1), .val (.ref a2), .val (.int (0 : Int32))] [(.int (0 : Int32)), (.ref a2), (.int (104 : Int32))])) rfl rfl (hb hby d10_20) _ ?_
    refine XS.icmpYes X0.here hx rfl (pc0 := 21) (pc' := 26) rfl (hb hby d10_21) rfl (teq ((by decide : (104 : Int32) = (104 : Int32)) : (104 : Int32) = (104 : Int32))).1 (by decide) (by decide) ?_
    refine XS.iinc X0.here hx rfl (hb hby d10_26) rfl (l' := #[.val (.ref a1), .val (.ref a2), .val (.int (1 : Int32))]) rfl ?_
    refine XS.goto X0.here hx rfl (pc0 := 29) (pc' := 9) rfl (hb hby d10_29) (by decide) (by decide) ?_
    refine XS.iloadN X0.here hx rfl (hb hby d10_9) rfl ?_
    show Steps p.tables e below (s₁.setTop (mkF m 10 #[.val (.ref a1), .val (.ref a2), .val (.int (1 : Int32))] [(.int (1 : Int32))])) _
    refine XS.aloadN X0.here hx rfl (hb hby d10_10) rfl rfl ?_
    refine X0.arraylength hx (by rw [e0]; exact Ar4.1) (State.isArrayOf_alike hZ.alike Ar4.2.1) (g := (mkF m 11 #[.val (.ref a1), .val (.ref a2), .val (.int (1 : Int32))] [(.ref a1), (.int (1 : Int32))])) rfl rfl (hb hby d10_11) _ ?_
    show Steps p.tables e below (s₁.setTop (mkF m 12 #[.val (.ref a1), .val (.ref a2), .val (.int (1 : Int32))] [(.int cl4.slots.size.toInt32), (.int (1 : Int32))])) _
    rw [len_of S4 M4]
    refine XS.icmpNo X0.here hx rfl (hb hby d10_12) rfl (tlt ((by decide : (1 : Int32) < (5 : Int32)) : (1 : Int32) < (5 : Int32))).2.1 ?_
    refine XS.aloadN X0.here hx rfl (hb hby d10_15) rfl rfl ?_
    refine XS.iloadN X0.here hx rfl (hb hby d10_16) rfl ?_
    refine X0.baloadBytes hx (j := (1 : Int32)) (v := (.int (116 : Int32))) (by rw [e0]; exact Ar4.1) (State.isArrayOf_alike hZ.alike Ar4.2.1) Ar4.2.2 hin9 (Has.at Hs4 hin9 rfl) (g := (mkF m 17 #[.val (.ref a1), .val (.ref a2), .val (.int (1 : Int32))] [(.int (1 : Int32)), (.ref a1)])) rfl rfl (hb hby d10_17) _ ?_
    refine XS.aloadN X0.here hx rfl (hb hby d10_18) rfl rfl ?_
    refine XS.iloadN X0.here hx rfl (hb hby d10_19) rfl ?_
    refine X0.baloadBytes hx (j := (1 : Int32)) (v := (.int (116 : Int32))) (by rw [e0]; exact Ar6.1) (State.isArrayOf_alike hZ.alike Ar6.2.1) Ar6.2.2 hin10 (Has.at Hs6 hin10 rfl) (g := (mkF m 20 #[.val (.ref a1), .val (.ref a2), .val (.int (1 : Int32))] [(.int (1 : Int32)), (.ref a2), (.int (116 : Int32))])) rfl rfl (hb hby d10_20) _ ?_
    refine XS.icmpYes X0.here hx rfl (pc0 := 21) (pc' := 26) rfl (hb hby d10_21) rfl (teq ((by decide : (116 : Int32) = (116 : Int32)) : (116 : Int32) = (116 : Int32))).1 (by decide) (by decide) ?_
    refine XS.iinc X0.here hx rfl (hb hby d10_26) rfl (l' := #[.val (.ref a1), .val (.ref a2), .val (.int (2 : Int32))]) rfl ?_
    refine XS.goto X0.here hx rfl (pc0 := 29) (pc' := 9) rfl (hb hby d10_29) (by decide) (by decide) ?_
    refine XS.iloadN X0.here hx rfl (hb hby d10_9) rfl ?_
    show Steps p.tables e below (s₁.setTop (mkF m 10 #[.val (.ref a1), .val (.ref a2), .val (.int (2 : Int32))] [(.int (2 : Int32))])) _
    refine XS.aloadN X0.here hx rfl (hb hby d10_10) rfl rfl ?_
    refine X0.arraylength hx (by rw [e0]; exact Ar4.1) (State.isArrayOf_alike hZ.alike Ar4.2.1) (g := (mkF m 11 #[.val (.ref a1), .val (.ref a2), .val (.int (2 : Int32))] [(.ref a1), (.int (2 : Int32))])) rfl rfl (hb hby d10_11) _ ?_
    show Steps p.tables e below (s₁.setTop (mkF m 12 #[.val (.ref a1), .val (.ref a2), .val (.int (2 : Int32))] [(.int cl4.slots.size.toInt32), (.int (2 : Int32))])) _
    rw [len_of S4 M4]
    refine XS.icmpNo X0.here hx rfl (hb hby d10_12) rfl (tlt ((by decide : (2 : Int32) < (5 : Int32)) : (2 : Int32) < (5 : Int32))).2.1 ?_
    refine XS.aloadN X0.here hx rfl (hb hby d10_15) rfl rfl ?_
    refine XS.iloadN X0.here hx rfl (hb hby d10_16) rfl ?_
    refine X0.baloadBytes hx (j := (2 : Int32)) (v := (.int (116 : Int32))) (by rw [e0]; exact Ar4.1) (State.isArrayOf_alike hZ.alike Ar4.2.1) Ar4.2.2 hin11 (Has.at Hs4 hin11 rfl) (g := (mkF m 17 #[.val (.ref a1), .val (.ref a2), .val (.int (2 : Int32))] [(.int (2 : Int32)), (.ref a1)])) rfl rfl (hb hby d10_17) _ ?_
    refine XS.aloadN X0.here hx rfl (hb hby d10_18) rfl rfl ?_
    refine XS.iloadN X0.here hx rfl (hb hby d10_19) rfl ?_
    refine X0.baloadBytes hx (j := (2 : Int32)) (v := (.int (116 : Int32))) (by rw [e0]; exact Ar6.1) (State.isArrayOf_alike hZ.alike Ar6.2.1) Ar6.2.2 hin12 (Has.at Hs6 hin12 rfl) (g := (mkF m 20 #[.val (.ref a1), .val (.ref a2), .val (.int (2 : Int32))] [(.int (2 : Int32)), (.ref a2), (.int (116 : Int32))])) rfl rfl (hb hby d10_20) _ ?_
    refine XS.icmpYes X0.here hx rfl (pc0 := 21) (pc' := 26) rfl (hb hby d10_21) rfl (teq ((by decide : (116 : Int32) = (116 : Int32)) : (116 : Int32) = (116 : Int32))).1 (by decide) (by decide) ?_
    refine XS.iinc X0.here hx rfl (hb hby d10_26) rfl (l' := #[.val (.ref a1), .val (.ref a2), .val (.int (3 : Int32))]) rfl ?_
    refine XS.goto X0.here hx rfl (pc0 := 29) (pc' := 9) rfl (hb hby d10_29) (by decide) (by decide) ?_
    refine XS.iloadN X0.here hx rfl (hb hby d10_9) rfl ?_
    show Steps p.tables e below (s₁.setTop (mkF m 10 #[.val (.ref a1), .val (.ref a2), .val (.int (3 : Int32))] [(.int (3 : Int32))])) _
    refine XS.aloadN X0.here hx rfl (hb hby d10_10) rfl rfl ?_
    refine X0.arraylength hx (by rw [e0]; exact Ar4.1) (State.isArrayOf_alike hZ.alike Ar4.2.1) (g := (mkF m 11 #[.val (.ref a1), .val (.ref a2), .val (.int (3 : Int32))] [(.ref a1), (.int (3 : Int32))])) rfl rfl (hb hby d10_11) _ ?_
    show Steps p.tables e below (s₁.setTop (mkF m 12 #[.val (.ref a1), .val (.ref a2), .val (.int (3 : Int32))] [(.int cl4.slots.size.toInt32), (.int (3 : Int32))])) _
    rw [len_of S4 M4]
    refine XS.icmpNo X0.here hx rfl (hb hby d10_12) rfl (tlt ((by decide : (3 : Int32) < (5 : Int32)) : (3 : Int32) < (5 : Int32))).2.1 ?_
    refine XS.aloadN X0.here hx rfl (hb hby d10_15) rfl rfl ?_
    refine XS.iloadN X0.here hx rfl (hb hby d10_16) rfl ?_
    refine X0.baloadBytes hx (j := (3 : Int32)) (v := (.int (112 : Int32))) (by rw [e0]; exact Ar4.1) (State.isArrayOf_alike hZ.alike Ar4.2.1) Ar4.2.2 hin13 (Has.at Hs4 hin13 rfl) (g := (mkF m 17 #[.val (.ref a1), .val (.ref a2), .val (.int (3 : Int32))] [(.int (3 : Int32)), (.ref a1)])) rfl rfl (hb hby d10_17) _ ?_
    refine XS.aloadN X0.here hx rfl (hb hby d10_18) rfl rfl ?_
    refine XS.iloadN X0.here hx rfl (hb hby d10_19) rfl ?_
    refine X0.baloadBytes hx (j := (3 : Int32)) (v := (.int (112 : Int32))) (by rw [e0]; exact Ar6.1) (State.isArrayOf_alike hZ.alike Ar6.2.1) Ar6.2.2 hin14 (Has.at Hs6 hin14 rfl) (g := (mkF m 20 #[.val (.ref a1), .val (.ref a2), .val (.int (3 : Int32))] [(.int (3 : Int32)), (.ref a2), (.int (112 : Int32))])) rfl rfl (hb hby d10_20) _ ?_
    refine XS.icmpYes X0.here hx rfl (pc0 := 21) (pc' := 26) rfl (hb hby d10_21) rfl (teq ((by decide : (112 : Int32) = (112 : Int32)) : (112 : Int32) = (112 : Int32))).1 (by decide) (by decide) ?_
    refine XS.iinc X0.here hx rfl (hb hby d10_26) rfl (l' := #[.val (.ref a1), .val (.ref a2), .val (.int (4 : Int32))]) rfl ?_
    refine XS.goto X0.here hx rfl (pc0 := 29) (pc' := 9) rfl (hb hby d10_29) (by decide) (by decide) ?_
    refine XS.iloadN X0.here hx rfl (hb hby d10_9) rfl ?_
    show Steps p.tables e below (s₁.setTop (mkF m 10 #[.val (.ref a1), .val (.ref a2), .val (.int (4 : Int32))] [(.int (4 : Int32))])) _
    refine XS.aloadN X0.here hx rfl (hb hby d10_10) rfl rfl ?_
    refine X0.arraylength hx (by rw [e0]; exact Ar4.1) (State.isArrayOf_alike hZ.alike Ar4.2.1) (g := (mkF m 11 #[.val (.ref a1), .val (.ref a2), .val (.int (4 : Int32))] [(.ref a1), (.int (4 : Int32))])) rfl rfl (hb hby d10_11) _ ?_
    show Steps p.tables e below (s₁.setTop (mkF m 12 #[.val (.ref a1), .val (.ref a2), .val (.int (4 : Int32))] [(.int cl4.slots.size.toInt32), (.int (4 : Int32))])) _
    rw [len_of S4 M4]
    refine XS.icmpNo X0.here hx rfl (hb hby d10_12) rfl (tlt ((by decide : (4 : Int32) < (5 : Int32)) : (4 : Int32) < (5 : Int32))).2.1 ?_
    refine XS.aloadN X0.here hx rfl (hb hby d10_15) rfl rfl ?_
    refine XS.iloadN X0.here hx rfl (hb hby d10_16) rfl ?_
    refine X0.baloadBytes hx (j := (4 : Int32)) (v := (.int (49 : Int32))) (by rw [e0]; exact Ar4.1) (State.isArrayOf_alike hZ.alike Ar4.2.1) Ar4.2.2 hin15 (Has.at Hs4 hin15 rfl) (g := (mkF m 17 #[.val (.ref a1), .val (.ref a2), .val (.int (4 : Int32))] [(.int (4 : Int32)), (.ref a1)])) rfl rfl (hb hby d10_17) _ ?_
    refine XS.aloadN X0.here hx rfl (hb hby d10_18) rfl rfl ?_
    refine XS.iloadN X0.here hx rfl (hb hby d10_19) rfl ?_
    refine X0.baloadBytes hx (j := (4 : Int32)) (v := (.int (49 : Int32))) (by rw [e0]; exact Ar6.1) (State.isArrayOf_alike hZ.alike Ar6.2.1) Ar6.2.2 hin16 (Has.at Hs6 hin16 rfl) (g := (mkF m 20 #[.val (.ref a1), .val (.ref a2), .val (.int (4 : Int32))] [(.int (4 : Int32)), (.ref a2), (.int (49 : Int32))])) rfl rfl (hb hby d10_20) _ ?_
    refine XS.icmpYes X0.here hx rfl (pc0 := 21) (pc' := 26) rfl (hb hby d10_21) rfl (teq ((by decide : (49 : Int32) = (49 : Int32)) : (49 : Int32) = (49 : Int32))).1 (by decide) (by decide) ?_
    refine XS.iinc X0.here hx rfl (hb hby d10_26) rfl (l' := #[.val (.ref a1), .val (.ref a2), .val (.int (5 : Int32))]) rfl ?_
    refine XS.goto X0.here hx rfl (pc0 := 29) (pc' := 9) rfl (hb hby d10_29) (by decide) (by decide) ?_
    refine XS.iloadN X0.here hx rfl (hb hby d10_9) rfl ?_
    show Steps p.tables e below (s₁.setTop (mkF m 10 #[.val (.ref a1), .val (.ref a2), .val (.int (5 : Int32))] [(.int (5 : Int32))])) _
    refine XS.aloadN X0.here hx rfl (hb hby d10_10) rfl rfl ?_
    refine X0.arraylength hx (by rw [e0]; exact Ar4.1) (State.isArrayOf_alike hZ.alike Ar4.2.1) (g := (mkF m 11 #[.val (.ref a1), .val (.ref a2), .val (.int (5 : Int32))] [(.ref a1), (.int (5 : Int32))])) rfl rfl (hb hby d10_11) _ ?_
    show Steps p.tables e below (s₁.setTop (mkF m 12 #[.val (.ref a1), .val (.ref a2), .val (.int (5 : Int32))] [(.int cl4.slots.size.toInt32), (.int (5 : Int32))])) _
    rw [len_of S4 M4]
    refine XS.icmpYes X0.here hx rfl (pc0 := 12) (pc' := 32) rfl (hb hby d10_12) rfl (flt ((by decide : ¬ ((5 : Int32) < (5 : Int32))) : ¬ ((5 : Int32) < (5 : Int32)))).2.1 (by decide) (by decide) ?_
    refine XS.iconst X0.here hx rfl (hb hby d10_32) ?_
    exact retN X0 hx (t := .boolean) hret (by simp) (hb hby d10_33) hr
theorem d9_50 : decode jdk_42_method_66_code 50 = .ok (.iconst 1, 1) := by decide +kernel
theorem d9_51 : decode jdk_42_method_66_code 51 = .ok (.goto 4, 3) := by decide +kernel
-- java/lang/String.equals(Ljava/lang/Object;)Z
abbrev Rm10 : Room := { frames := 1, cells := 0, slots := 0, locals := 14 }
def Q10 (Z : State) (a1 : Addr) (a2 : Addr) (p5 : Int32) (a10 : Addr) (a12 : Addr) (k14 : ClassId) (k15 : ClassId) (h0 : Heap) (n0 : Nat) (v : Option Value) (h : Heap) (L : List Loc) : Prop := v = some (.int (1 : Int32)) ∧ Fr n0 L ∧ h = h0
theorem ef10 (a1 : Addr) (a2 : Addr) (m : MethodId) : entryFrame m #[(.ref a1), (.ref a2)] 3 = mkF m 0 #[.val (.ref a1), .val (.ref a2), .unset] [] := by first | (simp [entryFrame, mkF, argsToLocals, Value.category]; done) | rfl
theorem rm10 (l : Launch) (Z : State) (a0 : Array Value) (hw : ∀ d ∈ tables_1, d.before a0 Z = true) (ws : List Jvm.Cond) (a1 : Addr) (a2 : Addr) (p5 : Int32) (a10 : Addr) (a12 : Addr) (k14 : ClassId) (k15 : ClassId) (h0 : Heap) (n0 : Nat) (Z0 : n0 ≤ h0.size) (ne_a1_a2 : a1 ≠ a2) (E_a2 : Exa Z h0 a2 "java/lang/String") (S_COMPACT_STRINGS : Sta Z Z.heap "java/lang/String" "COMPACT_STRINGS" "Z" (.int p5)) (Od0 : Old Z n0 h0) (c7 : ¬ (p5 = (0 : Int32))) (F_coder_a1 : Fld Z h0 a1 "java/lang/String" "coder" "B" (.int (0 : Int32))) (F_coder_a2 : Fld Z h0 a2 "java/lang/String" "coder" "B" (.int (0 : Int32))) (F_value_a1 : Fld Z h0 a1 "java/lang/String" "value" "[B" (.ref a10)) (F_value_a2 : Fld Z h0 a2 "java/lang/String" "value" "[B" (.ref a12)) (V_a10 : Arv Z h0 a10 k14 .byte (5 : Int32) [(.int (104 : Int32)), (.int (116 : Int32)), (.int (116 : Int32)), (.int (112 : Int32)), (.int (49 : Int32))] (.int (0 : Int32))) (V_a12 : Arv Z h0 a12 k15 .byte (5 : Int32) [(.int (104 : Int32)), (.int (116 : Int32)), (.int (116 : Int32)), (.int (112 : Int32)), (.int (49 : Int32))] (.int (0 : Int32))) :
    OwnMet l Z y_7 jdk_42_method_66_code 3 (some .boolean) ws Rm10 #[(.ref a1), (.ref a2)] h0 (Q10 Z a1 a2 p5 a10 a12 k14 k15 h0 n0) := by
  refine own_body (plainFor_of_name pn_1) (ef10 a1 a2) ?_
  intro p e s m below meth c s₁ hx hby hml hown hnm hret hZ X0 e0
  have N0 := Fr.nil n0
  obtain ⟨T3, X3, e3, st3⟩ := instY X0 hx hZ hown (w_58 hw) e0 (Ins.self E_a2) (g := (mkF m 8 #[.val (.ref a1), .val (.ref a2), .unset] [(.ref a2)])) rfl rfl (hb hby d9_8)
  obtain ⟨T4, X4, e4, st4⟩ := castY X3 hx hZ hown (w_58 hw) e3 (Ins.self E_a2) (g := (mkF m 15 #[.val (.ref a1), .val (.ref a2), .unset] [(.ref a2)])) rfl rfl (hb hby d9_15)
  obtain ⟨T6, X6, e6, st6⟩ := getS2 X4 hx hZ hown (host := "") (Or.inl (w_14 hw)) Via.refl e4 (S_COMPACT_STRINGS.ext Od0.2) (g := (mkF m 19 #[.val (.ref a1), .val (.ref a2), .val (.ref a2)] [])) rfl (hb hby d9_19)
  obtain ⟨T8, X8, e8, st8⟩ := getF X6 hx hZ hown (host := "") (Or.inl (w_26 hw)) Via.refl e6 F_coder_a1 (g := (mkF m 26 #[.val (.ref a1), .val (.ref a2), .val (.ref a2)] [(.ref a1)])) rfl rfl (hb hby d9_26)
  obtain ⟨T9, X9, e9, st9⟩ := getF X8 hx hZ hown (host := "") (Or.inl (w_26 hw)) Via.refl e8 F_coder_a2 (g := (mkF m 30 #[.val (.ref a1), .val (.ref a2), .val (.ref a2)] [(.ref a2), (.int (0 : Int32))])) rfl rfl (hb hby d9_30)
  obtain ⟨T11, X11, e11, st11⟩ := getF X9 hx hZ hown (host := "") (Or.inl (w_28 hw)) Via.refl e9 F_value_a1 (g := (mkF m 37 #[.val (.ref a1), .val (.ref a2), .val (.ref a2)] [(.ref a1)])) rfl rfl (hb hby d9_37)
  obtain ⟨T13, X13, e13, st13⟩ := getF X11 hx hZ hown (host := "") (Or.inl (w_28 hw)) Via.refl e11 F_value_a2 (g := (mkF m 41 #[.val (.ref a1), .val (.ref a2), .val (.ref a2)] [(.ref a2), (.ref a10)])) rfl rfl (hb hby d9_41)
  obtain ⟨_, T16, L16, X16, hQ16, st16⟩ := own_callS X13 hx hZ hown (y := y_6) (w_59 hw) (w_60 hw) (w_61 hw) (w_62 hw) (rm9 l Z a0 hw [] a10 a12 k14 k15 h0 n0 Z0 V_a10 V_a12) e13 (Ls := #[.val (.ref a1), .val (.ref a2), .val (.ref a2)]) (by rw [hml]; rfl) (argsL := [(.ref a10), (.ref a12)]) (rest := []) (lenOf pd_6 rfl) (hb hby d9_44) (W := 0)
  obtain ⟨rfl, Nq16, e16⟩ := hQ16
  have N16 := Fr.app N0 Nq16
  refine ⟨T16, _, _, _, (some (.int (1 : Int32))), X16, nofun, by decide, by decide, ?_, fun fs hr => ?_⟩
  · show Q10 Z a1 a2 p5 a10 a12 k14 k15 h0 n0 _ T16.heap _
    rw [e16]
    exact ⟨rfl, N16, rfl⟩
  · show Steps p.tables e below (s₁.setTop (mkF m 0 #[.val (.ref a1), .val (.ref a2), .unset] [])) _
    refine XS.aloadN X0.here hx rfl (hb hby d9_0) rfl rfl ?_
    refine XS.aloadN X0.here hx rfl (hb hby d9_1) rfl rfl ?_
    refine Jvm.RoadKit.acmp (g := (mkF m 2 #[.val (.ref a1), .val (.ref a2), .unset] [(.ref a2), (.ref a1)])) X0 hx rfl rfl rfl (pc0 := 2) (pc' := 7) (same := false) rfl (hb hby d9_2) rfl (decide_eq_false fun q => ne_a1_a2 (Value.ref.inj q)) (by decide) (by decide) ?_
    refine XS.aloadN X0.here hx rfl (hb hby d9_7) rfl rfl ?_
    refine st3 _ ?_
    refine XS.ifNo X3.here hx rfl (hb hby d9_11) rfl ((if0 _ _).trans (feq ((by decide : ¬ ((1 : Int32) = (0 : Int32))) : ¬ ((1 : Int32) = (0 : Int32)))).1) ?_
    refine XS.aloadN X3.here hx rfl (hb hby d9_14) rfl rfl ?_
    refine st4 _ ?_
    refine XS.astoreN X4.here hx rfl (hb hby d9_18) rfl rfl (l' := #[.val (.ref a1), .val (.ref a2), .val (.ref a2)]) rfl ?_
    refine st6 _ ?_
    refine XS.ifNo X6.here hx rfl (hb hby d9_22) rfl ((if0 _ _).trans (feq (c7 : ¬ (p5 = (0 : Int32)))).1) ?_
    refine XS.aloadN X6.here hx rfl (hb hby d9_25) rfl rfl ?_
    show Steps p.tables e below (T6.setTop (mkF m 26 #[.val (.ref a1), .val (.ref a2), .val (.ref a2)] [(.ref a1)])) _
    refine st8 _ ?_
    refine XS.aloadN X8.here hx rfl (hb hby d9_29) rfl rfl ?_
    refine st9 _ ?_
    refine XS.icmpNo X9.here hx rfl (hb hby d9_33) rfl (teq ((by decide : (0 : Int32) = (0 : Int32)) : (0 : Int32) = (0 : Int32))).2 ?_
    refine XS.aloadN X9.here hx rfl (hb hby d9_36) rfl rfl ?_
    refine st11 _ ?_
    refine XS.aloadN X11.here hx rfl (hb hby d9_40) rfl rfl ?_
    refine st13 _ ?_
    refine st16 _ ?_
    refine XS.ifNo X16.here hx rfl (hb hby d9_47) rfl ((if0 _ _).trans (feq ((by decide : ¬ ((1 : Int32) = (0 : Int32))) : ¬ ((1 : Int32) = (0 : Int32)))).1) ?_
    refine XS.iconst X16.here hx rfl (hb hby d9_50) ?_
    refine XS.goto X16.here hx rfl (pc0 := 51) (pc' := 55) rfl (hb hby d9_51) (by decide) (by decide) ?_
    show Steps p.tables e below (T16.setTop (mkF m 55 #[.val (.ref a1), .val (.ref a2), .val (.ref a2)] [(.int (1 : Int32))])) _
    exact retN X16 hx (t := .boolean) hret (by simp) (hb hby d9_55) hr
theorem d7_31 : decode prog_70_method_4_code 31 = .ok (.aload 4, 2) := by decide +kernel
theorem d7_33 : decode prog_70_method_4_code 33 = .ok (.areturn, 1) := by decide +kernel
abbrev y_8 : MethodName := ⟨"com/example/chickadee/chickadee/server/SbiHttp", "read", "(Ljava/lang/String;)Lcom/example/chickadee/chickadee/server/SbiHttp;"⟩
-- com/example/chickadee/chickadee/server/SbiHttp.read(Ljava/lang/String;)Lcom/example/chickadee/chickadee/server/SbiHttp;
abbrev Rm11 : Room := { frames := 2, cells := 1, slots := 2, locals := 28 }
def Q11 (Z : State) (a1 : Addr) (a2 : Addr) (a3 : Addr) (a4 : Addr) (k5 : ClassId) (a9 : Addr) (p14 : Int32) (a18 : Addr) (a20 : Addr) (k22 : ClassId) (k24 : ClassId) (a28 : Addr) (a33 : Addr) (k35 : ClassId) (h0 : Heap) (n0 : Nat) (v : Option Value) (h : Heap) (L : List Loc) : Prop := v = some (.ref a4) ∧ Fr n0 L ∧ Keep h0 h []
theorem ef11 (a1 : Addr) (m : MethodId) : entryFrame m #[(.ref a1)] 5 = mkF m 0 #[.val (.ref a1), .unset, .unset, .unset, .unset] [] := by first | (simp [entryFrame, mkF, argsToLocals, Value.category]; done) | rfl
theorem rm11 (l : Launch) (Z : State) (a0 : Array Value) (hw : ∀ d ∈ tables_1, d.before a0 Z = true) (ws : List Jvm.Cond) (a1 : Addr) (a2 : Addr) (a3 : Addr) (a4 : Addr) (k5 : ClassId) (a9 : Addr) (p14 : Int32) (a18 : Addr) (a20 : Addr) (k22 : ClassId) (k24 : ClassId) (a28 : Addr) (a33 : Addr) (k35 : ClassId) (h0 : Heap) (n0 : Nat) (Z0 : n0 ≤ h0.size) (S__VALUES : Sta Z Z.heap "com/example/chickadee/chickadee/server/SbiHttp" "$VALUES" "[Lcom/example/chickadee/chickadee/server/SbiHttp;" (.ref a2)) (Od0 : Old Z n0 h0) (V_a2 : Arv Z h0 a2 k5 (.object "com/example/chickadee/chickadee/server/SbiHttp") (2 : Int32) [(.ref a3), (.ref a4)] .null) (E_a2 : Exa Z h0 a2 "[Lcom/example/chickadee/chickadee/server/SbiHttp;") (F_option_a3 : Fld Z h0 a3 "com/example/chickadee/chickadee/server/SbiHttp" "option" "Ljava/lang/String;" (.ref a9)) (E_a9 : Exa Z h0 a9 "java/lang/String") (ne_a9_a1 : a9 ≠ a1) (E_a1 : Exa Z h0 a1 "java/lang/String") (S_COMPACT_STRINGS : Sta Z Z.heap "java/lang/String" "COMPACT_STRINGS" "Z" (.int p14)) (c15 : ¬ (p14 = (0 : Int32))) (F_coder_a9 : Fld Z h0 a9 "java/lang/String" "coder" "B" (.int (0 : Int32))) (F_coder_a1 : Fld Z h0 a1 "java/lang/String" "coder" "B" (.int (0 : Int32))) (F_value_a9 : Fld Z h0 a9 "java/lang/String" "value" "[B" (.ref a18)) (F_value_a1 : Fld Z h0 a1 "java/lang/String" "value" "[B" (.ref a20)) (V_a18 : Arv Z h0 a18 k22 .byte (3 : Int32) [(.int (104 : Int32)), (.int (50 : Int32)), (.int (99 : Int32))] (.int (0 : Int32))) (V_a20 : Arv Z h0 a20 k24 .byte (5 : Int32) [(.int (104 : Int32)), (.int (116 : Int32)), (.int (116 : Int32)), (.int (112 : Int32)), (.int (49 : Int32))] (.int (0 : Int32))) (F_option_a4 : Fld Z h0 a4 "com/example/chickadee/chickadee/server/SbiHttp" "option" "Ljava/lang/String;" (.ref a28)) (E_a28 : Exa Z h0 a28 "java/lang/String") (ne_a28_a1 : a28 ≠ a1) (F_coder_a28 : Fld Z h0 a28 "java/lang/String" "coder" "B" (.int (0 : Int32))) (F_value_a28 : Fld Z h0 a28 "java/lang/String" "value" "[B" (.ref a33)) (V_a33 : Arv Z h0 a33 k35 .byte (5 : Int32) [(.int (104 : Int32)), (.int (116 : Int32)), (.int (116 : Int32)), (.int (112 : Int32)), (.int (49 : Int32))] (.int (0 : Int32))) :
    OwnMet l Z y_8 prog_70_method_4_code 5 (some (.object "com/example/chickadee/chickadee/server/SbiHttp")) ws Rm11 #[(.ref a1)] h0 (Q11 Z a1 a2 a3 a4 k5 a9 p14 a18 a20 k22 k24 a28 a33 k35 h0 n0) := by
  refine own_body (plainFor_of_name pn_2) (ef11 a1) ?_
  intro p e s m below meth c s₁ hx hby hml hown hnm hret hZ X0 e0
  have N0 := Fr.nil n0
  obtain ⟨_, T6, L6, X6, hQ6, st6⟩ := own_callS X0 hx hZ hown (y := y_5) (w_34 hw) (w_35 hw) (w_32 hw) (w_36 hw) (rm6 l Z a0 hw [] a2 a3 a4 k5 h0 n0 Z0 S__VALUES Od0 V_a2 E_a2) e0 (Ls := #[.val (.ref a1), .unset, .unset, .unset, .unset]) (by rw [hml]; rfl) (argsL := []) (rest := []) (lenOf pd_5 rfl) (hb hby d7_0) (W := 0)
  obtain ⟨b6_b6, rfl, Nq6, K6, o6_0, o6_1, o6_2⟩ := hQ6
  have N6 := Fr.app N0 Nq6
  have s0 := K6.1
  obtain ⟨cl7, Ar7, q7, S7, M7, Hs7, G7⟩ := id o6_2
  have hin8 : ¬ ((0 : Int32) < 0 ∨ cl7.slots.size ≤ ((0 : Int32)).toNatClampNeg) := inb_of S7 ⟨(by decide : ¬ ((0 : Int32) < (0 : Int32))), (by decide : (0 : Int32) < (2 : Int32))⟩
  have Fl10 := (F_option_a3.keep K6 nin0)
  obtain ⟨T11, X11, e11, st11⟩ := getF X6 hx hZ hown (host := "") (Or.inl (w_51 hw)) Via.refl rfl Fl10 (g := (mkF m 21 #[.val (.ref a1), .val (.ref b6_b6), .val (.int (2 : Int32)), .val (.int (0 : Int32)), .val (.ref a3)] [(.ref a3)])) rfl rfl (hb hby d7_21)
  have Ex12 := (E_a9.keep K6)
  have Ex13 := (E_a1.keep K6)
  have Od1 : Old Z n0 T6.heap := Od0.keep K6 all0
  have Fl16 := (F_coder_a9.keep K6 nin0)
  have Fl17 := (F_coder_a1.keep K6 nin0)
  have Fl19 := (F_value_a9.keep K6 nin0)
  have Fl21 := (F_value_a1.keep K6 nin0)
  have Va23 := (V_a18.keep K6 nin0)
  have Va25 := (V_a20.keep K6 nin0)
  have z1 := Nat.le_trans Z0 s0
  obtain ⟨_, T26, L26, X26, hQ26, st26⟩ := own_virtual X11 hx hZ hown (y := y_7) (z := y_7) Ex12 (w_53 hw) (w_54 hw) (notFace_of_selects (args := #[]) (mvT hZ (w_56 hw))) (w_56 hw) (w_55 hw) (w_3 hw) (w_57 hw) (rm8 l Z a0 hw [] a9 a1 p14 a18 a20 k22 k24 T6.heap n0 z1 ne_a9_a1 Ex13 S_COMPACT_STRINGS Od1 c15 Fl16 Fl17 Fl19 Fl21 Va23 Va25) e11 (Ls := #[.val (.ref a1), .val (.ref b6_b6), .val (.int (2 : Int32)), .val (.int (0 : Int32)), .val (.ref a3)]) (by rw [hml]; rfl) (argsL := [(.ref a1)]) (rest := []) (lenOf pd_7 rfl) (hb hby d7_25) (W := 0)
  obtain ⟨rfl, Nq26, e26⟩ := hQ26
  have N26 := Fr.app N6 Nq26
  have hin27 : ¬ ((1 : Int32) < 0 ∨ cl7.slots.size ≤ ((1 : Int32)).toNatClampNeg) := inb_of S7 ⟨(by decide : ¬ ((1 : Int32) < (0 : Int32))), (by decide : (1 : Int32) < (2 : Int32))⟩
  have Fl29 := (F_option_a4.keep K6 nin0)
  obtain ⟨T30, X30, e30, st30⟩ := getF X26 hx hZ hown (host := "") (Or.inl (w_51 hw)) Via.refl e26 Fl29 (g := (mkF m 21 #[.val (.ref a1), .val (.ref b6_b6), .val (.int (2 : Int32)), .val (.int (1 : Int32)), .val (.ref a4)] [(.ref a4)])) rfl rfl (hb hby d7_21)
  have Ex31 := (E_a28.keep K6)
  have Fl32 := (F_coder_a28.keep K6 nin0)
  have Fl34 := (F_value_a28.keep K6 nin0)
  have Va36 := (V_a33.keep K6 nin0)
  obtain ⟨_, T37, L37, X37, hQ37, st37⟩ := own_virtual X30 hx hZ hown (y := y_7) (z := y_7) Ex31 (w_53 hw) (w_54 hw) (notFace_of_selects (args := #[]) (mvT hZ (w_56 hw))) (w_56 hw) (w_55 hw) (w_3 hw) (w_57 hw) (rm10 l Z a0 hw [] a28 a1 p14 a33 a20 k35 k24 T6.heap n0 z1 ne_a28_a1 Ex13 S_COMPACT_STRINGS Od1 c15 Fl32 Fl17 Fl34 Fl21 Va36 Va25) e30 (Ls := #[.val (.ref a1), .val (.ref b6_b6), .val (.int (2 : Int32)), .val (.int (1 : Int32)), .val (.ref a4)]) (by rw [hml]; rfl) (argsL := [(.ref a1)]) (rest := []) (lenOf pd_7 rfl) (hb hby d7_25) (W := 0)
  obtain ⟨rfl, Nq37, e37⟩ := hQ37
  have N37 := Fr.app N26 Nq37
  have Kp0 : Keep h0 T6.heap [] := (Keep.refl h0 []).trans K6 all0
  refine ⟨T37, _, _, _, (some (.ref a4)), X37, nofun, by decide, by decide, ?_, fun fs hr => ?_⟩
  · show Q11 Z a1 a2 a3 a4 k5 a9 p14 a18 a20 k22 k24 a28 a33 k35 h0 n0 _ T37.heap _
    rw [e37]
    exact ⟨rfl, N37, Kp0⟩
  · show Steps p.tables e below (s₁.setTop (mkF m 0 #[.val (.ref a1), .unset, .unset, .unset, .unset] [])) _
    refine st6 _ ?_
    refine XS.astoreN X6.here hx rfl (hb hby d7_3) rfl rfl (l' := #[.val (.ref a1), .val (.ref b6_b6), .unset, .unset, .unset]) rfl ?_
    refine XS.aloadN X6.here hx rfl (hb hby d7_4) rfl rfl ?_
    refine X6.arraylength hx (Ar7.1) (State.isArrayOf_alike hZ.alike Ar7.2.1) (g := (mkF m 5 #[.val (.ref a1), .val (.ref b6_b6), .unset, .unset, .unset] [(.ref b6_b6)])) rfl rfl (hb hby d7_5) _ ?_
    show Steps p.tables e below (T6.setTop (mkF m 6 #[.val (.ref a1), .val (.ref b6_b6), .unset, .unset, .unset] [(.int cl7.slots.size.toInt32)])) _
    rw [len_of S7 M7]
    refine XS.istoreN X6.here hx rfl (hb hby d7_6) rfl (l' := #[.val (.ref a1), .val (.ref b6_b6), .val (.int (2 : Int32)), .unset, .unset]) rfl ?_
    refine XS.iconst X6.here hx rfl (hb hby d7_7) ?_
    refine XS.istoreN X6.here hx rfl (hb hby d7_8) rfl (l' := #[.val (.ref a1), .val (.ref b6_b6), .val (.int (2 : Int32)), .val (.int (0 : Int32)), .unset]) rfl ?_
    refine XS.iloadN X6.here hx rfl (hb hby d7_9) rfl ?_
    refine XS.iloadN X6.here hx rfl (hb hby d7_10) rfl ?_
    refine XS.icmpNo X6.here hx rfl (hb hby d7_11) rfl (tlt ((by decide : (0 : Int32) < (2 : Int32)) : (0 : Int32) < (2 : Int32))).2.1 ?_
    refine XS.aloadN X6.here hx rfl (hb hby d7_14) rfl rfl ?_
    refine XS.iloadN X6.here hx rfl (hb hby d7_15) rfl ?_
    refine X6.aaload hx (j := (0 : Int32)) (v := (.ref a3)) (Ar7.1) (State.isArrayOf_alike hZ.alike Ar7.2.1) rfl Ar7.2.2 hin8 (Has.at Hs7 hin8 rfl) (g := (mkF m 16 #[.val (.ref a1), .val (.ref b6_b6), .val (.int (2 : Int32)), .val (.int (0 : Int32)), .unset] [(.int (0 : Int32)), (.ref b6_b6)])) rfl rfl (hb hby d7_16) _ ?_
    refine XS.astore X6.here hx rfl (hb hby d7_17) rfl rfl (l' := #[.val (.ref a1), .val (.ref b6_b6), .val (.int (2 : Int32)), .val (.int (0 : Int32)), .val (.ref a3)]) rfl ?_
    refine XS.aload X6.here hx rfl (hb hby d7_19) rfl rfl ?_
    show Steps p.tables e below (T6.setTop (mkF m 21 #[.val (.ref a1), .val (.ref b6_b6), .val (.int (2 : Int32)), .val (.int (0 : Int32)), .val (.ref a3)] [(.ref a3)])) _
    refine st11 _ ?_
    refine XS.aloadN X11.here hx rfl (hb hby d7_24) rfl rfl ?_
    refine st26 _ ?_
    refine XS.ifYes X26.here hx rfl (pc0 := 28) (pc' := 34) rfl (hb hby d7_28) rfl ((if0 _ _).trans (teq ((by decide : (0 : Int32) = (0 : Int32)) : (0 : Int32) = (0 : Int32))).1) (by decide) (by decide) ?_
    refine XS.iinc X26.here hx rfl (hb hby d7_34) rfl (l' := #[.val (.ref a1), .val (.ref b6_b6), .val (.int (2 : Int32)), .val (.int (1 : Int32)), .val (.ref a3)]) rfl ?_
    refine XS.goto X26.here hx rfl (pc0 := 37) (pc' := 9) rfl (hb hby d7_37) (by decide) (by decide) ?_
    refine XS.iloadN X26.here hx rfl (hb hby d7_9) rfl ?_
    refine XS.iloadN X26.here hx rfl (hb hby d7_10) rfl ?_
    refine XS.icmpNo X26.here hx rfl (hb hby d7_11) rfl (tlt ((by decide : (1 : Int32) < (2 : Int32)) : (1 : Int32) < (2 : Int32))).2.1 ?_
    refine XS.aloadN X26.here hx rfl (hb hby d7_14) rfl rfl ?_
    refine XS.iloadN X26.here hx rfl (hb hby d7_15) rfl ?_
    refine X26.aaload hx (j := (1 : Int32)) (v := (.ref a4)) (by rw [e26]; exact Ar7.1) (State.isArrayOf_alike hZ.alike Ar7.2.1) rfl Ar7.2.2 hin27 (Has.at Hs7 hin27 rfl) (g := (mkF m 16 #[.val (.ref a1), .val (.ref b6_b6), .val (.int (2 : Int32)), .val (.int (1 : Int32)), .val (.ref a3)] [(.int (1 : Int32)), (.ref b6_b6)])) rfl rfl (hb hby d7_16) _ ?_
    show Steps p.tables e below (T26.setTop (mkF m 17 #[.val (.ref a1), .val (.ref b6_b6), .val (.int (2 : Int32)), .val (.int (1 : Int32)), .val (.ref a3)] [(.ref a4)])) _
    refine XS.astore X26.here hx rfl (hb hby d7_17) rfl rfl (l' := #[.val (.ref a1), .val (.ref b6_b6), .val (.int (2 : Int32)), .val (.int (1 : Int32)), .val (.ref a4)]) rfl ?_
    refine XS.aload X26.here hx rfl (hb hby d7_19) rfl rfl ?_
    refine st30 _ ?_
    refine XS.aloadN X30.here hx rfl (hb hby d7_24) rfl rfl ?_
    refine st37 _ ?_
    refine XS.ifNo X37.here hx rfl (hb hby d7_28) rfl ((if0 _ _).trans (feq ((by decide : ¬ ((1 : Int32) = (0 : Int32))) : ¬ ((1 : Int32) = (0 : Int32)))).1) ?_
    refine XS.aload X37.here hx rfl (hb hby d7_31) rfl rfl ?_
    exact retOut X37 hx hret rfl (Or.inr (Or.inr (Or.inr (Or.inr ⟨rfl, rfl, rfl⟩)))) (hb hby d7_33) hr
theorem pd_8 : parseMethodDescriptor "(Ljava/lang/String;)Lcom/example/chickadee/chickadee/server/SbiHttp;" = some ⟨[(.object "java/lang/String")], some (.object "com/example/chickadee/chickadee/server/SbiHttp")⟩ := by decide +kernel
theorem w_33 {a0 : Array Value} {Z : State} (hw : ∀ d ∈ tables_1, d.before a0 Z = true) : Jvm.Cond.before (Jvm.Cond.code ({ cls := "com/example/chickadee/chickadee/server/SbiHttp", name := "read", desc := "(Ljava/lang/String;)Lcom/example/chickadee/chickadee/server/SbiHttp;" } : Jvm.MethodName) prog_70_method_4_code (5 : Nat) (Option.some (Jvm.ClassFile.FieldType.object "com/example/chickadee/chickadee/server/SbiHttp"))) a0 Z = true := hw _ (List.mem_of_getElem? (i := 33) rfl)
theorem w_30 {a0 : Array Value} {Z : State} (hw : ∀ d ∈ tables_1, d.before a0 Z = true) : Jvm.Cond.before (Jvm.Cond.methodLink "com/example/chickadee/chickadee/server/SbiHttpReadPinLaw" (12 : Nat) ({ cls := "com/example/chickadee/chickadee/server/SbiHttp", name := "read", desc := "(Ljava/lang/String;)Lcom/example/chickadee/chickadee/server/SbiHttp;" } : Jvm.MethodName)) a0 Z = true := hw _ (List.mem_of_getElem? (i := 30) rfl)
theorem w_31 {a0 : Array Value} {Z : State} (hw : ∀ d ∈ tables_1, d.before a0 Z = true) : Jvm.Cond.before (Jvm.Cond.static ({ cls := "com/example/chickadee/chickadee/server/SbiHttp", name := "read", desc := "(Ljava/lang/String;)Lcom/example/chickadee/chickadee/server/SbiHttp;" } : Jvm.MethodName)) a0 Z = true := hw _ (List.mem_of_getElem? (i := 31) rfl)
theorem w_63 {a0 : Array Value} {Z : State} (hw : ∀ d ∈ tables_1, d.before a0 Z = true) : Jvm.Cond.before (Jvm.Cond.fieldLink "com/example/chickadee/chickadee/server/SbiHttpReadPinLaw" (22 : Nat) "com/example/chickadee/chickadee/server/SbiHttp" "HTTP1" "Lcom/example/chickadee/chickadee/server/SbiHttp;") a0 Z = true := hw _ (List.mem_of_getElem? (i := 63) rfl)
theorem ef0 (p1 : Int32) (m : MethodId) : entryFrame m #[(.int p1)] maxLocals = mkF m 0 #[.val (.int p1), .unset, .unset] [] := by first | (simp [entryFrame, mkF, argsToLocals, Value.category, maxLocals]; done) | rfl
theorem pn_4 : plainName "com/example/chickadee/chickadee/server/SbiHttpReadPinLaw" = true := by first | (simp [plainName, overriddenIn]; done) | decide +kernel
theorem rm0_0 (l : Launch) (Z : State) (a0 : Array Value) (hw : ∀ d ∈ tables_1, d.before a0 Z = true) (ws : List Jvm.Cond) (p1 : Int32) (sa1 : Addr) (sa2 : Addr) (sa3 : Addr) (sa4 : Addr) (sa5 : Addr) (sa6 : Addr) (sa7 : Addr) (sr8 : Value) (si9 : Int32) (sk14 : ClassId) (sk19 : ClassId) (sk22 : ClassId) (h0 : Heap) (n0 : Nat) (Z0 : n0 ≤ h0.size) (Od0 : Old Z n0 h0) (R_sr8 : sr8.isRef = true) (nc12 : ¬ (si9 = (0 : Int32))) (S13__VALUES : Sta Z Z.heap "com/example/chickadee/chickadee/server/SbiHttp" "$VALUES" "[Lcom/example/chickadee/chickadee/server/SbiHttp;" (.ref sa1)) (E_sa1 : Exa Z h0 sa1 "[Lcom/example/chickadee/chickadee/server/SbiHttp;") (V_sa1 : Arv Z h0 sa1 sk14 (.object "com/example/chickadee/chickadee/server/SbiHttp") (2 : Int32) [(.ref sa2), (.ref sa3)] .null) (S15_H2C : Sta Z Z.heap "com/example/chickadee/chickadee/server/SbiHttp" "H2C" "Lcom/example/chickadee/chickadee/server/SbiHttp;" (.ref sa2)) (E_sa2 : Exa Z h0 sa2 "com/example/chickadee/chickadee/server/SbiHttp") (S16_HTTP1 : Sta Z Z.heap "com/example/chickadee/chickadee/server/SbiHttp" "HTTP1" "Lcom/example/chickadee/chickadee/server/SbiHttp;" (.ref sa3)) (E_sa3 : Exa Z h0 sa3 "com/example/chickadee/chickadee/server/SbiHttp") (F17_option : Fld Z h0 sa2 "com/example/chickadee/chickadee/server/SbiHttp" "option" "Ljava/lang/String;" (.ref sa4)) (E_sa4 : Exa Z h0 sa4 "java/lang/String") (F18_value : Fld Z h0 sa4 "java/lang/String" "value" "[B" (.ref sa5)) (V_sa5 : Arv Z h0 sa5 sk19 .byte (3 : Int32) [(.int (104 : Int32)), (.int (50 : Int32)), (.int (99 : Int32))] (.int (0 : Int32))) (F20_option : Fld Z h0 sa3 "com/example/chickadee/chickadee/server/SbiHttp" "option" "Ljava/lang/String;" (.ref sa6)) (E_sa6 : Exa Z h0 sa6 "java/lang/String") (F21_value : Fld Z h0 sa6 "java/lang/String" "value" "[B" (.ref sa7)) (V_sa7 : Arv Z h0 sa7 sk22 .byte (5 : Int32) [(.int (104 : Int32)), (.int (116 : Int32)), (.int (116 : Int32)), (.int (112 : Int32)), (.int (49 : Int32))] (.int (0 : Int32))) (S23_SIOOBE_FORMATTER : Sta Z Z.heap "jdk/internal/util/Preconditions" "SIOOBE_FORMATTER" "Ljava/util/function/BiFunction;" sr8) (S24_COMPACT_STRINGS : Sta Z Z.heap "java/lang/String" "COMPACT_STRINGS" "Z" (.int si9)) (F25_coder : Fld Z h0 sa4 "java/lang/String" "coder" "B" (.int (0 : Int32))) (F26_coder : Fld Z h0 sa6 "java/lang/String" "coder" "B" (.int (0 : Int32))) (cc1 : (p1 &&& (1 : Int32)) = (0 : Int32)) :
    OwnMet l Z x code maxLocals ret ws room_1 #[(.int p1)] h0 (Q0 n0) := by
  refine own_body (plainFor_of_name pn_4) (ef0 p1) ?_
  intro p e s m below meth c s₁ hx hby hml hown hnm hret hZ X0 e0
  have N0 := Fr.nil n0
  obtain ⟨T1, h1, k1, X1, e1, E1, A1, B1, st1⟩ := newPE (aty := .char) X0 hx hZ (w_0 hw) e0 (g := (mkF m 59 #[.val (.int p1), .val (.int (0 : Int32)), .unset] [(.int (5 : Int32))])) rfl (hb hby at_59) rfl (by decide) (cap := 5) (by decide) (by decide) (by decide) (by decide) (ad := "[C") (by decide)
  obtain ⟨b1, g1⟩ : ∃ z, z = h0.size := ⟨_, rfl⟩
  rw [← g1] at A1 B1 st1
  have s0 := E1.1
  have Vn1 : Arv Z h1 b1 k1 .char (5 : Int32) [(.int (0 : Int32)), (.int (0 : Int32)), (.int (0 : Int32)), (.int (0 : Int32)), (.int (0 : Int32))] (.int (0 : Int32)) := (Arv.new A1 (by decide)).pad (pad_rep [] (.int (0 : Int32)) 5)
  obtain ⟨cl2, Ar2, q2, S2, M2, Hs2, G2⟩ := id Vn1
  have hin3 : ¬ ((0 : Int32) < 0 ∨ cl2.slots.size ≤ ((0 : Int32)).toNatClampNeg) := inb_of S2 ⟨(by decide : ¬ ((0 : Int32) < (0 : Int32))), (by decide : (0 : Int32) < (5 : Int32))⟩
  obtain ⟨T4, h4, X4, e4, W4, st4⟩ := stC X1 hx hZ e1 Ar2 (j := (0 : Int32)) hin3 (g := (mkF m 65 #[.val (.int p1), .val (.int (0 : Int32)), .unset] [(.int (104 : Int32)), (.int (0 : Int32)), (.ref b1), (.ref b1)])) rfl rfl (hb hby at_65)
  have s1 := (Keep.of_wr W4).1
  have g_b1 : n0 ≤ b1 := Nat.le_trans Z0 (Nat.le_of_eq g1.symm)
  have N4 := Fr.snoc X4 N0 g_b1
  have Vs4 : Arv Z h4 b1 k1 .char (5 : Int32) [(.int (104 : Int32)), (.int (0 : Int32)), (.int (0 : Int32)), (.int (0 : Int32)), (.int (0 : Int32))] (.int (0 : Int32)) := Arv.set Ar2 q2 S2 M2 Hs2 G2 (fits_nar_char _) W4 0 rfl (Nat.le_of_ble_eq_true rfl)
  obtain ⟨cl5, Ar5, q5, S5, M5, Hs5, G5⟩ := id Vs4
  have hin6 : ¬ ((1 : Int32) < 0 ∨ cl5.slots.size ≤ ((1 : Int32)).toNatClampNeg) := inb_of S5 ⟨(by decide : ¬ ((1 : Int32) < (0 : Int32))), (by decide : (1 : Int32) < (5 : Int32))⟩
  obtain ⟨T7, h7, X7, e7, W7, st7⟩ := stC X4 hx hZ e4 Ar5 (j := (1 : Int32)) hin6 (g := (mkF m 70 #[.val (.int p1), .val (.int (0 : Int32)), .unset] [(.int (116 : Int32)), (.int (1 : Int32)), (.ref b1), (.ref b1)])) rfl rfl (hb hby at_70)
  have s2 := (Keep.of_wr W7).1
  have N7 := Fr.snoc X7 N4 g_b1
  have Vs7 : Arv Z h7 b1 k1 .char (5 : Int32) [(.int (104 : Int32)), (.int (116 : Int32)), (.int (0 : Int32)), (.int (0 : Int32)), (.int (0 : Int32))] (.int (0 : Int32)) := Arv.set Ar5 q5 S5 M5 Hs5 G5 (fits_nar_char _) W7 1 rfl (Nat.le_of_ble_eq_true rfl)
  obtain ⟨cl8, Ar8, q8, S8, M8, Hs8, G8⟩ := id Vs7
  have hin9 : ¬ ((2 : Int32) < 0 ∨ cl8.slots.size ≤ ((2 : Int32)).toNatClampNeg) := inb_of S8 ⟨(by decide : ¬ ((2 : Int32) < (0 : Int32))), (by decide : (2 : Int32) < (5 : Int32))⟩
  obtain ⟨T10, h10, X10, e10, W10, st10⟩ := stC X7 hx hZ e7 Ar8 (j := (2 : Int32)) hin9 (g := (mkF m 75 #[.val (.int p1), .val (.int (0 : Int32)), .unset] [(.int (116 : Int32)), (.int (2 : Int32)), (.ref b1), (.ref b1)])) rfl rfl (hb hby at_75)
  have s3 := (Keep.of_wr W10).1
  have N10 := Fr.snoc X10 N7 g_b1
  have Vs10 : Arv Z h10 b1 k1 .char (5 : Int32) [(.int (104 : Int32)), (.int (116 : Int32)), (.int (116 : Int32)), (.int (0 : Int32)), (.int (0 : Int32))] (.int (0 : Int32)) := Arv.set Ar8 q8 S8 M8 Hs8 G8 (fits_nar_char _) W10 2 rfl (Nat.le_of_ble_eq_true rfl)
  obtain ⟨cl11, Ar11, q11, S11, M11, Hs11, G11⟩ := id Vs10
  have hin12 : ¬ ((3 : Int32) < 0 ∨ cl11.slots.size ≤ ((3 : Int32)).toNatClampNeg) := inb_of S11 ⟨(by decide : ¬ ((3 : Int32) < (0 : Int32))), (by decide : (3 : Int32) < (5 : Int32))⟩
  obtain ⟨T13, h13, X13, e13, W13, st13⟩ := stC X10 hx hZ e10 Ar11 (j := (3 : Int32)) hin12 (g := (mkF m 80 #[.val (.int p1), .val (.int (0 : Int32)), .unset] [(.int (112 : Int32)), (.int (3 : Int32)), (.ref b1), (.ref b1)])) rfl rfl (hb hby at_80)
  have s4 := (Keep.of_wr W13).1
  have N13 := Fr.snoc X13 N10 g_b1
  have Vs13 : Arv Z h13 b1 k1 .char (5 : Int32) [(.int (104 : Int32)), (.int (116 : Int32)), (.int (116 : Int32)), (.int (112 : Int32)), (.int (0 : Int32))] (.int (0 : Int32)) := Arv.set Ar11 q11 S11 M11 Hs11 G11 (fits_nar_char _) W13 3 rfl (Nat.le_of_ble_eq_true rfl)
  obtain ⟨cl14, Ar14, q14, S14, M14, Hs14, G14⟩ := id Vs13
  have hin15 : ¬ ((4 : Int32) < 0 ∨ cl14.slots.size ≤ ((4 : Int32)).toNatClampNeg) := inb_of S14 ⟨(by decide : ¬ ((4 : Int32) < (0 : Int32))), (by decide : (4 : Int32) < (5 : Int32))⟩
  obtain ⟨T16, h16, X16, e16, W16, st16⟩ := stC X13 hx hZ e13 Ar14 (j := (4 : Int32)) hin15 (g := (mkF m 85 #[.val (.int p1), .val (.int (0 : Int32)), .unset] [(.int (49 : Int32)), (.int (4 : Int32)), (.ref b1), (.ref b1)])) rfl rfl (hb hby at_85)
  have s5 := (Keep.of_wr W16).1
  have N16 := Fr.snoc X16 N13 g_b1
  have Vs16 : Arv Z h16 b1 k1 .char (5 : Int32) [(.int (104 : Int32)), (.int (116 : Int32)), (.int (116 : Int32)), (.int (112 : Int32)), (.int (49 : Int32))] (.int (0 : Int32)) := Arv.set Ar14 q14 S14 M14 Hs14 G14 (fits_nar_char _) W16 4 rfl (Nat.le_of_ble_eq_true rfl)
  obtain ⟨T17, h17, X17, e17, E17, A17, D17, -, st17⟩ := newO X16 hx hZ hown (w_1 hw) (w_2 hw) (w_3 hw) e16 (g := (mkF m 87 #[.val (.int p1), .val (.int (0 : Int32)), .val (.ref b1)] [])) rfl (hb hby at_87) (by decide) (by decide)
  obtain ⟨b17, g17⟩ : ∃ z, z = h16.size := ⟨_, rfl⟩
  rw [← g17] at A17 D17 st17
  have s6 := E17.1
  have Fn17_coder : Fld Z h17 b17 "java/lang/String" "coder" "B" (.int (0 : Int32)) := D17 (Or.inr (w_27 hw)) (ty := .byte) (by decide)
  have Fn17_value : Fld Z h17 b17 "java/lang/String" "value" "[B" .null := D17 (Or.inr (w_29 hw)) (ty := (.array .byte)) (by decide)
  have Va18 := (Vs16.ext E17)
  have Od1 : Old Z n0 h1 := Od0.ext E1
  have Od2 : Old Z n0 h4 := Od1.wr W4 g_b1
  have Od3 : Old Z n0 h7 := Od2.wr W7 g_b1
  have Od4 : Old Z n0 h10 := Od3.wr W10 g_b1
  have Od5 : Old Z n0 h13 := Od4.wr W13 g_b1
  have Od6 : Old Z n0 h16 := Od5.wr W16 g_b1
  have Od7 : Old Z n0 h17 := Od6.ext E17
  have z6 := Nat.le_trans Z0 (Nat.le_trans (Nat.le_trans (Nat.le_trans (Nat.le_trans (Nat.le_trans s0 s1) s2) s3) s4) s5)
  have g_b17 : n0 ≤ b17 := Nat.le_trans z6 (Nat.le_of_eq g17.symm)
  have z7 := Nat.le_trans Z0 (Nat.le_trans (Nat.le_trans (Nat.le_trans (Nat.le_trans (Nat.le_trans (Nat.le_trans s0 s1) s2) s3) s4) s5) s6)
  obtain ⟨_, T19, L19, X19, hQ19, st19⟩ := own_special X17 hx hZ hown (y := y_4) (a := b17) (w_4 hw) (w_5 hw) (w_3 hw) (w_6 hw) (rm5 l Z a0 hw [] b17 b1 k1 si9 h17 n0 z7 Va18 S24_COMPACT_STRINGS Od7 nc12 Fn17_coder A17 g_b17 Fn17_value) e17 (Ls := #[.val (.int p1), .val (.int (0 : Int32)), .val (.ref b1)]) (by rw [hml]; rfl) (argsL := [(.ref b1)]) (rest := [(.ref b17)]) (lenOf pd_4 rfl) (hb hby at_92) (W := 1)
  obtain ⟨b19_b7_b8_b2, k19_k7_k8_k2, rfl, Nq19, K19, o19_0, o19_1, o19_2, o19_3, o19_4, o19_5⟩ := hQ19
  have N19 := Fr.app N16 Nq19
  have s7 := K19.1
  have Od8 : Old Z n0 T19.heap := Od7.keep K19 (allS g_b17 all0)
  have ne_sa1_b1 := Nat.ne_of_lt (Nat.lt_of_lt_of_le V_sa1.lt (Nat.le_of_eq g1.symm))
  have ne_sa1_b17 := Nat.ne_of_lt (Nat.lt_of_lt_of_le (Nat.lt_of_lt_of_le V_sa1.lt (Nat.le_trans (Nat.le_trans (Nat.le_trans (Nat.le_trans (Nat.le_trans s0 s1) s2) s3) s4) s5)) (Nat.le_of_eq g17.symm))
  have Va20 := ((((((((V_sa1.ext E1).other W4 ne_sa1_b1).other W7 ne_sa1_b1).other W10 ne_sa1_b1).other W13 ne_sa1_b1).other W16 ne_sa1_b1).ext E17).keep K19 (ninS ne_sa1_b17 nin0))
  have Ex21 := ((((((((E_sa1.ext E1).wr W4).wr W7).wr W10).wr W13).wr W16).ext E17).keep K19)
  have ne_sa2_b1 := Nat.ne_of_lt (Nat.lt_of_lt_of_le F17_option.lt (Nat.le_of_eq g1.symm))
  have ne_sa2_b17 := Nat.ne_of_lt (Nat.lt_of_lt_of_le (Nat.lt_of_lt_of_le F17_option.lt (Nat.le_trans (Nat.le_trans (Nat.le_trans (Nat.le_trans (Nat.le_trans s0 s1) s2) s3) s4) s5)) (Nat.le_of_eq g17.symm))
  have Fl22 := ((((((((F17_option.ext E1).other W4 (Or.inl ne_sa2_b1)).other W7 (Or.inl ne_sa2_b1)).other W10 (Or.inl ne_sa2_b1)).other W13 (Or.inl ne_sa2_b1)).other W16 (Or.inl ne_sa2_b1)).ext E17).keep K19 (ninS ne_sa2_b17 nin0))
  have Ex23 := ((((((((E_sa4.ext E1).wr W4).wr W7).wr W10).wr W13).wr W16).ext E17).keep K19)
  have ne_sa4_b17 := Nat.ne_of_lt (Nat.lt_of_lt_of_le (Nat.lt_of_lt_of_le F25_coder.lt (Nat.le_trans (Nat.le_trans (Nat.le_trans (Nat.le_trans (Nat.le_trans s0 s1) s2) s3) s4) s5)) (Nat.le_of_eq g17.symm))
  have ne_sa4_b1 := Nat.ne_of_lt (Nat.lt_of_lt_of_le F25_coder.lt (Nat.le_of_eq g1.symm))
  have Fl24 := ((((((((F25_coder.ext E1).other W4 (Or.inl ne_sa4_b1)).other W7 (Or.inl ne_sa4_b1)).other W10 (Or.inl ne_sa4_b1)).other W13 (Or.inl ne_sa4_b1)).other W16 (Or.inl ne_sa4_b1)).ext E17).keep K19 (ninS ne_sa4_b17 nin0))
  have Fl25 := ((((((((F18_value.ext E1).other W4 (Or.inl ne_sa4_b1)).other W7 (Or.inl ne_sa4_b1)).other W10 (Or.inl ne_sa4_b1)).other W13 (Or.inl ne_sa4_b1)).other W16 (Or.inl ne_sa4_b1)).ext E17).keep K19 (ninS ne_sa4_b17 nin0))
  have ne_sa5_b1 := Nat.ne_of_lt (Nat.lt_of_lt_of_le V_sa5.lt (Nat.le_of_eq g1.symm))
  have ne_sa5_b17 := Nat.ne_of_lt (Nat.lt_of_lt_of_le (Nat.lt_of_lt_of_le V_sa5.lt (Nat.le_trans (Nat.le_trans (Nat.le_trans (Nat.le_trans (Nat.le_trans s0 s1) s2) s3) s4) s5)) (Nat.le_of_eq g17.symm))
  have Va26 := ((((((((V_sa5.ext E1).other W4 ne_sa5_b1).other W7 ne_sa5_b1).other W10 ne_sa5_b1).other W13 ne_sa5_b1).other W16 ne_sa5_b1).ext E17).keep K19 (ninS ne_sa5_b17 nin0))
  have ne_sa3_b1 := Nat.ne_of_lt (Nat.lt_of_lt_of_le F20_option.lt (Nat.le_of_eq g1.symm))
  have ne_sa3_b17 := Nat.ne_of_lt (Nat.lt_of_lt_of_le (Nat.lt_of_lt_of_le F20_option.lt (Nat.le_trans (Nat.le_trans (Nat.le_trans (Nat.le_trans (Nat.le_trans s0 s1) s2) s3) s4) s5)) (Nat.le_of_eq g17.symm))
  have Fl27 := ((((((((F20_option.ext E1).other W4 (Or.inl ne_sa3_b1)).other W7 (Or.inl ne_sa3_b1)).other W10 (Or.inl ne_sa3_b1)).other W13 (Or.inl ne_sa3_b1)).other W16 (Or.inl ne_sa3_b1)).ext E17).keep K19 (ninS ne_sa3_b17 nin0))
  have Ex28 := ((((((((E_sa6.ext E1).wr W4).wr W7).wr W10).wr W13).wr W16).ext E17).keep K19)
  have ne_sa6_b17 := Nat.ne_of_lt (Nat.lt_of_lt_of_le (Nat.lt_of_lt_of_le F26_coder.lt (Nat.le_trans (Nat.le_trans (Nat.le_trans (Nat.le_trans (Nat.le_trans s0 s1) s2) s3) s4) s5)) (Nat.le_of_eq g17.symm))
  have ne_sa6_b1 := Nat.ne_of_lt (Nat.lt_of_lt_of_le F26_coder.lt (Nat.le_of_eq g1.symm))
  have Fl29 := ((((((((F26_coder.ext E1).other W4 (Or.inl ne_sa6_b1)).other W7 (Or.inl ne_sa6_b1)).other W10 (Or.inl ne_sa6_b1)).other W13 (Or.inl ne_sa6_b1)).other W16 (Or.inl ne_sa6_b1)).ext E17).keep K19 (ninS ne_sa6_b17 nin0))
  have Fl30 := ((((((((F21_value.ext E1).other W4 (Or.inl ne_sa6_b1)).other W7 (Or.inl ne_sa6_b1)).other W10 (Or.inl ne_sa6_b1)).other W13 (Or.inl ne_sa6_b1)).other W16 (Or.inl ne_sa6_b1)).ext E17).keep K19 (ninS ne_sa6_b17 nin0))
  have ne_sa7_b1 := Nat.ne_of_lt (Nat.lt_of_lt_of_le V_sa7.lt (Nat.le_of_eq g1.symm))
  have ne_sa7_b17 := Nat.ne_of_lt (Nat.lt_of_lt_of_le (Nat.lt_of_lt_of_le V_sa7.lt (Nat.le_trans (Nat.le_trans (Nat.le_trans (Nat.le_trans (Nat.le_trans s0 s1) s2) s3) s4) s5)) (Nat.le_of_eq g17.symm))
  have Va31 := ((((((((V_sa7.ext E1).other W4 ne_sa7_b1).other W7 ne_sa7_b1).other W10 ne_sa7_b1).other W13 ne_sa7_b1).other W16 ne_sa7_b1).ext E17).keep K19 (ninS ne_sa7_b17 nin0))
  have z8 := Nat.le_trans Z0 (Nat.le_trans (Nat.le_trans (Nat.le_trans (Nat.le_trans (Nat.le_trans (Nat.le_trans (Nat.le_trans s0 s1) s2) s3) s4) s5) s6) s7)
  obtain ⟨_, T32, L32, X32, hQ32, st32⟩ := own_callS X19 hx hZ hown (y := y_8) (w_30 hw) (w_31 hw) (w_32 hw) (w_33 hw) (rm11 l Z a0 hw [] b17 sa1 sa2 sa3 sk14 sa4 si9 sa5 b19_b7_b8_b2 sk19 k19_k7_k8_k2 sa6 sa7 sk22 T19.heap n0 z8 S13__VALUES Od8 Va20 Ex21 Fl22 Ex23 ne_sa4_b17 o19_0 S24_COMPACT_STRINGS nc12 Fl24 o19_1 Fl25 o19_2 Va26 o19_5 Fl27 Ex28 ne_sa6_b17 Fl29 Fl30 Va31) rfl (Ls := #[.val (.int p1), .val (.int (0 : Int32)), .val (.ref b1)]) (by rw [hml]; rfl) (argsL := [(.ref b17)]) (rest := []) (lenOf pd_8 rfl) (hb hby at_95) (W := 0)
  obtain ⟨rfl, Nq32, K32⟩ := hQ32
  have N32 := Fr.app N19 Nq32
  have s8 := K32.1
  have Od9 : Old Z n0 T32.heap := Od8.keep K32 all0
  obtain ⟨T33, X33, e33, st33⟩ := getS2 X32 hx hZ hown (host := "") (Or.inl (w_63 hw)) Via.refl rfl (S16_HTTP1.ext Od9.2) (g := (mkF m 98 #[.val (.int p1), .val (.int (0 : Int32)), .val (.ref b1)] [(.ref sa3)])) rfl (hb hby at_98)
  refine ⟨T33, _, _, _, (some (.int (1 : Int32))), X33, nofun, by decide, by decide, ?_, fun fs hr => ?_⟩
  · show Q0 n0 _ T33.heap _
    rw [e33]
    exact ⟨rfl, N32⟩
  · show Steps p.tables e below (s₁.setTop (mkF m 0 #[.val (.int p1), .unset, .unset] [])) _
    refine XS.iloadN X0.here hx rfl (hb hby at_0) rfl ?_
    refine XS.iconst X0.here hx rfl (hb hby at_1) ?_
    refine XS.iand X0.here hx rfl (hb hby at_2) rfl ?_
    refine XS.ifYes X0.here hx rfl (pc0 := 3) (pc' := 10) rfl (hb hby at_3) rfl ((if0 _ _).trans (teq (cc1 : (p1 &&& (1 : Int32)) = (0 : Int32))).1) (by decide) (by decide) ?_
    refine XS.iconst X0.here hx rfl (hb hby at_10) ?_
    refine XS.istoreN X0.here hx rfl (hb hby at_11) rfl (l' := #[.val (.int p1), .val (.int (0 : Int32)), .unset]) rfl ?_
    refine XS.iloadN X0.here hx rfl (hb hby at_12) rfl ?_
    refine XS.ifYes X0.here hx rfl (pc0 := 13) (pc' := 58) rfl (hb hby at_13) rfl ((if0 _ _).trans (teq ((by decide : (0 : Int32) = (0 : Int32)) : (0 : Int32) = (0 : Int32))).1) (by decide) (by decide) ?_
    refine XS.iconst X0.here hx rfl (hb hby at_58) ?_
    refine st1 _ ?_
    refine XS.dup X1.here hx rfl (hb hby at_61) rfl rfl ?_
    refine XS.iconst X1.here hx rfl (hb hby at_62) ?_
    show Steps p.tables e below (T1.setTop (mkF m 63 #[.val (.int p1), .val (.int (0 : Int32)), .unset] [(.int (0 : Int32)), (.ref b1), (.ref b1)])) _
    refine XS.bipush X1.here hx rfl (hb hby at_63) ?_
    refine st4 _ ?_
    refine XS.dup X4.here hx rfl (hb hby at_66) rfl rfl ?_
    refine XS.iconst X4.here hx rfl (hb hby at_67) ?_
    refine XS.bipush X4.here hx rfl (hb hby at_68) ?_
    refine st7 _ ?_
    refine XS.dup X7.here hx rfl (hb hby at_71) rfl rfl ?_
    refine XS.iconst X7.here hx rfl (hb hby at_72) ?_
    refine XS.bipush X7.here hx rfl (hb hby at_73) ?_
    refine st10 _ ?_
    refine XS.dup X10.here hx rfl (hb hby at_76) rfl rfl ?_
    refine XS.iconst X10.here hx rfl (hb hby at_77) ?_
    show Steps p.tables e below (T10.setTop (mkF m 78 #[.val (.int p1), .val (.int (0 : Int32)), .unset] [(.int (3 : Int32)), (.ref b1), (.ref b1)])) _
    refine XS.bipush X10.here hx rfl (hb hby at_78) ?_
    refine st13 _ ?_
    refine XS.dup X13.here hx rfl (hb hby at_81) rfl rfl ?_
    refine XS.iconst X13.here hx rfl (hb hby at_82) ?_
    refine XS.bipush X13.here hx rfl (hb hby at_83) ?_
    refine st16 _ ?_
    refine XS.astoreN X16.here hx rfl (hb hby at_86) rfl rfl (l' := #[.val (.int p1), .val (.int (0 : Int32)), .val (.ref b1)]) rfl ?_
    refine st17 _ ?_
    refine XS.dup X17.here hx rfl (hb hby at_90) rfl rfl ?_
    refine XS.aloadN X17.here hx rfl (hb hby at_91) rfl rfl ?_
    refine st19 _ ?_
    refine st32 _ ?_
    show Steps p.tables e below (T32.setTop (mkF m 98 #[.val (.int p1), .val (.int (0 : Int32)), .val (.ref b1)] [(.ref sa3)])) _
    refine st33 _ ?_
    refine Jvm.RoadKit.acmp (g := (mkF m 101 #[.val (.int p1), .val (.int (0 : Int32)), .val (.ref b1)] [(.ref sa3), (.ref sa3)])) X33 hx rfl rfl rfl (pc0 := 101) (pc' := 104) (same := true) rfl (hb hby at_101) rfl (decide_eq_true rfl) (by decide) (by decide) ?_
    refine XS.iconst X33.here hx rfl (hb hby at_104) ?_
    refine XS.goto X33.here hx rfl (pc0 := 105) (pc' := 109) rfl (hb hby at_105) (by decide) (by decide) ?_
    exact retN X33 hx (t := .boolean) hret (by simp) (hb hby at_109) hr
-- java/lang/StringUTF16.compress([CI[BII)I
abbrev Rm12 : Room := { frames := 0, cells := 0, slots := 0, locals := 0 }
def Q12 (Z : State) (a1 : Addr) (a2 : Addr) (k3 : ClassId) (k6 : ClassId) (h0 : Heap) (n0 : Nat) (v : Option Value) (h : Heap) (L : List Loc) : Prop := v = some (.int (3 : Int32)) ∧ Fr n0 L ∧ Keep h0 h [a2] ∧ Exa Z h a2 "[B" ∧ Arv Z h a2 k6 .byte (3 : Int32) [(.int (104 : Int32)), (.int (50 : Int32)), (.int (99 : Int32))] (.int (0 : Int32))
theorem ef12 (a1 : Addr) (a2 : Addr) (m : MethodId) : entryFrame m #[(.ref a1), (.int (0 : Int32)), (.ref a2), (.int (0 : Int32)), (.int (3 : Int32))] 7 = mkF m 0 #[.val (.ref a1), .val (.int (0 : Int32)), .val (.ref a2), .val (.int (0 : Int32)), .val (.int (3 : Int32)), .unset, .unset] [] := by first | (simp [entryFrame, mkF, argsToLocals, Value.category]; done) | rfl
theorem rm12 (l : Launch) (Z : State) (a0 : Array Value) (hw : ∀ d ∈ tables_1, d.before a0 Z = true) (ws : List Jvm.Cond) (a1 : Addr) (a2 : Addr) (k3 : ClassId) (k6 : ClassId) (h0 : Heap) (n0 : Nat) (Z0 : n0 ≤ h0.size) (V_a1 : Arv Z h0 a1 k3 .char (3 : Int32) [(.int (104 : Int32)), (.int (50 : Int32)), (.int (99 : Int32))] (.int (0 : Int32))) (V_a2 : Arv Z h0 a2 k6 .byte (3 : Int32) [(.int (0 : Int32)), (.int (0 : Int32)), (.int (0 : Int32))] (.int (0 : Int32))) (g_a2 : n0 ≤ a2) (ne_a1_a2 : a1 ≠ a2) (E_a2 : Exa Z h0 a2 "[B") :
    OwnMet l Z y_0 jdk_52_method_21_code 7 (some .int) ws Rm12 #[(.ref a1), (.int (0 : Int32)), (.ref a2), (.int (0 : Int32)), (.int (3 : Int32))] h0 (Q12 Z a1 a2 k3 k6 h0 n0) := by
  refine own_body (plainFor_of_name pn_0) (ef12 a1 a2) ?_
  intro p e s m below meth c s₁ hx hby hml hown hnm hret hZ X0 e0
  have N0 := Fr.nil n0
  obtain ⟨cl4, Ar4, q4, S4, M4, Hs4, G4⟩ := id V_a1
  have hin5 : ¬ ((0 : Int32) < 0 ∨ cl4.slots.size ≤ ((0 : Int32)).toNatClampNeg) := inb_of S4 ⟨(by decide : ¬ ((0 : Int32) < (0 : Int32))), (by decide : (0 : Int32) < (3 : Int32))⟩
  obtain ⟨cl7, Ar7, q7, S7, M7, Hs7, G7⟩ := id V_a2
  have hin8 : ¬ ((0 : Int32) < 0 ∨ cl7.slots.size ≤ ((0 : Int32)).toNatClampNeg) := inb_of S7 ⟨(by decide : ¬ ((0 : Int32) < (0 : Int32))), (by decide : (0 : Int32) < (3 : Int32))⟩
  obtain ⟨T9, h9, X9, e9, W9, st9⟩ := stB X0 hx hZ e0 Ar7 (j := (0 : Int32)) hin8 (g := (mkF m 31 #[.val (.ref a1), .val (.int (0 : Int32)), .val (.ref a2), .val (.int (0 : Int32)), .val (.int (3 : Int32)), .val (.int (0 : Int32)), .val (.int (104 : Int32))] [(.int (104 : Int32)), (.int (0 : Int32)), (.ref a2)])) rfl rfl (hb hby d5_31)
  have s0 := (Keep.of_wr W9).1
  have N9 := Fr.snoc X9 N0 g_a2
  have Vs9 : Arv Z h9 a2 k6 .byte (3 : Int32) [(.int (104 : Int32)), (.int (0 : Int32)), (.int (0 : Int32))] (.int (0 : Int32)) := Arv.set Ar7 q7 S7 M7 Hs7 G7 (fits_nar_byte _) W9 0 rfl (Nat.le_of_ble_eq_true rfl)
  have Va10 := (V_a1.other W9 ne_a1_a2)
  obtain ⟨cl11, Ar11, q11, S11, M11, Hs11, G11⟩ := id Va10
  have hin12 : ¬ ((1 : Int32) < 0 ∨ cl11.slots.size ≤ ((1 : Int32)).toNatClampNeg) := inb_of S11 ⟨(by decide : ¬ ((1 : Int32) < (0 : Int32))), (by decide : (1 : Int32) < (3 : Int32))⟩
  obtain ⟨cl13, Ar13, q13, S13, M13, Hs13, G13⟩ := id Vs9
  have hin14 : ¬ ((1 : Int32) < 0 ∨ cl13.slots.size ≤ ((1 : Int32)).toNatClampNeg) := inb_of S13 ⟨(by decide : ¬ ((1 : Int32) < (0 : Int32))), (by decide : (1 : Int32) < (3 : Int32))⟩
  obtain ⟨T15, h15, X15, e15, W15, st15⟩ := stB X9 hx hZ e9 Ar13 (j := (1 : Int32)) hin14 (g := (mkF m 31 #[.val (.ref a1), .val (.int (1 : Int32)), .val (.ref a2), .val (.int (1 : Int32)), .val (.int (3 : Int32)), .val (.int (1 : Int32)), .val (.int (50 : Int32))] [(.int (50 : Int32)), (.int (1 : Int32)), (.ref a2)])) rfl rfl (hb hby d5_31)
  have s1 := (Keep.of_wr W15).1
  have N15 := Fr.snoc X15 N9 g_a2
  have Vs15 : Arv Z h15 a2 k6 .byte (3 : Int32) [(.int (104 : Int32)), (.int (50 : Int32)), (.int (0 : Int32))] (.int (0 : Int32)) := Arv.set Ar13 q13 S13 M13 Hs13 G13 (fits_nar_byte _) W15 1 rfl (Nat.le_of_ble_eq_true rfl)
  have Va16 := (Va10.other W15 ne_a1_a2)
  obtain ⟨cl17, Ar17, q17, S17, M17, Hs17, G17⟩ := id Va16
  have hin18 : ¬ ((2 : Int32) < 0 ∨ cl17.slots.size ≤ ((2 : Int32)).toNatClampNeg) := inb_of S17 ⟨(by decide : ¬ ((2 : Int32) < (0 : Int32))), (by decide : (2 : Int32) < (3 : Int32))⟩
  obtain ⟨cl19, Ar19, q19, S19, M19, Hs19, G19⟩ := id Vs15
  have hin20 : ¬ ((2 : Int32) < 0 ∨ cl19.slots.size ≤ ((2 : Int32)).toNatClampNeg) := inb_of S19 ⟨(by decide : ¬ ((2 : Int32) < (0 : Int32))), (by decide : (2 : Int32) < (3 : Int32))⟩
  obtain ⟨T21, h21, X21, e21, W21, st21⟩ := stB X15 hx hZ e15 Ar19 (j := (2 : Int32)) hin20 (g := (mkF m 31 #[.val (.ref a1), .val (.int (2 : Int32)), .val (.ref a2), .val (.int (2 : Int32)), .val (.int (3 : Int32)), .val (.int (2 : Int32)), .val (.int (99 : Int32))] [(.int (99 : Int32)), (.int (2 : Int32)), (.ref a2)])) rfl rfl (hb hby d5_31)
  have s2 := (Keep.of_wr W21).1
  have N21 := Fr.snoc X21 N15 g_a2
  have Vs21 : Arv Z h21 a2 k6 .byte (3 : Int32) [(.int (104 : Int32)), (.int (50 : Int32)), (.int (99 : Int32))] (.int (0 : Int32)) := Arv.set Ar19 q19 S19 M19 Hs19 G19 (fits_nar_byte _) W21 2 rfl (Nat.le_of_ble_eq_true rfl)
  have Ex22 := (((E_a2.wr W9).wr W15).wr W21)
  have Kp0 : Keep h0 h9 [a2] := (Keep.refl h0 [a2]).wr W9 (Or.inl (List.mem_of_getElem? (i := 0) rfl))
  have Kp1 : Keep h0 h15 [a2] := Kp0.wr W15 (Or.inl (List.mem_of_getElem? (i := 0) rfl))
  have Kp2 : Keep h0 h21 [a2] := Kp1.wr W21 (Or.inl (List.mem_of_getElem? (i := 0) rfl))
  refine ⟨T21, _, _, _, (some (.int (3 : Int32))), X21, nofun, by decide, by decide, ?_, fun fs hr => ?_⟩
  · show Q12 Z a1 a2 k3 k6 h0 n0 _ T21.heap _
    rw [e21]
    exact ⟨rfl, N21, Kp2, Ex22, Vs21⟩
  · show Steps p.tables e below (s₁.setTop (mkF m 0 #[.val (.ref a1), .val (.int (0 : Int32)), .val (.ref a2), .val (.int (0 : Int32)), .val (.int (3 : Int32)), .unset, .unset] [])) _
    refine XS.iconst X0.here hx rfl (hb hby d5_0) ?_
    refine XS.istore X0.here hx rfl (hb hby d5_1) rfl (l' := #[.val (.ref a1), .val (.int (0 : Int32)), .val (.ref a2), .val (.int (0 : Int32)), .val (.int (3 : Int32)), .val (.int (0 : Int32)), .unset]) rfl ?_
    refine XS.iload X0.here hx rfl (hb hby d5_3) rfl ?_
    refine XS.iload X0.here hx rfl (hb hby d5_5) rfl ?_
    refine XS.icmpNo X0.here hx rfl (hb hby d5_7) rfl (tlt ((by decide : (0 : Int32) < (3 : Int32)) : (0 : Int32) < (3 : Int32))).2.1 ?_
    refine XS.aloadN X0.here hx rfl (hb hby d5_10) rfl rfl ?_
    refine XS.iloadN X0.here hx rfl (hb hby d5_11) rfl ?_
    refine X0.caload hx (j := (0 : Int32)) (v := (.int (104 : Int32))) (by rw [e0]; exact Ar4.1) (State.isArrayOf_alike hZ.alike Ar4.2.1) Ar4.2.2 hin5 (Has.at Hs4 hin5 rfl) (g := (mkF m 12 #[.val (.ref a1), .val (.int (0 : Int32)), .val (.ref a2), .val (.int (0 : Int32)), .val (.int (3 : Int32)), .val (.int (0 : Int32)), .unset] [(.int (0 : Int32)), (.ref a1)])) rfl rfl (hb hby d5_12) _ ?_
    refine XS.istore X0.here hx rfl (hb hby d5_13) rfl (l' := #[.val (.ref a1), .val (.int (0 : Int32)), .val (.ref a2), .val (.int (0 : Int32)), .val (.int (3 : Int32)), .val (.int (0 : Int32)), .val (.int (104 : Int32))]) rfl ?_
    refine XS.iload X0.here hx rfl (hb hby d5_15) rfl ?_
    refine XS.sipush X0.here hx rfl (hb hby d5_17) ?_
    refine XS.icmpYes X0.here hx rfl (pc0 := 20) (pc' := 26) rfl (hb hby d5_20) rfl (flt ((by decide : ¬ ((255 : Int32) < (104 : Int32))) : ¬ ((255 : Int32) < (104 : Int32)))).2.2.2 (by decide) (by decide) ?_
    show Steps p.tables e below (s₁.setTop (mkF m 26 #[.val (.ref a1), .val (.int (0 : Int32)), .val (.ref a2), .val (.int (0 : Int32)), .val (.int (3 : Int32)), .val (.int (0 : Int32)), .val (.int (104 : Int32))] [])) _
    refine XS.aloadN X0.here hx rfl (hb hby d5_26) rfl rfl ?_
    refine XS.iloadN X0.here hx rfl (hb hby d5_27) rfl ?_
    refine XS.iload X0.here hx rfl (hb hby d5_28) rfl ?_
    refine XS.i2b X0.here hx rfl (hb hby d5_30) rfl ?_
    refine st9 _ ?_
    refine XS.iinc X9.here hx rfl (hb hby d5_32) rfl (l' := #[.val (.ref a1), .val (.int (1 : Int32)), .val (.ref a2), .val (.int (0 : Int32)), .val (.int (3 : Int32)), .val (.int (0 : Int32)), .val (.int (104 : Int32))]) rfl ?_
    refine XS.iinc X9.here hx rfl (hb hby d5_35) rfl (l' := #[.val (.ref a1), .val (.int (1 : Int32)), .val (.ref a2), .val (.int (1 : Int32)), .val (.int (3 : Int32)), .val (.int (0 : Int32)), .val (.int (104 : Int32))]) rfl ?_
    refine XS.iinc X9.here hx rfl (hb hby d5_38) rfl (l' := #[.val (.ref a1), .val (.int (1 : Int32)), .val (.ref a2), .val (.int (1 : Int32)), .val (.int (3 : Int32)), .val (.int (1 : Int32)), .val (.int (104 : Int32))]) rfl ?_
    refine XS.goto X9.here hx rfl (pc0 := 41) (pc' := 3) rfl (hb hby d5_41) (by decide) (by decide) ?_
    refine XS.iload X9.here hx rfl (hb hby d5_3) rfl ?_
    refine XS.iload X9.here hx rfl (hb hby d5_5) rfl ?_
    refine XS.icmpNo X9.here hx rfl (hb hby d5_7) rfl (tlt ((by decide : (1 : Int32) < (3 : Int32)) : (1 : Int32) < (3 : Int32))).2.1 ?_
    show Steps p.tables e below (T9.setTop (mkF m 10 #[.val (.ref a1), .val (.int (1 : Int32)), .val (.ref a2), .val (.int (1 : Int32)), .val (.int (3 : Int32)), .val (.int (1 : Int32)), .val (.int (104 : Int32))] [])) _
    refine XS.aloadN X9.here hx rfl (hb hby d5_10) rfl rfl ?_
    refine XS.iloadN X9.here hx rfl (hb hby d5_11) rfl ?_
    refine X9.caload hx (j := (1 : Int32)) (v := (.int (50 : Int32))) (by rw [e9]; exact Ar11.1) (State.isArrayOf_alike hZ.alike Ar11.2.1) Ar11.2.2 hin12 (Has.at Hs11 hin12 rfl) (g := (mkF m 12 #[.val (.ref a1), .val (.int (1 : Int32)), .val (.ref a2), .val (.int (1 : Int32)), .val (.int (3 : Int32)), .val (.int (1 : Int32)), .val (.int (104 : Int32))] [(.int (1 : Int32)), (.ref a1)])) rfl rfl (hb hby d5_12) _ ?_
    refine XS.istore X9.here hx rfl (hb hby d5_13) rfl (l' := #[.val (.ref a1), .val (.int (1 : Int32)), .val (.ref a2), .val (.int (1 : Int32)), .val (.int (3 : Int32)), .val (.int (1 : Int32)), .val (.int (50 : Int32))]) rfl ?_
    refine XS.iload X9.here hx rfl (hb hby d5_15) rfl ?_
    refine XS.sipush X9.here hx rfl (hb hby d5_17) ?_
    refine XS.icmpYes X9.here hx rfl (pc0 := 20) (pc' := 26) rfl (hb hby d5_20) rfl (flt ((by decide : ¬ ((255 : Int32) < (50 : Int32))) : ¬ ((255 : Int32) < (50 : Int32)))).2.2.2 (by decide) (by decide) ?_
    refine XS.aloadN X9.here hx rfl (hb hby d5_26) rfl rfl ?_
    refine XS.iloadN X9.here hx rfl (hb hby d5_27) rfl ?_
    refine XS.iload X9.here hx rfl (hb hby d5_28) rfl ?_
    refine XS.i2b X9.here hx rfl (hb hby d5_30) rfl ?_
    refine st15 _ ?_
    show Steps p.tables e below (T15.setTop (mkF m 32 #[.val (.ref a1), .val (.int (1 : Int32)), .val (.ref a2), .val (.int (1 : Int32)), .val (.int (3 : Int32)), .val (.int (1 : Int32)), .val (.int (50 : Int32))] [])) _
    refine XS.iinc X15.here hx rfl (hb hby d5_32) rfl (l' := #[.val (.ref a1), .val (.int (2 : Int32)), .val (.ref a2), .val (.int (1 : Int32)), .val (.int (3 : Int32)), .val (.int (1 : Int32)), .val (.int (50 : Int32))]) rfl ?_
    refine XS.iinc X15.here hx rfl (hb hby d5_35) rfl (l' := #[.val (.ref a1), .val (.int (2 : Int32)), .val (.ref a2), .val (.int (2 : Int32)), .val (.int (3 : Int32)), .val (.int (1 : Int32)), .val (.int (50 : Int32))]) rfl ?_
    refine XS.iinc X15.here hx rfl (hb hby d5_38) rfl (l' := #[.val (.ref a1), .val (.int (2 : Int32)), .val (.ref a2), .val (.int (2 : Int32)), .val (.int (3 : Int32)), .val (.int (2 : Int32)), .val (.int (50 : Int32))]) rfl ?_
    refine XS.goto X15.here hx rfl (pc0 := 41) (pc' := 3) rfl (hb hby d5_41) (by decide) (by decide) ?_
    refine XS.iload X15.here hx rfl (hb hby d5_3) rfl ?_
    refine XS.iload X15.here hx rfl (hb hby d5_5) rfl ?_
    refine XS.icmpNo X15.here hx rfl (hb hby d5_7) rfl (tlt ((by decide : (2 : Int32) < (3 : Int32)) : (2 : Int32) < (3 : Int32))).2.1 ?_
    refine XS.aloadN X15.here hx rfl (hb hby d5_10) rfl rfl ?_
    refine XS.iloadN X15.here hx rfl (hb hby d5_11) rfl ?_
    refine X15.caload hx (j := (2 : Int32)) (v := (.int (99 : Int32))) (by rw [e15]; exact Ar17.1) (State.isArrayOf_alike hZ.alike Ar17.2.1) Ar17.2.2 hin18 (Has.at Hs17 hin18 rfl) (g := (mkF m 12 #[.val (.ref a1), .val (.int (2 : Int32)), .val (.ref a2), .val (.int (2 : Int32)), .val (.int (3 : Int32)), .val (.int (2 : Int32)), .val (.int (50 : Int32))] [(.int (2 : Int32)), (.ref a1)])) rfl rfl (hb hby d5_12) _ ?_
    refine XS.istore X15.here hx rfl (hb hby d5_13) rfl (l' := #[.val (.ref a1), .val (.int (2 : Int32)), .val (.ref a2), .val (.int (2 : Int32)), .val (.int (3 : Int32)), .val (.int (2 : Int32)), .val (.int (99 : Int32))]) rfl ?_
    refine XS.iload X15.here hx rfl (hb hby d5_15) rfl ?_
    show Steps p.tables e below (T15.setTop (mkF m 17 #[.val (.ref a1), .val (.int (2 : Int32)), .val (.ref a2), .val (.int (2 : Int32)), .val (.int (3 : Int32)), .val (.int (2 : Int32)), .val (.int (99 : Int32))] [(.int (99 : Int32))])) _
    refine XS.sipush X15.here hx rfl (hb hby d5_17) ?_
    refine XS.icmpYes X15.here hx rfl (pc0 := 20) (pc' := 26) rfl (hb hby d5_20) rfl (flt ((by decide : ¬ ((255 : Int32) < (99 : Int32))) : ¬ ((255 : Int32) < (99 : Int32)))).2.2.2 (by decide) (by decide) ?_
    refine XS.aloadN X15.here hx rfl (hb hby d5_26) rfl rfl ?_
    refine XS.iloadN X15.here hx rfl (hb hby d5_27) rfl ?_
    refine XS.iload X15.here hx rfl (hb hby d5_28) rfl ?_
    refine XS.i2b X15.here hx rfl (hb hby d5_30) rfl ?_
    refine st21 _ ?_
    refine XS.iinc X21.here hx rfl (hb hby d5_32) rfl (l' := #[.val (.ref a1), .val (.int (3 : Int32)), .val (.ref a2), .val (.int (2 : Int32)), .val (.int (3 : Int32)), .val (.int (2 : Int32)), .val (.int (99 : Int32))]) rfl ?_
    refine XS.iinc X21.here hx rfl (hb hby d5_35) rfl (l' := #[.val (.ref a1), .val (.int (3 : Int32)), .val (.ref a2), .val (.int (3 : Int32)), .val (.int (3 : Int32)), .val (.int (2 : Int32)), .val (.int (99 : Int32))]) rfl ?_
    refine XS.iinc X21.here hx rfl (hb hby d5_38) rfl (l' := #[.val (.ref a1), .val (.int (3 : Int32)), .val (.ref a2), .val (.int (3 : Int32)), .val (.int (3 : Int32)), .val (.int (3 : Int32)), .val (.int (99 : Int32))]) rfl ?_
    refine XS.goto X21.here hx rfl (pc0 := 41) (pc' := 3) rfl (hb hby d5_41) (by decide) (by decide) ?_
    refine XS.iload X21.here hx rfl (hb hby d5_3) rfl ?_
    show Steps p.tables e below (T21.setTop (mkF m 5 #[.val (.ref a1), .val (.int (3 : Int32)), .val (.ref a2), .val (.int (3 : Int32)), .val (.int (3 : Int32)), .val (.int (3 : Int32)), .val (.int (99 : Int32))] [(.int (3 : Int32))])) _
    refine XS.iload X21.here hx rfl (hb hby d5_5) rfl ?_
    refine XS.icmpYes X21.here hx rfl (pc0 := 7) (pc' := 44) rfl (hb hby d5_7) rfl (flt ((by decide : ¬ ((3 : Int32) < (3 : Int32))) : ¬ ((3 : Int32) < (3 : Int32)))).2.1 (by decide) (by decide) ?_
    refine XS.iload X21.here hx rfl (hb hby d5_44) rfl ?_
    exact retI X21 hx hret (hb hby d5_46) hr
-- java/lang/StringUTF16.compress([CII)[B
abbrev Rm13 : Room := { frames := 1, cells := 1, slots := 3, locals := 18 }
def Q13 (Z : State) (a1 : Addr) (k3 : ClassId) (h0 : Heap) (n0 : Nat) (v : Option Value) (h : Heap) (L : List Loc) : Prop := ∃ b2 : Addr, ∃ k2 : ClassId, v = some (.ref b2) ∧ Fr n0 L ∧ Keep h0 h [] ∧ h0.size ≤ b2 ∧ Exa Z h b2 "[B" ∧ Arv Z h b2 k2 .byte (3 : Int32) [(.int (104 : Int32)), (.int (50 : Int32)), (.int (99 : Int32))] (.int (0 : Int32))
theorem ef13 (a1 : Addr) (m : MethodId) : entryFrame m #[(.ref a1), (.int (0 : Int32)), (.int (3 : Int32))] 6 = mkF m 0 #[.val (.ref a1), .val (.int (0 : Int32)), .val (.int (3 : Int32)), .unset, .unset, .unset] [] := by first | (simp [entryFrame, mkF, argsToLocals, Value.category]; done) | rfl
theorem rm13 (l : Launch) (Z : State) (a0 : Array Value) (hw : ∀ d ∈ tables_1, d.before a0 Z = true) (ws : List Jvm.Cond) (a1 : Addr) (k3 : ClassId) (h0 : Heap) (n0 : Nat) (Z0 : n0 ≤ h0.size) (V_a1 : Arv Z h0 a1 k3 .char (3 : Int32) [(.int (104 : Int32)), (.int (50 : Int32)), (.int (99 : Int32))] (.int (0 : Int32))) :
    OwnMet l Z y_1 jdk_52_method_16_code 6 (some (.array .byte)) ws Rm13 #[(.ref a1), (.int (0 : Int32)), (.int (3 : Int32))] h0 (Q13 Z a1 k3 h0 n0) := by
  refine own_body (plainFor_of_name pn_0) (ef13 a1) ?_
  intro p e s m below meth c s₁ hx hby hml hown hnm hret hZ X0 e0
  have N0 := Fr.nil n0
  obtain ⟨T2, h2, k2, X2, e2, E2, A2, B2, st2⟩ := newPE (aty := .byte) X0 hx hZ (w_19 hw) e0 (g := (mkF m 1 #[.val (.ref a1), .val (.int (0 : Int32)), .val (.int (3 : Int32)), .unset, .unset, .unset] [(.int (3 : Int32))])) rfl (hb hby d4_1) rfl (by decide) (cap := 3) (by decide) (by decide) (by decide) (by decide) (ad := "[B") (by decide)
  obtain ⟨b2, g2⟩ : ∃ z, z = h0.size := ⟨_, rfl⟩
  rw [← g2] at A2 B2 st2
  have s0 := E2.1
  have Vn2 : Arv Z h2 b2 k2 .byte (3 : Int32) [(.int (0 : Int32)), (.int (0 : Int32)), (.int (0 : Int32))] (.int (0 : Int32)) := (Arv.new A2 (by decide)).pad (pad_rep [] (.int (0 : Int32)) 3)
  have Va4 := (V_a1.ext E2)
  have g_b2 : n0 ≤ b2 := Nat.le_trans Z0 (Nat.le_of_eq g2.symm)
  have ne_a1_b2 := Nat.ne_of_lt (Nat.lt_of_lt_of_le V_a1.lt (Nat.le_of_eq g2.symm))
  have z1 := Nat.le_trans Z0 s0
  obtain ⟨_, T5, L5, X5, hQ5, st5⟩ := own_callS X2 hx hZ hown (y := y_0) (w_20 hw) (w_21 hw) (w_17 hw) (w_22 hw) (rm12 l Z a0 hw [] a1 b2 k3 k2 h2 n0 z1 Va4 Vn2 g_b2 ne_a1_b2 B2) e2 (Ls := #[.val (.ref a1), .val (.int (0 : Int32)), .val (.int (3 : Int32)), .val (.ref b2), .unset, .unset]) (by rw [hml]; rfl) (argsL := [(.ref a1), (.int (0 : Int32)), (.ref b2), (.int (0 : Int32)), (.int (3 : Int32))]) (rest := []) (lenOf pd_0 rfl) (hb hby d4_9) (W := 0)
  obtain ⟨rfl, Nq5, K5, o5_0, o5_1⟩ := hQ5
  have N5 := Fr.app N0 Nq5
  have s1 := K5.1
  have sz_b2 : h0.size ≤ b2 := (Nat.le_of_eq g2.symm)
  have Kp0 : Keep h0 h2 [] := (Keep.refl h0 []).ext E2
  have Kp1 : Keep h0 T5.heap [] := Kp0.trans K5 (allS (Or.inr sz_b2) all0)
  refine ⟨T5, _, _, _, (some (.ref b2)), X5, nofun, by decide, by decide, ?_, fun fs hr => ?_⟩
  · show Q13 Z a1 k3 h0 n0 _ T5.heap _
    exact ⟨b2, k2, rfl, N5, Kp1, sz_b2, o5_0, o5_1⟩
  · show Steps p.tables e below (s₁.setTop (mkF m 0 #[.val (.ref a1), .val (.int (0 : Int32)), .val (.int (3 : Int32)), .unset, .unset, .unset] [])) _
    refine XS.iloadN X0.here hx rfl (hb hby d4_0) rfl ?_
    refine st2 _ ?_
    refine XS.astoreN X2.here hx rfl (hb hby d4_3) rfl rfl (l' := #[.val (.ref a1), .val (.int (0 : Int32)), .val (.int (3 : Int32)), .val (.ref b2), .unset, .unset]) rfl ?_
    refine XS.aloadN X2.here hx rfl (hb hby d4_4) rfl rfl ?_
    refine XS.iloadN X2.here hx rfl (hb hby d4_5) rfl ?_
    refine XS.aloadN X2.here hx rfl (hb hby d4_6) rfl rfl ?_
    refine XS.iconst X2.here hx rfl (hb hby d4_7) ?_
    refine XS.iloadN X2.here hx rfl (hb hby d4_8) rfl ?_
    refine st5 _ ?_
    refine XS.istore X5.here hx rfl (hb hby d4_12) rfl (l' := #[.val (.ref a1), .val (.int (0 : Int32)), .val (.int (3 : Int32)), .val (.ref b2), .val (.int (3 : Int32)), .unset]) rfl ?_
    refine XS.iload X5.here hx rfl (hb hby d4_14) rfl ?_
    refine XS.iloadN X5.here hx rfl (hb hby d4_16) rfl ?_
    show Steps p.tables e below (T5.setTop (mkF m 17 #[.val (.ref a1), .val (.int (0 : Int32)), .val (.int (3 : Int32)), .val (.ref b2), .val (.int (3 : Int32)), .unset] [(.int (3 : Int32)), (.int (3 : Int32))])) _
    refine XS.icmpYes X5.here hx rfl (pc0 := 17) (pc' := 57) rfl (hb hby d4_17) rfl (teq ((by decide : (3 : Int32) = (3 : Int32)) : (3 : Int32) = (3 : Int32))).1 (by decide) (by decide) ?_
    refine XS.aloadN X5.here hx rfl (hb hby d4_57) rfl rfl ?_
    exact retOut X5 hx hret rfl (Or.inr (Or.inr (Or.inr (Or.inr ⟨rfl, rfl, rfl⟩)))) (hb hby d4_58) hr
-- java/lang/StringUTF16.coderFromArrayLen([BI)B
abbrev Rm14 : Room := { frames := 0, cells := 0, slots := 0, locals := 0 }
def Q14 (Z : State) (a1 : Addr) (k2 : ClassId) (h0 : Heap) (n0 : Nat) (v : Option Value) (h : Heap) (L : List Loc) : Prop := v = some (.int (0 : Int32)) ∧ Fr n0 L ∧ h = h0
theorem ef14 (a1 : Addr) (m : MethodId) : entryFrame m #[(.ref a1), (.int (3 : Int32))] 2 = mkF m 0 #[.val (.ref a1), .val (.int (3 : Int32))] [] := by first | (simp [entryFrame, mkF, argsToLocals, Value.category]; done) | rfl
theorem rm14 (l : Launch) (Z : State) (a0 : Array Value) (hw : ∀ d ∈ tables_1, d.before a0 Z = true) (ws : List Jvm.Cond) (a1 : Addr) (k2 : ClassId) (h0 : Heap) (n0 : Nat) (Z0 : n0 ≤ h0.size) (V_a1 : Arv Z h0 a1 k2 .byte (3 : Int32) [(.int (104 : Int32)), (.int (50 : Int32)), (.int (99 : Int32))] (.int (0 : Int32))) :
    OwnMet l Z y_2 jdk_52_method_15_code 2 (some .byte) ws Rm14 #[(.ref a1), (.int (3 : Int32))] h0 (Q14 Z a1 k2 h0 n0) := by
  refine own_body (plainFor_of_name pn_0) (ef14 a1) ?_
  intro p e s m below meth c s₁ hx hby hml hown hnm hret hZ X0 e0
  have N0 := Fr.nil n0
  obtain ⟨cl3, Ar3, q3, S3, M3, Hs3, G3⟩ := id V_a1
  refine ⟨s₁, _, _, _, (some (.int (0 : Int32))), X0, nofun, by decide, by decide, ?_, fun fs hr => ?_⟩
  · show Q14 Z a1 k2 h0 n0 _ s₁.heap _
    rw [e0]
    exact ⟨rfl, N0, rfl⟩
  · show Steps p.tables e below (s₁.setTop (mkF m 0 #[.val (.ref a1), .val (.int (3 : Int32))] [])) _
    refine XS.iloadN X0.here hx rfl (hb hby d6_0) rfl ?_
    refine XS.aloadN X0.here hx rfl (hb hby d6_1) rfl rfl ?_
    refine X0.arraylength hx (by rw [e0]; exact Ar3.1) (State.isArrayOf_alike hZ.alike Ar3.2.1) (g := (mkF m 2 #[.val (.ref a1), .val (.int (3 : Int32))] [(.ref a1), (.int (3 : Int32))])) rfl rfl (hb hby d6_2) _ ?_
    show Steps p.tables e below (s₁.setTop (mkF m 3 #[.val (.ref a1), .val (.int (3 : Int32))] [(.int cl3.slots.size.toInt32), (.int (3 : Int32))])) _
    rw [len_of S3 M3]
    refine XS.isub X0.here hx rfl (hb hby d6_3) rfl ?_
    refine XS.bipush X0.here hx rfl (hb hby d6_4) ?_
    refine XS.iushr X0.here hx rfl (hb hby d6_6) rfl ?_
    refine XS.i2b X0.here hx rfl (hb hby d6_7) rfl ?_
    exact retN X0 hx (t := .byte) hret (by simp) (hb hby d6_8) hr
-- java/lang/String.<init>([CIILjava/lang/Void;)V
abbrev Rm15 : Room := { frames := 2, cells := 1, slots := 3, locals := 35 }
def Q15 (Z : State) (a1 : Addr) (a2 : Addr) (p4 : Int32) (k7 : ClassId) (h0 : Heap) (n0 : Nat) (v : Option Value) (h : Heap) (L : List Loc) : Prop := ∃ b8_b2 : Addr, ∃ k8_k2 : ClassId, v = none ∧ Fr n0 L ∧ Keep h0 h [a1] ∧ Exa Z h a1 "java/lang/String" ∧ Fld Z h a1 "java/lang/String" "coder" "B" (.int (0 : Int32)) ∧ Fld Z h a1 "java/lang/String" "value" "[B" (.ref b8_b2) ∧ h0.size ≤ b8_b2 ∧ Exa Z h b8_b2 "[B" ∧ Arv Z h b8_b2 k8_k2 .byte (3 : Int32) [(.int (104 : Int32)), (.int (50 : Int32)), (.int (99 : Int32))] (.int (0 : Int32))
theorem ef15 (a1 : Addr) (a2 : Addr) (m : MethodId) : entryFrame m #[(.ref a1), (.ref a2), (.int (0 : Int32)), (.int (3 : Int32)), .null] 6 = mkF m 0 #[.val (.ref a1), .val (.ref a2), .val (.int (0 : Int32)), .val (.int (3 : Int32)), .val .null, .unset] [] := by first | (simp [entryFrame, mkF, argsToLocals, Value.category]; done) | rfl
theorem rm15 (l : Launch) (Z : State) (a0 : Array Value) (hw : ∀ d ∈ tables_1, d.before a0 Z = true) (ws : List Jvm.Cond) (a1 : Addr) (a2 : Addr) (p4 : Int32) (k7 : ClassId) (h0 : Heap) (n0 : Nat) (Z0 : n0 ≤ h0.size) (S_COMPACT_STRINGS : Sta Z Z.heap "java/lang/String" "COMPACT_STRINGS" "Z" (.int p4)) (Od0 : Old Z n0 h0) (c6 : ¬ (p4 = (0 : Int32))) (V_a2 : Arv Z h0 a2 k7 .char (3 : Int32) [(.int (104 : Int32)), (.int (50 : Int32)), (.int (99 : Int32))] (.int (0 : Int32))) (F_coder_a1 : Fld Z h0 a1 "java/lang/String" "coder" "B" (.int (0 : Int32))) (E_a1 : Exa Z h0 a1 "java/lang/String") (g_a1 : n0 ≤ a1) (F_value_a1 : Fld Z h0 a1 "java/lang/String" "value" "[B" .null) :
    OwnMet l Z y_3 jdk_42_method_149_code 6 none ws Rm15 #[(.ref a1), (.ref a2), (.int (0 : Int32)), (.int (3 : Int32)), .null] h0 (Q15 Z a1 a2 p4 k7 h0 n0) := by
  refine own_body (plainFor_of_name pn_1) (ef15 a1 a2) ?_
  intro p e s m below meth c s₁ hx hby hml hown hnm hret hZ X0 e0
  have N0 := Fr.nil n0
  obtain ⟨T3, X3, e3, st3⟩ := initO X0 hx hZ hown (w_11 hw) (w_12 hw) (w_13 hw) e0 (g := (mkF m 1 #[.val (.ref a1), .val (.ref a2), .val (.int (0 : Int32)), .val (.int (3 : Int32)), .val .null, .unset] [(.ref a1)])) rfl (by rw [hml]; rfl) rfl (hb hby d2_1) (by decide) (W := 0) (by show 2 * 0 + _ ≤ _; exact Nat.le_of_eq rfl) (by decide)
  obtain ⟨T5, X5, e5, st5⟩ := getS2 X3 hx hZ hown (host := "") (Or.inl (w_14 hw)) Via.refl e3 (S_COMPACT_STRINGS.ext Od0.2) (g := (mkF m 27 #[.val (.ref a1), .val (.ref a2), .val (.int (0 : Int32)), .val (.int (3 : Int32)), .val .null, .unset] [])) rfl (hb hby d2_27)
  obtain ⟨_, T8, L8, X8, hQ8, st8⟩ := own_callS X5 hx hZ hown (y := y_1) (w_15 hw) (w_16 hw) (w_17 hw) (w_18 hw) (rm13 l Z a0 hw [] a2 k7 h0 n0 Z0 V_a2) e5 (Ls := #[.val (.ref a1), .val (.ref a2), .val (.int (0 : Int32)), .val (.int (3 : Int32)), .val .null, .unset]) (by rw [hml]; rfl) (argsL := [(.ref a2), (.int (0 : Int32)), (.int (3 : Int32))]) (rest := []) (lenOf pd_1 rfl) (hb hby d2_36) (W := 0)
  obtain ⟨b8_b2, k8_k2, rfl, Nq8, K8, o8_0, o8_1, o8_2⟩ := hQ8
  have N8 := Fr.app N0 Nq8
  have s0 := K8.1
  have z1 := Nat.le_trans Z0 s0
  obtain ⟨_, T9, L9, X9, hQ9, st9⟩ := own_callS X8 hx hZ hown (y := y_2) (w_23 hw) (w_24 hw) (w_17 hw) (w_25 hw) (rm14 l Z a0 hw [] b8_b2 k8_k2 T8.heap n0 z1 o8_2) rfl (Ls := #[.val (.ref a1), .val (.ref a2), .val (.int (0 : Int32)), .val (.int (3 : Int32)), .val .null, .val (.ref b8_b2)]) (by rw [hml]; rfl) (argsL := [(.ref b8_b2), (.int (3 : Int32))]) (rest := [(.ref a1)]) (lenOf pd_2 rfl) (hb hby d2_45) (W := 1)
  obtain ⟨rfl, Nq9, e9⟩ := hQ9
  have N9 := Fr.app N8 Nq9
  have Fl10 := (F_coder_a1.keep K8 nin0)
  have Ex11 := (E_a1.keep K8)
  obtain ⟨T12, h12, X12, e12, W12, st12⟩ := putFN X9 hx hZ hown (w_26 hw) Via.refl e9 Fl10 Ex11 (Or.inr ⟨(w_27 hw), rfl, hnm⟩) (w_2 hw) (ty := .byte) (v' := (.int (nar .byte (0 : Int32)))) (by decide) rfl (fits_nar_byte _) (g := (mkF m 48 #[.val (.ref a1), .val (.ref a2), .val (.int (0 : Int32)), .val (.int (3 : Int32)), .val .null, .val (.ref b8_b2)] [(.int (0 : Int32)), (.ref a1)])) rfl rfl (hb hby d2_48)
  have s1 := (Keep.of_wr W12).1
  have N12 := Fr.snoc X12 N9 g_a1
  have Fw12 : Fld Z h12 a1 "java/lang/String" "coder" "B" (.int (0 : Int32)) := Fl10.same W12
  have Ex13 := (Ex11.wr W12)
  have Fl14 := ((F_value_a1.keep K8 nin0).other W12 (Or.inr (slot_ne (Or.inr (w_29 hw)) (Or.inr (w_27 hw)) (by decide) (t := (.array .byte)) (t' := .byte) (by decide) (by decide))))
  obtain ⟨T15, h15, X15, e15, W15, st15⟩ := putF X12 hx hZ hown (host := "") (Or.inl (w_28 hw)) Via.refl e12 Fl14 Ex13 (Or.inr ⟨(w_29 hw), rfl, hnm⟩) (w_2 hw) (ty := (.array .byte)) (by decide) rfl rfl (g := (mkF m 54 #[.val (.ref a1), .val (.ref a2), .val (.int (0 : Int32)), .val (.int (3 : Int32)), .val .null, .val (.ref b8_b2)] [(.ref b8_b2), (.ref a1)])) rfl rfl (hb hby d2_54)
  have s2 := (Keep.of_wr W15).1
  have N15 := Fr.snoc X15 N12 g_a1
  have Fw15 : Fld Z h15 a1 "java/lang/String" "value" "[B" (.ref b8_b2) := Fl14.same W15
  have Ex16 := (Ex13.wr W15)
  have Fl17 := (Fw12.other W15 (Or.inr (slot_ne (Or.inr (w_27 hw)) (Or.inr (w_29 hw)) (by decide) (t := .byte) (t' := (.array .byte)) (by decide) (by decide))))
  have sz_b8_b2 : h0.size ≤ b8_b2 := o8_0
  have Ex18 := ((o8_1.wr W12).wr W15)
  have ne_a1_b8_b2 := Nat.ne_of_lt (Nat.lt_of_lt_of_le F_value_a1.lt o8_0)
  have Va19 := ((o8_2.other W12 (Ne.symm ne_a1_b8_b2)).other W15 (Ne.symm ne_a1_b8_b2))
  have Kp0 : Keep h0 T8.heap [a1] := (Keep.refl h0 [a1]).trans K8 all0
  have Kp1 : Keep h0 h12 [a1] := Kp0.wr W12 (Or.inl (List.mem_of_getElem? (i := 0) rfl))
  have Kp2 : Keep h0 h15 [a1] := Kp1.wr W15 (Or.inl (List.mem_of_getElem? (i := 0) rfl))
  refine ⟨T15, _, _, _, none, X15, (fun _ => rfl), by decide, by decide, ?_, fun fs hr => ?_⟩
  · show Q15 Z a1 a2 p4 k7 h0 n0 _ T15.heap _
    rw [e15]
    exact ⟨b8_b2, k8_k2, rfl, N15, Kp2, Ex16, Fl17, Fw15, sz_b8_b2, Ex18, Va19⟩
  · show Steps p.tables e below (s₁.setTop (mkF m 0 #[.val (.ref a1), .val (.ref a2), .val (.int (0 : Int32)), .val (.int (3 : Int32)), .val .null, .unset] [])) _
    refine XS.aloadN X0.here hx rfl (hb hby d2_0) rfl rfl ?_
    refine st3 _ ?_
    refine XS.iloadN X3.here hx rfl (hb hby d2_4) rfl ?_
    refine XS.ifYes X3.here hx rfl (pc0 := 5) (pc' := 27) rfl (hb hby d2_5) rfl ((if0 _ _).trans (feq ((by decide : ¬ ((3 : Int32) = (0 : Int32))) : ¬ ((3 : Int32) = (0 : Int32)))).2) (by decide) (by decide) ?_
    refine st5 _ ?_
    refine XS.ifNo X5.here hx rfl (hb hby d2_30) rfl ((if0 _ _).trans (feq (c6 : ¬ (p4 = (0 : Int32)))).1) ?_
    refine XS.aloadN X5.here hx rfl (hb hby d2_33) rfl rfl ?_
    refine XS.iloadN X5.here hx rfl (hb hby d2_34) rfl ?_
    refine XS.iloadN X5.here hx rfl (hb hby d2_35) rfl ?_
    refine st8 _ ?_
    refine XS.astore X8.here hx rfl (hb hby d2_39) rfl rfl (l' := #[.val (.ref a1), .val (.ref a2), .val (.int (0 : Int32)), .val (.int (3 : Int32)), .val .null, .val (.ref b8_b2)]) rfl ?_
    refine XS.aloadN X8.here hx rfl (hb hby d2_41) rfl rfl ?_
    show Steps p.tables e below (T8.setTop (mkF m 42 #[.val (.ref a1), .val (.ref a2), .val (.int (0 : Int32)), .val (.int (3 : Int32)), .val .null, .val (.ref b8_b2)] [(.ref a1)])) _
    refine XS.aload X8.here hx rfl (hb hby d2_42) rfl rfl ?_
    refine XS.iloadN X8.here hx rfl (hb hby d2_44) rfl ?_
    refine st9 _ ?_
    refine st12 _ ?_
    refine XS.aloadN X12.here hx rfl (hb hby d2_51) rfl rfl ?_
    refine XS.aload X12.here hx rfl (hb hby d2_52) rfl rfl ?_
    refine st15 _ ?_
    exact X15.returnOut hx hret (hb hby d2_57) hr
-- java/lang/String.<init>([C)V
abbrev Rm16 : Room := { frames := 3, cells := 1, slots := 3, locals := 52 }
def Q16 (Z : State) (a1 : Addr) (a2 : Addr) (k3 : ClassId) (p5 : Int32) (h0 : Heap) (n0 : Nat) (v : Option Value) (h : Heap) (L : List Loc) : Prop := ∃ b7_b8_b2 : Addr, ∃ k7_k8_k2 : ClassId, v = none ∧ Fr n0 L ∧ Keep h0 h [a1] ∧ Exa Z h a1 "java/lang/String" ∧ Fld Z h a1 "java/lang/String" "coder" "B" (.int (0 : Int32)) ∧ Fld Z h a1 "java/lang/String" "value" "[B" (.ref b7_b8_b2) ∧ h0.size ≤ b7_b8_b2 ∧ Exa Z h b7_b8_b2 "[B" ∧ Arv Z h b7_b8_b2 k7_k8_k2 .byte (3 : Int32) [(.int (104 : Int32)), (.int (50 : Int32)), (.int (99 : Int32))] (.int (0 : Int32))
theorem ef16 (a1 : Addr) (a2 : Addr) (m : MethodId) : entryFrame m #[(.ref a1), (.ref a2)] 2 = mkF m 0 #[.val (.ref a1), .val (.ref a2)] [] := by first | (simp [entryFrame, mkF, argsToLocals, Value.category]; done) | rfl
theorem rm16 (l : Launch) (Z : State) (a0 : Array Value) (hw : ∀ d ∈ tables_1, d.before a0 Z = true) (ws : List Jvm.Cond) (a1 : Addr) (a2 : Addr) (k3 : ClassId) (p5 : Int32) (h0 : Heap) (n0 : Nat) (Z0 : n0 ≤ h0.size) (V_a2 : Arv Z h0 a2 k3 .char (3 : Int32) [(.int (104 : Int32)), (.int (50 : Int32)), (.int (99 : Int32))] (.int (0 : Int32))) (S_COMPACT_STRINGS : Sta Z Z.heap "java/lang/String" "COMPACT_STRINGS" "Z" (.int p5)) (Od0 : Old Z n0 h0) (c6 : ¬ (p5 = (0 : Int32))) (F_coder_a1 : Fld Z h0 a1 "java/lang/String" "coder" "B" (.int (0 : Int32))) (E_a1 : Exa Z h0 a1 "java/lang/String") (g_a1 : n0 ≤ a1) (F_value_a1 : Fld Z h0 a1 "java/lang/String" "value" "[B" .null) :
    OwnMet l Z y_4 jdk_42_method_3_code 2 none ws Rm16 #[(.ref a1), (.ref a2)] h0 (Q16 Z a1 a2 k3 p5 h0 n0) := by
  refine own_body (plainFor_of_name pn_1) (ef16 a1 a2) ?_
  intro p e s m below meth c s₁ hx hby hml hown hnm hret hZ X0 e0
  have N0 := Fr.nil n0
  obtain ⟨cl4, Ar4, q4, S4, M4, Hs4, G4⟩ := id V_a2
  obtain ⟨_, T7, L7, X7, hQ7, st7⟩ := own_special X0 hx hZ hown (y := y_3) (a := a1) (w_7 hw) (w_8 hw) (w_3 hw) (w_10 hw) (rm15 l Z a0 hw [] a1 a2 p5 k3 h0 n0 Z0 S_COMPACT_STRINGS Od0 c6 V_a2 F_coder_a1 E_a1 g_a1 F_value_a1) e0 (Ls := #[.val (.ref a1), .val (.ref a2)]) (by rw [hml]; rfl) (argsL := [(.ref a2), (.int (0 : Int32)), (.int (3 : Int32)), .null]) (rest := []) (lenOf pd_3 rfl) (hb hby d1_6) (W := 0)
  obtain ⟨b7_b8_b2, k7_k8_k2, rfl, Nq7, K7, o7_0, o7_1, o7_2, o7_3, o7_4, o7_5⟩ := hQ7
  have N7 := Fr.app N0 Nq7
  have s0 := K7.1
  have sz_b7_b8_b2 : h0.size ≤ b7_b8_b2 := o7_3
  have Kp0 : Keep h0 T7.heap [a1] := (Keep.refl h0 [a1]).trans K7 (allS (Or.inl (List.mem_of_getElem? (i := 0) rfl)) all0)
  refine ⟨T7, _, _, _, none, X7, (fun _ => rfl), by decide, by decide, ?_, fun fs hr => ?_⟩
  · show Q16 Z a1 a2 k3 p5 h0 n0 _ T7.heap _
    exact ⟨b7_b8_b2, k7_k8_k2, rfl, N7, Kp0, o7_0, o7_1, o7_2, sz_b7_b8_b2, o7_4, o7_5⟩
  · show Steps p.tables e below (s₁.setTop (mkF m 0 #[.val (.ref a1), .val (.ref a2)] [])) _
    refine XS.aloadN X0.here hx rfl (hb hby d1_0) rfl rfl ?_
    refine XS.aloadN X0.here hx rfl (hb hby d1_1) rfl rfl ?_
    refine XS.iconst X0.here hx rfl (hb hby d1_2) ?_
    refine XS.aloadN X0.here hx rfl (hb hby d1_3) rfl rfl ?_
    refine X0.arraylength hx (by rw [e0]; exact Ar4.1) (State.isArrayOf_alike hZ.alike Ar4.2.1) (g := (mkF m 4 #[.val (.ref a1), .val (.ref a2)] [(.ref a2), (.int (0 : Int32)), (.ref a2), (.ref a1)])) rfl rfl (hb hby d1_4) _ ?_
    show Steps p.tables e below (s₁.setTop (mkF m 5 #[.val (.ref a1), .val (.ref a2)] [(.int cl4.slots.size.toInt32), (.int (0 : Int32)), (.ref a2), (.ref a1)])) _
    rw [len_of S4 M4]
    refine XS.aconstNull X0.here hx rfl (hb hby d1_5) ?_
    refine st7 _ ?_
    exact X7.returnOut hx hret (hb hby d1_9) hr
-- java/lang/StringLatin1.equals([B[B)Z
abbrev Rm17 : Room := { frames := 0, cells := 0, slots := 0, locals := 0 }
def Q17 (Z : State) (a1 : Addr) (a2 : Addr) (k3 : ClassId) (k5 : ClassId) (h0 : Heap) (n0 : Nat) (v : Option Value) (h : Heap) (L : List Loc) : Prop := v = some (.int (1 : Int32)) ∧ Fr n0 L ∧ h = h0
theorem ef17 (a1 : Addr) (a2 : Addr) (m : MethodId) : entryFrame m #[(.ref a1), (.ref a2)] 3 = mkF m 0 #[.val (.ref a1), .val (.ref a2), .unset] [] := by first | (simp [entryFrame, mkF, argsToLocals, Value.category]; done) | rfl
theorem rm17 (l : Launch) (Z : State) (a0 : Array Value) (hw : ∀ d ∈ tables_1, d.before a0 Z = true) (ws : List Jvm.Cond) (a1 : Addr) (a2 : Addr) (k3 : ClassId) (k5 : ClassId) (h0 : Heap) (n0 : Nat) (Z0 : n0 ≤ h0.size) (V_a1 : Arv Z h0 a1 k3 .byte (3 : Int32) [(.int (104 : Int32)), (.int (50 : Int32)), (.int (99 : Int32))] (.int (0 : Int32))) (V_a2 : Arv Z h0 a2 k5 .byte (3 : Int32) [(.int (104 : Int32)), (.int (50 : Int32)), (.int (99 : Int32))] (.int (0 : Int32))) :
    OwnMet l Z y_6 jdk_43_method_13_code 3 (some .boolean) ws Rm17 #[(.ref a1), (.ref a2)] h0 (Q17 Z a1 a2 k3 k5 h0 n0) := by
  refine own_body (plainFor_of_name pn_3) (ef17 a1 a2) ?_
  intro p e s m below meth c s₁ hx hby hml hown hnm hret hZ X0 e0
  have N0 := Fr.nil n0
  obtain ⟨cl4, Ar4, q4, S4, M4, Hs4, G4⟩ := id V_a1
  obtain ⟨cl6, Ar6, q6, S6, M6, Hs6, G6⟩ := id V_a2
  have hin7 : ¬ ((0 : Int32) < 0 ∨ cl4.slots.size ≤ ((0 : Int32)).toNatClampNeg) := inb_of S4 ⟨(by decide : ¬ ((0 : Int32) < (0 : Int32))), (by decide : (0 : Int32) < (3 : Int32))⟩
  have hin8 : ¬ ((0 : Int32) < 0 ∨ cl6.slots.size ≤ ((0 : Int32)).toNatClampNeg) := inb_of S6 ⟨(by decide : ¬ ((0 : Int32) < (0 : Int32))), (by decide : (0 : Int32) < (3 : Int32))⟩
  have hin9 : ¬ ((1 : Int32) < 0 ∨ cl4.slots.size ≤ ((1 : Int32)).toNatClampNeg) := inb_of S4 ⟨(by decide : ¬ ((1 : Int32) < (0 : Int32))), (by decide : (1 : Int32) < (3 : Int32))⟩
  have hin10 : ¬ ((1 : Int32) < 0 ∨ cl6.slots.size ≤ ((1 : Int32)).toNatClampNeg) := inb_of S6 ⟨(by decide : ¬ ((1 : Int32) < (0 : Int32))), (by decide : (1 : Int32) < (3 : Int32))⟩
  have hin11 : ¬ ((2 : Int32) < 0 ∨ cl4.slots.size ≤ ((2 : Int32)).toNatClampNeg) := inb_of S4 ⟨(by decide : ¬ ((2 : Int32) < (0 : Int32))), (by decide : (2 : Int32) < (3 : Int32))⟩
  have hin12 : ¬ ((2 : Int32) < 0 ∨ cl6.slots.size ≤ ((2 : Int32)).toNatClampNeg) := inb_of S6 ⟨(by decide : ¬ ((2 : Int32) < (0 : Int32))), (by decide : (2 : Int32) < (3 : Int32))⟩
  refine ⟨s₁, _, _, _, (some (.int (1 : Int32))), X0, nofun, by decide, by decide, ?_, fun fs hr => ?_⟩
  · show Q17 Z a1 a2 k3 k5 h0 n0 _ s₁.heap _
    rw [e0]
    exact ⟨rfl, N0, rfl⟩
  · show Steps p.tables e below (s₁.setTop (mkF m 0 #[.val (.ref a1), .val (.ref a2), .unset] [])) _
    refine XS.aloadN X0.here hx rfl (hb hby d10_0) rfl rfl ?_
    refine X0.arraylength hx (by rw [e0]; exact Ar4.1) (State.isArrayOf_alike hZ.alike Ar4.2.1) (g := (mkF m 1 #[.val (.ref a1), .val (.ref a2), .unset] [(.ref a1)])) rfl rfl (hb hby d10_1) _ ?_
    show Steps p.tables e below (s₁.setTop (mkF m 2 #[.val (.ref a1), .val (.ref a2), .unset] [(.int cl4.slots.size.toInt32)])) _
    rw [len_of S4 M4]
    refine XS.aloadN X0.here hx rfl (hb hby d10_2) rfl rfl ?_
    refine X0.arraylength hx (by rw [e0]; exact Ar6.1) (State.isArrayOf_alike hZ.alike Ar6.2.1) (g := (mkF m 3 #[.val (.ref a1), .val (.ref a2), .unset] [(.ref a2), (.int (3 : Int32))])) rfl rfl (hb hby d10_3) _ ?_
    show Steps p.tables e below (s₁.setTop (mkF m 4 #[.val (.ref a1), .val (.ref a2), .unset] [(.int cl6.slots.size.toInt32), (.int (3 : Int32))])) _
    rw [len_of S6 M6]
    refine XS.icmpNo X0.here hx rfl (hb hby d10_4) rfl (teq ((by decide : (3 : Int32) = (3 : Int32)) : (3 : Int32) = (3 : Int32))).2 ?_
    refine XS.iconst X0.here hx rfl (hb hby d10_7) ?_
    refine XS.istoreN X0.here hx rfl (hb hby d10_8) rfl (l' := #[.val (.ref a1), .val (.ref a2), .val (.int (0 : Int32))]) rfl ?_
    refine XS.iloadN X0.here hx rfl (hb hby d10_9) rfl ?_
    refine XS.aloadN X0.here hx rfl (hb hby d10_10) rfl rfl ?_
    refine X0.arraylength hx (by rw [e0]; exact Ar4.1) (State.isArrayOf_alike hZ.alike Ar4.2.1) (g := (mkF m 11 #[.val (.ref a1), .val (.ref a2), .val (.int (0 : Int32))] [(.ref a1), (.int (0 : Int32))])) rfl rfl (hb hby d10_11) _ ?_
    show Steps p.tables e below (s₁.setTop (mkF m 12 #[.val (.ref a1), .val (.ref a2), .val (.int (0 : Int32))] [(.int cl4.slots.size.toInt32), (.int (0 : Int32))])) _
    rw [len_of S4 M4]
    refine XS.icmpNo X0.here hx rfl (hb hby d10_12) rfl (tlt ((by decide : (0 : Int32) < (3 : Int32)) : (0 : Int32) < (3 : Int32))).2.1 ?_
    refine XS.aloadN X0.here hx rfl (hb hby d10_15) rfl rfl ?_
    refine XS.iloadN X0.here hx rfl (hb hby d10_16) rfl ?_
    refine X0.baloadBytes hx (j := (0 : Int32)) (v := (.int (104 : Int32))) (by rw [e0]; exact Ar4.1) (State.isArrayOf_alike hZ.alike Ar4.2.1) Ar4.2.2 hin7 (Has.at Hs4 hin7 rfl) (g := (mkF m 17 #[.val (.ref a1), .val (.ref a2), .val (.int (0 : Int32))] [(.int (0 : Int32)), (.ref a1)])) rfl rfl (hb hby d10_17) _ ?_
    refine XS.aloadN X0.here hx rfl (hb hby d10_18) rfl rfl ?_
    refine XS.iloadN X0.here hx rfl (hb hby d10_19) rfl ?_
    refine X0.baloadBytes hx (j := (0 : Int32)) (v := (.int (104 : Int32))) (by rw [e0]; exact Ar6.1) (State.isArrayOf_alike hZ.alike Ar6.2.1) Ar6.2.2 hin8 (Has.at Hs6 hin8 rfl) (g := (mkF m 20 #[.val (.ref a1), .val (.ref a2), .val (.int (0 : Int32))] [(.int (0 : Int32)), (.ref a2), (.int (104 : Int32))])) rfl rfl (hb hby d10_20) _ ?_
    refine XS.icmpYes X0.here hx rfl (pc0 := 21) (pc' := 26) rfl (hb hby d10_21) rfl (teq ((by decide : (104 : Int32) = (104 : Int32)) : (104 : Int32) = (104 : Int32))).1 (by decide) (by decide) ?_
    refine XS.iinc X0.here hx rfl (hb hby d10_26) rfl (l' := #[.val (.ref a1), .val (.ref a2), .val (.int (1 : Int32))]) rfl ?_
    refine XS.goto X0.here hx rfl (pc0 := 29) (pc' := 9) rfl (hb hby d10_29) (by decide) (by decide) ?_
    refine XS.iloadN X0.here hx rfl (hb hby d10_9) rfl ?_
    show Steps p.tables e below (s₁.setTop (mkF m 10 #[.val (.ref a1), .val (.ref a2), .val (.int (1 : Int32))] [(.int (1 : Int32))])) _
    refine XS.aloadN X0.here hx rfl (hb hby d10_10) rfl rfl ?_
    refine X0.arraylength hx (by rw [e0]; exact Ar4.1) (State.isArrayOf_alike hZ.alike Ar4.2.1) (g := (mkF m 11 #[.val (.ref a1), .val (.ref a2), .val (.int (1 : Int32))] [(.ref a1), (.int (1 : Int32))])) rfl rfl (hb hby d10_11) _ ?_
    show Steps p.tables e below (s₁.setTop (mkF m 12 #[.val (.ref a1), .val (.ref a2), .val (.int (1 : Int32))] [(.int cl4.slots.size.toInt32), (.int (1 : Int32))])) _
    rw [len_of S4 M4]
    refine XS.icmpNo X0.here hx rfl (hb hby d10_12) rfl (tlt ((by decide : (1 : Int32) < (3 : Int32)) : (1 : Int32) < (3 : Int32))).2.1 ?_
    refine XS.aloadN X0.here hx rfl (hb hby d10_15) rfl rfl ?_
    refine XS.iloadN X0.here hx rfl (hb hby d10_16) rfl ?_
    refine X0.baloadBytes hx (j := (1 : Int32)) (v := (.int (50 : Int32))) (by rw [e0]; exact Ar4.1) (State.isArrayOf_alike hZ.alike Ar4.2.1) Ar4.2.2 hin9 (Has.at Hs4 hin9 rfl) (g := (mkF m 17 #[.val (.ref a1), .val (.ref a2), .val (.int (1 : Int32))] [(.int (1 : Int32)), (.ref a1)])) rfl rfl (hb hby d10_17) _ ?_
    refine XS.aloadN X0.here hx rfl (hb hby d10_18) rfl rfl ?_
    refine XS.iloadN X0.here hx rfl (hb hby d10_19) rfl ?_
    refine X0.baloadBytes hx (j := (1 : Int32)) (v := (.int (50 : Int32))) (by rw [e0]; exact Ar6.1) (State.isArrayOf_alike hZ.alike Ar6.2.1) Ar6.2.2 hin10 (Has.at Hs6 hin10 rfl) (g := (mkF m 20 #[.val (.ref a1), .val (.ref a2), .val (.int (1 : Int32))] [(.int (1 : Int32)), (.ref a2), (.int (50 : Int32))])) rfl rfl (hb hby d10_20) _ ?_
    refine XS.icmpYes X0.here hx rfl (pc0 := 21) (pc' := 26) rfl (hb hby d10_21) rfl (teq ((by decide : (50 : Int32) = (50 : Int32)) : (50 : Int32) = (50 : Int32))).1 (by decide) (by decide) ?_
    refine XS.iinc X0.here hx rfl (hb hby d10_26) rfl (l' := #[.val (.ref a1), .val (.ref a2), .val (.int (2 : Int32))]) rfl ?_
    refine XS.goto X0.here hx rfl (pc0 := 29) (pc' := 9) rfl (hb hby d10_29) (by decide) (by decide) ?_
    refine XS.iloadN X0.here hx rfl (hb hby d10_9) rfl ?_
    show Steps p.tables e below (s₁.setTop (mkF m 10 #[.val (.ref a1), .val (.ref a2), .val (.int (2 : Int32))] [(.int (2 : Int32))])) _
    refine XS.aloadN X0.here hx rfl (hb hby d10_10) rfl rfl ?_
    refine X0.arraylength hx (by rw [e0]; exact Ar4.1) (State.isArrayOf_alike hZ.alike Ar4.2.1) (g := (mkF m 11 #[.val (.ref a1), .val (.ref a2), .val (.int (2 : Int32))] [(.ref a1), (.int (2 : Int32))])) rfl rfl (hb hby d10_11) _ ?_
    show Steps p.tables e below (s₁.setTop (mkF m 12 #[.val (.ref a1), .val (.ref a2), .val (.int (2 : Int32))] [(.int cl4.slots.size.toInt32), (.int (2 : Int32))])) _
    rw [len_of S4 M4]
    refine XS.icmpNo X0.here hx rfl (hb hby d10_12) rfl (tlt ((by decide : (2 : Int32) < (3 : Int32)) : (2 : Int32) < (3 : Int32))).2.1 ?_
    refine XS.aloadN X0.here hx rfl (hb hby d10_15) rfl rfl ?_
    refine XS.iloadN X0.here hx rfl (hb hby d10_16) rfl ?_
    refine X0.baloadBytes hx (j := (2 : Int32)) (v := (.int (99 : Int32))) (by rw [e0]; exact Ar4.1) (State.isArrayOf_alike hZ.alike Ar4.2.1) Ar4.2.2 hin11 (Has.at Hs4 hin11 rfl) (g := (mkF m 17 #[.val (.ref a1), .val (.ref a2), .val (.int (2 : Int32))] [(.int (2 : Int32)), (.ref a1)])) rfl rfl (hb hby d10_17) _ ?_
    refine XS.aloadN X0.here hx rfl (hb hby d10_18) rfl rfl ?_
    refine XS.iloadN X0.here hx rfl (hb hby d10_19) rfl ?_
    refine X0.baloadBytes hx (j := (2 : Int32)) (v := (.int (99 : Int32))) (by rw [e0]; exact Ar6.1) (State.isArrayOf_alike hZ.alike Ar6.2.1) Ar6.2.2 hin12 (Has.at Hs6 hin12 rfl) (g := (mkF m 20 #[.val (.ref a1), .val (.ref a2), .val (.int (2 : Int32))] [(.int (2 : Int32)), (.ref a2), (.int (99 : Int32))])) rfl rfl (hb hby d10_20) _ ?_
    refine XS.icmpYes X0.here hx rfl (pc0 := 21) (pc' := 26) rfl (hb hby d10_21) rfl (teq ((by decide : (99 : Int32) = (99 : Int32)) : (99 : Int32) = (99 : Int32))).1 (by decide) (by decide) ?_
    refine XS.iinc X0.here hx rfl (hb hby d10_26) rfl (l' := #[.val (.ref a1), .val (.ref a2), .val (.int (3 : Int32))]) rfl ?_
    refine XS.goto X0.here hx rfl (pc0 := 29) (pc' := 9) rfl (hb hby d10_29) (by decide) (by decide) ?_
    refine XS.iloadN X0.here hx rfl (hb hby d10_9) rfl ?_
    show Steps p.tables e below (s₁.setTop (mkF m 10 #[.val (.ref a1), .val (.ref a2), .val (.int (3 : Int32))] [(.int (3 : Int32))])) _
    refine XS.aloadN X0.here hx rfl (hb hby d10_10) rfl rfl ?_
    refine X0.arraylength hx (by rw [e0]; exact Ar4.1) (State.isArrayOf_alike hZ.alike Ar4.2.1) (g := (mkF m 11 #[.val (.ref a1), .val (.ref a2), .val (.int (3 : Int32))] [(.ref a1), (.int (3 : Int32))])) rfl rfl (hb hby d10_11) _ ?_
    show Steps p.tables e below (s₁.setTop (mkF m 12 #[.val (.ref a1), .val (.ref a2), .val (.int (3 : Int32))] [(.int cl4.slots.size.toInt32), (.int (3 : Int32))])) _
    rw [len_of S4 M4]
    refine XS.icmpYes X0.here hx rfl (pc0 := 12) (pc' := 32) rfl (hb hby d10_12) rfl (flt ((by decide : ¬ ((3 : Int32) < (3 : Int32))) : ¬ ((3 : Int32) < (3 : Int32)))).2.1 (by decide) (by decide) ?_
    refine XS.iconst X0.here hx rfl (hb hby d10_32) ?_
    exact retN X0 hx (t := .boolean) hret (by simp) (hb hby d10_33) hr
-- java/lang/String.equals(Ljava/lang/Object;)Z
abbrev Rm18 : Room := { frames := 1, cells := 0, slots := 0, locals := 14 }
def Q18 (Z : State) (a1 : Addr) (a2 : Addr) (p5 : Int32) (a10 : Addr) (a12 : Addr) (k14 : ClassId) (k15 : ClassId) (h0 : Heap) (n0 : Nat) (v : Option Value) (h : Heap) (L : List Loc) : Prop := v = some (.int (1 : Int32)) ∧ Fr n0 L ∧ h = h0
theorem ef18 (a1 : Addr) (a2 : Addr) (m : MethodId) : entryFrame m #[(.ref a1), (.ref a2)] 3 = mkF m 0 #[.val (.ref a1), .val (.ref a2), .unset] [] := by first | (simp [entryFrame, mkF, argsToLocals, Value.category]; done) | rfl
theorem rm18 (l : Launch) (Z : State) (a0 : Array Value) (hw : ∀ d ∈ tables_1, d.before a0 Z = true) (ws : List Jvm.Cond) (a1 : Addr) (a2 : Addr) (p5 : Int32) (a10 : Addr) (a12 : Addr) (k14 : ClassId) (k15 : ClassId) (h0 : Heap) (n0 : Nat) (Z0 : n0 ≤ h0.size) (ne_a1_a2 : a1 ≠ a2) (E_a2 : Exa Z h0 a2 "java/lang/String") (S_COMPACT_STRINGS : Sta Z Z.heap "java/lang/String" "COMPACT_STRINGS" "Z" (.int p5)) (Od0 : Old Z n0 h0) (c7 : ¬ (p5 = (0 : Int32))) (F_coder_a1 : Fld Z h0 a1 "java/lang/String" "coder" "B" (.int (0 : Int32))) (F_coder_a2 : Fld Z h0 a2 "java/lang/String" "coder" "B" (.int (0 : Int32))) (F_value_a1 : Fld Z h0 a1 "java/lang/String" "value" "[B" (.ref a10)) (F_value_a2 : Fld Z h0 a2 "java/lang/String" "value" "[B" (.ref a12)) (V_a10 : Arv Z h0 a10 k14 .byte (3 : Int32) [(.int (104 : Int32)), (.int (50 : Int32)), (.int (99 : Int32))] (.int (0 : Int32))) (V_a12 : Arv Z h0 a12 k15 .byte (3 : Int32) [(.int (104 : Int32)), (.int (50 : Int32)), (.int (99 : Int32))] (.int (0 : Int32))) :
    OwnMet l Z y_7 jdk_42_method_66_code 3 (some .boolean) ws Rm18 #[(.ref a1), (.ref a2)] h0 (Q18 Z a1 a2 p5 a10 a12 k14 k15 h0 n0) := by
  refine own_body (plainFor_of_name pn_1) (ef18 a1 a2) ?_
  intro p e s m below meth c s₁ hx hby hml hown hnm hret hZ X0 e0
  have N0 := Fr.nil n0
  obtain ⟨T3, X3, e3, st3⟩ := instY X0 hx hZ hown (w_58 hw) e0 (Ins.self E_a2) (g := (mkF m 8 #[.val (.ref a1), .val (.ref a2), .unset] [(.ref a2)])) rfl rfl (hb hby d9_8)
  obtain ⟨T4, X4, e4, st4⟩ := castY X3 hx hZ hown (w_58 hw) e3 (Ins.self E_a2) (g := (mkF m 15 #[.val (.ref a1), .val (.ref a2), .unset] [(.ref a2)])) rfl rfl (hb hby d9_15)
  obtain ⟨T6, X6, e6, st6⟩ := getS2 X4 hx hZ hown (host := "") (Or.inl (w_14 hw)) Via.refl e4 (S_COMPACT_STRINGS.ext Od0.2) (g := (mkF m 19 #[.val (.ref a1), .val (.ref a2), .val (.ref a2)] [])) rfl (hb hby d9_19)
  obtain ⟨T8, X8, e8, st8⟩ := getF X6 hx hZ hown (host := "") (Or.inl (w_26 hw)) Via.refl e6 F_coder_a1 (g := (mkF m 26 #[.val (.ref a1), .val (.ref a2), .val (.ref a2)] [(.ref a1)])) rfl rfl (hb hby d9_26)
  obtain ⟨T9, X9, e9, st9⟩ := getF X8 hx hZ hown (host := "") (Or.inl (w_26 hw)) Via.refl e8 F_coder_a2 (g := (mkF m 30 #[.val (.ref a1), .val (.ref a2), .val (.ref a2)] [(.ref a2), (.int (0 : Int32))])) rfl rfl (hb hby d9_30)
  obtain ⟨T11, X11, e11, st11⟩ := getF X9 hx hZ hown (host := "") (Or.inl (w_28 hw)) Via.refl e9 F_value_a1 (g := (mkF m 37 #[.val (.ref a1), .val (.ref a2), .val (.ref a2)] [(.ref a1)])) rfl rfl (hb hby d9_37)
  obtain ⟨T13, X13, e13, st13⟩ := getF X11 hx hZ hown (host := "") (Or.inl (w_28 hw)) Via.refl e11 F_value_a2 (g := (mkF m 41 #[.val (.ref a1), .val (.ref a2), .val (.ref a2)] [(.ref a2), (.ref a10)])) rfl rfl (hb hby d9_41)
  obtain ⟨_, T16, L16, X16, hQ16, st16⟩ := own_callS X13 hx hZ hown (y := y_6) (w_59 hw) (w_60 hw) (w_61 hw) (w_62 hw) (rm17 l Z a0 hw [] a10 a12 k14 k15 h0 n0 Z0 V_a10 V_a12) e13 (Ls := #[.val (.ref a1), .val (.ref a2), .val (.ref a2)]) (by rw [hml]; rfl) (argsL := [(.ref a10), (.ref a12)]) (rest := []) (lenOf pd_6 rfl) (hb hby d9_44) (W := 0)
  obtain ⟨rfl, Nq16, e16⟩ := hQ16
  have N16 := Fr.app N0 Nq16
  refine ⟨T16, _, _, _, (some (.int (1 : Int32))), X16, nofun, by decide, by decide, ?_, fun fs hr => ?_⟩
  · show Q18 Z a1 a2 p5 a10 a12 k14 k15 h0 n0 _ T16.heap _
    rw [e16]
    exact ⟨rfl, N16, rfl⟩
  · show Steps p.tables e below (s₁.setTop (mkF m 0 #[.val (.ref a1), .val (.ref a2), .unset] [])) _
    refine XS.aloadN X0.here hx rfl (hb hby d9_0) rfl rfl ?_
    refine XS.aloadN X0.here hx rfl (hb hby d9_1) rfl rfl ?_
    refine Jvm.RoadKit.acmp (g := (mkF m 2 #[.val (.ref a1), .val (.ref a2), .unset] [(.ref a2), (.ref a1)])) X0 hx rfl rfl rfl (pc0 := 2) (pc' := 7) (same := false) rfl (hb hby d9_2) rfl (decide_eq_false fun q => ne_a1_a2 (Value.ref.inj q)) (by decide) (by decide) ?_
    refine XS.aloadN X0.here hx rfl (hb hby d9_7) rfl rfl ?_
    refine st3 _ ?_
    refine XS.ifNo X3.here hx rfl (hb hby d9_11) rfl ((if0 _ _).trans (feq ((by decide : ¬ ((1 : Int32) = (0 : Int32))) : ¬ ((1 : Int32) = (0 : Int32)))).1) ?_
    refine XS.aloadN X3.here hx rfl (hb hby d9_14) rfl rfl ?_
    refine st4 _ ?_
    refine XS.astoreN X4.here hx rfl (hb hby d9_18) rfl rfl (l' := #[.val (.ref a1), .val (.ref a2), .val (.ref a2)]) rfl ?_
    refine st6 _ ?_
    refine XS.ifNo X6.here hx rfl (hb hby d9_22) rfl ((if0 _ _).trans (feq (c7 : ¬ (p5 = (0 : Int32)))).1) ?_
    refine XS.aloadN X6.here hx rfl (hb hby d9_25) rfl rfl ?_
    show Steps p.tables e below (T6.setTop (mkF m 26 #[.val (.ref a1), .val (.ref a2), .val (.ref a2)] [(.ref a1)])) _
    refine st8 _ ?_
    refine XS.aloadN X8.here hx rfl (hb hby d9_29) rfl rfl ?_
    refine st9 _ ?_
    refine XS.icmpNo X9.here hx rfl (hb hby d9_33) rfl (teq ((by decide : (0 : Int32) = (0 : Int32)) : (0 : Int32) = (0 : Int32))).2 ?_
    refine XS.aloadN X9.here hx rfl (hb hby d9_36) rfl rfl ?_
    refine st11 _ ?_
    refine XS.aloadN X11.here hx rfl (hb hby d9_40) rfl rfl ?_
    refine st13 _ ?_
    refine st16 _ ?_
    refine XS.ifNo X16.here hx rfl (hb hby d9_47) rfl ((if0 _ _).trans (feq ((by decide : ¬ ((1 : Int32) = (0 : Int32))) : ¬ ((1 : Int32) = (0 : Int32)))).1) ?_
    refine XS.iconst X16.here hx rfl (hb hby d9_50) ?_
    refine XS.goto X16.here hx rfl (pc0 := 51) (pc' := 55) rfl (hb hby d9_51) (by decide) (by decide) ?_
    show Steps p.tables e below (T16.setTop (mkF m 55 #[.val (.ref a1), .val (.ref a2), .val (.ref a2)] [(.int (1 : Int32))])) _
    exact retN X16 hx (t := .boolean) hret (by simp) (hb hby d9_55) hr
-- com/example/chickadee/chickadee/server/SbiHttp.read(Ljava/lang/String;)Lcom/example/chickadee/chickadee/server/SbiHttp;
abbrev Rm19 : Room := { frames := 2, cells := 1, slots := 2, locals := 28 }
def Q19 (Z : State) (a1 : Addr) (a2 : Addr) (a3 : Addr) (a4 : Addr) (k5 : ClassId) (a9 : Addr) (p14 : Int32) (a18 : Addr) (a20 : Addr) (k22 : ClassId) (k24 : ClassId) (h0 : Heap) (n0 : Nat) (v : Option Value) (h : Heap) (L : List Loc) : Prop := v = some (.ref a3) ∧ Fr n0 L ∧ Keep h0 h []
theorem ef19 (a1 : Addr) (m : MethodId) : entryFrame m #[(.ref a1)] 5 = mkF m 0 #[.val (.ref a1), .unset, .unset, .unset, .unset] [] := by first | (simp [entryFrame, mkF, argsToLocals, Value.category]; done) | rfl
theorem rm19 (l : Launch) (Z : State) (a0 : Array Value) (hw : ∀ d ∈ tables_1, d.before a0 Z = true) (ws : List Jvm.Cond) (a1 : Addr) (a2 : Addr) (a3 : Addr) (a4 : Addr) (k5 : ClassId) (a9 : Addr) (p14 : Int32) (a18 : Addr) (a20 : Addr) (k22 : ClassId) (k24 : ClassId) (h0 : Heap) (n0 : Nat) (Z0 : n0 ≤ h0.size) (S__VALUES : Sta Z Z.heap "com/example/chickadee/chickadee/server/SbiHttp" "$VALUES" "[Lcom/example/chickadee/chickadee/server/SbiHttp;" (.ref a2)) (Od0 : Old Z n0 h0) (V_a2 : Arv Z h0 a2 k5 (.object "com/example/chickadee/chickadee/server/SbiHttp") (2 : Int32) [(.ref a3), (.ref a4)] .null) (E_a2 : Exa Z h0 a2 "[Lcom/example/chickadee/chickadee/server/SbiHttp;") (F_option_a3 : Fld Z h0 a3 "com/example/chickadee/chickadee/server/SbiHttp" "option" "Ljava/lang/String;" (.ref a9)) (E_a9 : Exa Z h0 a9 "java/lang/String") (ne_a9_a1 : a9 ≠ a1) (E_a1 : Exa Z h0 a1 "java/lang/String") (S_COMPACT_STRINGS : Sta Z Z.heap "java/lang/String" "COMPACT_STRINGS" "Z" (.int p14)) (c15 : ¬ (p14 = (0 : Int32))) (F_coder_a9 : Fld Z h0 a9 "java/lang/String" "coder" "B" (.int (0 : Int32))) (F_coder_a1 : Fld Z h0 a1 "java/lang/String" "coder" "B" (.int (0 : Int32))) (F_value_a9 : Fld Z h0 a9 "java/lang/String" "value" "[B" (.ref a18)) (F_value_a1 : Fld Z h0 a1 "java/lang/String" "value" "[B" (.ref a20)) (V_a18 : Arv Z h0 a18 k22 .byte (3 : Int32) [(.int (104 : Int32)), (.int (50 : Int32)), (.int (99 : Int32))] (.int (0 : Int32))) (V_a20 : Arv Z h0 a20 k24 .byte (3 : Int32) [(.int (104 : Int32)), (.int (50 : Int32)), (.int (99 : Int32))] (.int (0 : Int32))) :
    OwnMet l Z y_8 prog_70_method_4_code 5 (some (.object "com/example/chickadee/chickadee/server/SbiHttp")) ws Rm19 #[(.ref a1)] h0 (Q19 Z a1 a2 a3 a4 k5 a9 p14 a18 a20 k22 k24 h0 n0) := by
  refine own_body (plainFor_of_name pn_2) (ef19 a1) ?_
  intro p e s m below meth c s₁ hx hby hml hown hnm hret hZ X0 e0
  have N0 := Fr.nil n0
  obtain ⟨_, T6, L6, X6, hQ6, st6⟩ := own_callS X0 hx hZ hown (y := y_5) (w_34 hw) (w_35 hw) (w_32 hw) (w_36 hw) (rm6 l Z a0 hw [] a2 a3 a4 k5 h0 n0 Z0 S__VALUES Od0 V_a2 E_a2) e0 (Ls := #[.val (.ref a1), .unset, .unset, .unset, .unset]) (by rw [hml]; rfl) (argsL := []) (rest := []) (lenOf pd_5 rfl) (hb hby d7_0) (W := 0)
  obtain ⟨b6_b6, rfl, Nq6, K6, o6_0, o6_1, o6_2⟩ := hQ6
  have N6 := Fr.app N0 Nq6
  have s0 := K6.1
  obtain ⟨cl7, Ar7, q7, S7, M7, Hs7, G7⟩ := id o6_2
  have hin8 : ¬ ((0 : Int32) < 0 ∨ cl7.slots.size ≤ ((0 : Int32)).toNatClampNeg) := inb_of S7 ⟨(by decide : ¬ ((0 : Int32) < (0 : Int32))), (by decide : (0 : Int32) < (2 : Int32))⟩
  have Fl10 := (F_option_a3.keep K6 nin0)
  obtain ⟨T11, X11, e11, st11⟩ := getF X6 hx hZ hown (host := "") (Or.inl (w_51 hw)) Via.refl rfl Fl10 (g := (mkF m 21 #[.val (.ref a1), .val (.ref b6_b6), .val (.int (2 : Int32)), .val (.int (0 : Int32)), .val (.ref a3)] [(.ref a3)])) rfl rfl (hb hby d7_21)
  have Ex12 := (E_a9.keep K6)
  have Ex13 := (E_a1.keep K6)
  have Od1 : Old Z n0 T6.heap := Od0.keep K6 all0
  have Fl16 := (F_coder_a9.keep K6 nin0)
  have Fl17 := (F_coder_a1.keep K6 nin0)
  have Fl19 := (F_value_a9.keep K6 nin0)
  have Fl21 := (F_value_a1.keep K6 nin0)
  have Va23 := (V_a18.keep K6 nin0)
  have Va25 := (V_a20.keep K6 nin0)
  have z1 := Nat.le_trans Z0 s0
  obtain ⟨_, T26, L26, X26, hQ26, st26⟩ := own_virtual X11 hx hZ hown (y := y_7) (z := y_7) Ex12 (w_53 hw) (w_54 hw) (notFace_of_selects (args := #[]) (mvT hZ (w_56 hw))) (w_56 hw) (w_55 hw) (w_3 hw) (w_57 hw) (rm18 l Z a0 hw [] a9 a1 p14 a18 a20 k22 k24 T6.heap n0 z1 ne_a9_a1 Ex13 S_COMPACT_STRINGS Od1 c15 Fl16 Fl17 Fl19 Fl21 Va23 Va25) e11 (Ls := #[.val (.ref a1), .val (.ref b6_b6), .val (.int (2 : Int32)), .val (.int (0 : Int32)), .val (.ref a3)]) (by rw [hml]; rfl) (argsL := [(.ref a1)]) (rest := []) (lenOf pd_7 rfl) (hb hby d7_25) (W := 0)
  obtain ⟨rfl, Nq26, e26⟩ := hQ26
  have N26 := Fr.app N6 Nq26
  have Kp0 : Keep h0 T6.heap [] := (Keep.refl h0 []).trans K6 all0
  refine ⟨T26, _, _, _, (some (.ref a3)), X26, nofun, by decide, by decide, ?_, fun fs hr => ?_⟩
  · show Q19 Z a1 a2 a3 a4 k5 a9 p14 a18 a20 k22 k24 h0 n0 _ T26.heap _
    rw [e26]
    exact ⟨rfl, N26, Kp0⟩
  · show Steps p.tables e below (s₁.setTop (mkF m 0 #[.val (.ref a1), .unset, .unset, .unset, .unset] [])) _
    refine st6 _ ?_
    refine XS.astoreN X6.here hx rfl (hb hby d7_3) rfl rfl (l' := #[.val (.ref a1), .val (.ref b6_b6), .unset, .unset, .unset]) rfl ?_
    refine XS.aloadN X6.here hx rfl (hb hby d7_4) rfl rfl ?_
    refine X6.arraylength hx (Ar7.1) (State.isArrayOf_alike hZ.alike Ar7.2.1) (g := (mkF m 5 #[.val (.ref a1), .val (.ref b6_b6), .unset, .unset, .unset] [(.ref b6_b6)])) rfl rfl (hb hby d7_5) _ ?_
    show Steps p.tables e below (T6.setTop (mkF m 6 #[.val (.ref a1), .val (.ref b6_b6), .unset, .unset, .unset] [(.int cl7.slots.size.toInt32)])) _
    rw [len_of S7 M7]
    refine XS.istoreN X6.here hx rfl (hb hby d7_6) rfl (l' := #[.val (.ref a1), .val (.ref b6_b6), .val (.int (2 : Int32)), .unset, .unset]) rfl ?_
    refine XS.iconst X6.here hx rfl (hb hby d7_7) ?_
    refine XS.istoreN X6.here hx rfl (hb hby d7_8) rfl (l' := #[.val (.ref a1), .val (.ref b6_b6), .val (.int (2 : Int32)), .val (.int (0 : Int32)), .unset]) rfl ?_
    refine XS.iloadN X6.here hx rfl (hb hby d7_9) rfl ?_
    refine XS.iloadN X6.here hx rfl (hb hby d7_10) rfl ?_
    refine XS.icmpNo X6.here hx rfl (hb hby d7_11) rfl (tlt ((by decide : (0 : Int32) < (2 : Int32)) : (0 : Int32) < (2 : Int32))).2.1 ?_
    refine XS.aloadN X6.here hx rfl (hb hby d7_14) rfl rfl ?_
    refine XS.iloadN X6.here hx rfl (hb hby d7_15) rfl ?_
    refine X6.aaload hx (j := (0 : Int32)) (v := (.ref a3)) (Ar7.1) (State.isArrayOf_alike hZ.alike Ar7.2.1) rfl Ar7.2.2 hin8 (Has.at Hs7 hin8 rfl) (g := (mkF m 16 #[.val (.ref a1), .val (.ref b6_b6), .val (.int (2 : Int32)), .val (.int (0 : Int32)), .unset] [(.int (0 : Int32)), (.ref b6_b6)])) rfl rfl (hb hby d7_16) _ ?_
    refine XS.astore X6.here hx rfl (hb hby d7_17) rfl rfl (l' := #[.val (.ref a1), .val (.ref b6_b6), .val (.int (2 : Int32)), .val (.int (0 : Int32)), .val (.ref a3)]) rfl ?_
    refine XS.aload X6.here hx rfl (hb hby d7_19) rfl rfl ?_
    show Steps p.tables e below (T6.setTop (mkF m 21 #[.val (.ref a1), .val (.ref b6_b6), .val (.int (2 : Int32)), .val (.int (0 : Int32)), .val (.ref a3)] [(.ref a3)])) _
    refine st11 _ ?_
    refine XS.aloadN X11.here hx rfl (hb hby d7_24) rfl rfl ?_
    refine st26 _ ?_
    refine XS.ifNo X26.here hx rfl (hb hby d7_28) rfl ((if0 _ _).trans (feq ((by decide : ¬ ((1 : Int32) = (0 : Int32))) : ¬ ((1 : Int32) = (0 : Int32)))).1) ?_
    refine XS.aload X26.here hx rfl (hb hby d7_31) rfl rfl ?_
    exact retOut X26 hx hret rfl (Or.inr (Or.inr (Or.inr (Or.inr ⟨rfl, rfl, rfl⟩)))) (hb hby d7_33) hr
theorem w_64 {a0 : Array Value} {Z : State} (hw : ∀ d ∈ tables_1, d.before a0 Z = true) : Jvm.Cond.before (Jvm.Cond.fieldLink "com/example/chickadee/chickadee/server/SbiHttpReadPinLaw" (18 : Nat) "com/example/chickadee/chickadee/server/SbiHttp" "H2C" "Lcom/example/chickadee/chickadee/server/SbiHttp;") a0 Z = true := hw _ (List.mem_of_getElem? (i := 64) rfl)
theorem rm0_1 (l : Launch) (Z : State) (a0 : Array Value) (hw : ∀ d ∈ tables_1, d.before a0 Z = true) (ws : List Jvm.Cond) (p1 : Int32) (sa1 : Addr) (sa2 : Addr) (sa3 : Addr) (sa4 : Addr) (sa5 : Addr) (sa6 : Addr) (sa7 : Addr) (sr8 : Value) (si9 : Int32) (sk14 : ClassId) (sk19 : ClassId) (sk22 : ClassId) (h0 : Heap) (n0 : Nat) (Z0 : n0 ≤ h0.size) (Od0 : Old Z n0 h0) (R_sr8 : sr8.isRef = true) (nc12 : ¬ (si9 = (0 : Int32))) (S13__VALUES : Sta Z Z.heap "com/example/chickadee/chickadee/server/SbiHttp" "$VALUES" "[Lcom/example/chickadee/chickadee/server/SbiHttp;" (.ref sa1)) (E_sa1 : Exa Z h0 sa1 "[Lcom/example/chickadee/chickadee/server/SbiHttp;") (V_sa1 : Arv Z h0 sa1 sk14 (.object "com/example/chickadee/chickadee/server/SbiHttp") (2 : Int32) [(.ref sa2), (.ref sa3)] .null) (S15_H2C : Sta Z Z.heap "com/example/chickadee/chickadee/server/SbiHttp" "H2C" "Lcom/example/chickadee/chickadee/server/SbiHttp;" (.ref sa2)) (E_sa2 : Exa Z h0 sa2 "com/example/chickadee/chickadee/server/SbiHttp") (S16_HTTP1 : Sta Z Z.heap "com/example/chickadee/chickadee/server/SbiHttp" "HTTP1" "Lcom/example/chickadee/chickadee/server/SbiHttp;" (.ref sa3)) (E_sa3 : Exa Z h0 sa3 "com/example/chickadee/chickadee/server/SbiHttp") (F17_option : Fld Z h0 sa2 "com/example/chickadee/chickadee/server/SbiHttp" "option" "Ljava/lang/String;" (.ref sa4)) (E_sa4 : Exa Z h0 sa4 "java/lang/String") (F18_value : Fld Z h0 sa4 "java/lang/String" "value" "[B" (.ref sa5)) (V_sa5 : Arv Z h0 sa5 sk19 .byte (3 : Int32) [(.int (104 : Int32)), (.int (50 : Int32)), (.int (99 : Int32))] (.int (0 : Int32))) (F20_option : Fld Z h0 sa3 "com/example/chickadee/chickadee/server/SbiHttp" "option" "Ljava/lang/String;" (.ref sa6)) (E_sa6 : Exa Z h0 sa6 "java/lang/String") (F21_value : Fld Z h0 sa6 "java/lang/String" "value" "[B" (.ref sa7)) (V_sa7 : Arv Z h0 sa7 sk22 .byte (5 : Int32) [(.int (104 : Int32)), (.int (116 : Int32)), (.int (116 : Int32)), (.int (112 : Int32)), (.int (49 : Int32))] (.int (0 : Int32))) (S23_SIOOBE_FORMATTER : Sta Z Z.heap "jdk/internal/util/Preconditions" "SIOOBE_FORMATTER" "Ljava/util/function/BiFunction;" sr8) (S24_COMPACT_STRINGS : Sta Z Z.heap "java/lang/String" "COMPACT_STRINGS" "Z" (.int si9)) (F25_coder : Fld Z h0 sa4 "java/lang/String" "coder" "B" (.int (0 : Int32))) (F26_coder : Fld Z h0 sa6 "java/lang/String" "coder" "B" (.int (0 : Int32))) (cc1 : ¬ ((p1 &&& (1 : Int32)) = (0 : Int32))) :
    OwnMet l Z x code maxLocals ret ws room_1 #[(.int p1)] h0 (Q0 n0) := by
  refine own_body (plainFor_of_name pn_4) (ef0 p1) ?_
  intro p e s m below meth c s₁ hx hby hml hown hnm hret hZ X0 e0
  have N0 := Fr.nil n0
  obtain ⟨T1, h1, k1, X1, e1, E1, A1, B1, st1⟩ := newPE (aty := .char) X0 hx hZ (w_0 hw) e0 (g := (mkF m 17 #[.val (.int p1), .val (.int (1 : Int32)), .unset] [(.int (3 : Int32))])) rfl (hb hby at_17) rfl (by decide) (cap := 3) (by decide) (by decide) (by decide) (by decide) (ad := "[C") (by decide)
  obtain ⟨b1, g1⟩ : ∃ z, z = h0.size := ⟨_, rfl⟩
  rw [← g1] at A1 B1 st1
  have s0 := E1.1
  have Vn1 : Arv Z h1 b1 k1 .char (3 : Int32) [(.int (0 : Int32)), (.int (0 : Int32)), (.int (0 : Int32))] (.int (0 : Int32)) := (Arv.new A1 (by decide)).pad (pad_rep [] (.int (0 : Int32)) 3)
  obtain ⟨cl2, Ar2, q2, S2, M2, Hs2, G2⟩ := id Vn1
  have hin3 : ¬ ((0 : Int32) < 0 ∨ cl2.slots.size ≤ ((0 : Int32)).toNatClampNeg) := inb_of S2 ⟨(by decide : ¬ ((0 : Int32) < (0 : Int32))), (by decide : (0 : Int32) < (3 : Int32))⟩
  obtain ⟨T4, h4, X4, e4, W4, st4⟩ := stC X1 hx hZ e1 Ar2 (j := (0 : Int32)) hin3 (g := (mkF m 23 #[.val (.int p1), .val (.int (1 : Int32)), .unset] [(.int (104 : Int32)), (.int (0 : Int32)), (.ref b1), (.ref b1)])) rfl rfl (hb hby at_23)
  have s1 := (Keep.of_wr W4).1
  have g_b1 : n0 ≤ b1 := Nat.le_trans Z0 (Nat.le_of_eq g1.symm)
  have N4 := Fr.snoc X4 N0 g_b1
  have Vs4 : Arv Z h4 b1 k1 .char (3 : Int32) [(.int (104 : Int32)), (.int (0 : Int32)), (.int (0 : Int32))] (.int (0 : Int32)) := Arv.set Ar2 q2 S2 M2 Hs2 G2 (fits_nar_char _) W4 0 rfl (Nat.le_of_ble_eq_true rfl)
  obtain ⟨cl5, Ar5, q5, S5, M5, Hs5, G5⟩ := id Vs4
  have hin6 : ¬ ((1 : Int32) < 0 ∨ cl5.slots.size ≤ ((1 : Int32)).toNatClampNeg) := inb_of S5 ⟨(by decide : ¬ ((1 : Int32) < (0 : Int32))), (by decide : (1 : Int32) < (3 : Int32))⟩
  obtain ⟨T7, h7, X7, e7, W7, st7⟩ := stC X4 hx hZ e4 Ar5 (j := (1 : Int32)) hin6 (g := (mkF m 28 #[.val (.int p1), .val (.int (1 : Int32)), .unset] [(.int (50 : Int32)), (.int (1 : Int32)), (.ref b1), (.ref b1)])) rfl rfl (hb hby at_28)
  have s2 := (Keep.of_wr W7).1
  have N7 := Fr.snoc X7 N4 g_b1
  have Vs7 : Arv Z h7 b1 k1 .char (3 : Int32) [(.int (104 : Int32)), (.int (50 : Int32)), (.int (0 : Int32))] (.int (0 : Int32)) := Arv.set Ar5 q5 S5 M5 Hs5 G5 (fits_nar_char _) W7 1 rfl (Nat.le_of_ble_eq_true rfl)
  obtain ⟨cl8, Ar8, q8, S8, M8, Hs8, G8⟩ := id Vs7
  have hin9 : ¬ ((2 : Int32) < 0 ∨ cl8.slots.size ≤ ((2 : Int32)).toNatClampNeg) := inb_of S8 ⟨(by decide : ¬ ((2 : Int32) < (0 : Int32))), (by decide : (2 : Int32) < (3 : Int32))⟩
  obtain ⟨T10, h10, X10, e10, W10, st10⟩ := stC X7 hx hZ e7 Ar8 (j := (2 : Int32)) hin9 (g := (mkF m 33 #[.val (.int p1), .val (.int (1 : Int32)), .unset] [(.int (99 : Int32)), (.int (2 : Int32)), (.ref b1), (.ref b1)])) rfl rfl (hb hby at_33)
  have s3 := (Keep.of_wr W10).1
  have N10 := Fr.snoc X10 N7 g_b1
  have Vs10 : Arv Z h10 b1 k1 .char (3 : Int32) [(.int (104 : Int32)), (.int (50 : Int32)), (.int (99 : Int32))] (.int (0 : Int32)) := Arv.set Ar8 q8 S8 M8 Hs8 G8 (fits_nar_char _) W10 2 rfl (Nat.le_of_ble_eq_true rfl)
  obtain ⟨T11, h11, X11, e11, E11, A11, D11, -, st11⟩ := newO X10 hx hZ hown (w_1 hw) (w_2 hw) (w_3 hw) e10 (g := (mkF m 35 #[.val (.int p1), .val (.int (1 : Int32)), .val (.ref b1)] [])) rfl (hb hby at_35) (by decide) (by decide)
  obtain ⟨b11, g11⟩ : ∃ z, z = h10.size := ⟨_, rfl⟩
  rw [← g11] at A11 D11 st11
  have s4 := E11.1
  have Fn11_coder : Fld Z h11 b11 "java/lang/String" "coder" "B" (.int (0 : Int32)) := D11 (Or.inr (w_27 hw)) (ty := .byte) (by decide)
  have Fn11_value : Fld Z h11 b11 "java/lang/String" "value" "[B" .null := D11 (Or.inr (w_29 hw)) (ty := (.array .byte)) (by decide)
  have Va12 := (Vs10.ext E11)
  have Od1 : Old Z n0 h1 := Od0.ext E1
  have Od2 : Old Z n0 h4 := Od1.wr W4 g_b1
  have Od3 : Old Z n0 h7 := Od2.wr W7 g_b1
  have Od4 : Old Z n0 h10 := Od3.wr W10 g_b1
  have Od5 : Old Z n0 h11 := Od4.ext E11
  have z4 := Nat.le_trans Z0 (Nat.le_trans (Nat.le_trans (Nat.le_trans s0 s1) s2) s3)
  have g_b11 : n0 ≤ b11 := Nat.le_trans z4 (Nat.le_of_eq g11.symm)
  have z5 := Nat.le_trans Z0 (Nat.le_trans (Nat.le_trans (Nat.le_trans (Nat.le_trans s0 s1) s2) s3) s4)
  obtain ⟨_, T13, L13, X13, hQ13, st13⟩ := own_special X11 hx hZ hown (y := y_4) (a := b11) (w_4 hw) (w_5 hw) (w_3 hw) (w_6 hw) (rm16 l Z a0 hw [] b11 b1 k1 si9 h11 n0 z5 Va12 S24_COMPACT_STRINGS Od5 nc12 Fn11_coder A11 g_b11 Fn11_value) e11 (Ls := #[.val (.int p1), .val (.int (1 : Int32)), .val (.ref b1)]) (by rw [hml]; rfl) (argsL := [(.ref b1)]) (rest := [(.ref b11)]) (lenOf pd_4 rfl) (hb hby at_40) (W := 1)
  obtain ⟨b13_b7_b8_b2, k13_k7_k8_k2, rfl, Nq13, K13, o13_0, o13_1, o13_2, o13_3, o13_4, o13_5⟩ := hQ13
  have N13 := Fr.app N10 Nq13
  have s5 := K13.1
  have Od6 : Old Z n0 T13.heap := Od5.keep K13 (allS g_b11 all0)
  have ne_sa1_b1 := Nat.ne_of_lt (Nat.lt_of_lt_of_le V_sa1.lt (Nat.le_of_eq g1.symm))
  have ne_sa1_b11 := Nat.ne_of_lt (Nat.lt_of_lt_of_le (Nat.lt_of_lt_of_le V_sa1.lt (Nat.le_trans (Nat.le_trans (Nat.le_trans s0 s1) s2) s3)) (Nat.le_of_eq g11.symm))
  have Va14 := ((((((V_sa1.ext E1).other W4 ne_sa1_b1).other W7 ne_sa1_b1).other W10 ne_sa1_b1).ext E11).keep K13 (ninS ne_sa1_b11 nin0))
  have Ex15 := ((((((E_sa1.ext E1).wr W4).wr W7).wr W10).ext E11).keep K13)
  have ne_sa2_b1 := Nat.ne_of_lt (Nat.lt_of_lt_of_le F17_option.lt (Nat.le_of_eq g1.symm))
  have ne_sa2_b11 := Nat.ne_of_lt (Nat.lt_of_lt_of_le (Nat.lt_of_lt_of_le F17_option.lt (Nat.le_trans (Nat.le_trans (Nat.le_trans s0 s1) s2) s3)) (Nat.le_of_eq g11.symm))
  have Fl16 := ((((((F17_option.ext E1).other W4 (Or.inl ne_sa2_b1)).other W7 (Or.inl ne_sa2_b1)).other W10 (Or.inl ne_sa2_b1)).ext E11).keep K13 (ninS ne_sa2_b11 nin0))
  have Ex17 := ((((((E_sa4.ext E1).wr W4).wr W7).wr W10).ext E11).keep K13)
  have ne_sa4_b11 := Nat.ne_of_lt (Nat.lt_of_lt_of_le (Nat.lt_of_lt_of_le F25_coder.lt (Nat.le_trans (Nat.le_trans (Nat.le_trans s0 s1) s2) s3)) (Nat.le_of_eq g11.symm))
  have ne_sa4_b1 := Nat.ne_of_lt (Nat.lt_of_lt_of_le F25_coder.lt (Nat.le_of_eq g1.symm))
  have Fl18 := ((((((F25_coder.ext E1).other W4 (Or.inl ne_sa4_b1)).other W7 (Or.inl ne_sa4_b1)).other W10 (Or.inl ne_sa4_b1)).ext E11).keep K13 (ninS ne_sa4_b11 nin0))
  have Fl19 := ((((((F18_value.ext E1).other W4 (Or.inl ne_sa4_b1)).other W7 (Or.inl ne_sa4_b1)).other W10 (Or.inl ne_sa4_b1)).ext E11).keep K13 (ninS ne_sa4_b11 nin0))
  have ne_sa5_b1 := Nat.ne_of_lt (Nat.lt_of_lt_of_le V_sa5.lt (Nat.le_of_eq g1.symm))
  have ne_sa5_b11 := Nat.ne_of_lt (Nat.lt_of_lt_of_le (Nat.lt_of_lt_of_le V_sa5.lt (Nat.le_trans (Nat.le_trans (Nat.le_trans s0 s1) s2) s3)) (Nat.le_of_eq g11.symm))
  have Va20 := ((((((V_sa5.ext E1).other W4 ne_sa5_b1).other W7 ne_sa5_b1).other W10 ne_sa5_b1).ext E11).keep K13 (ninS ne_sa5_b11 nin0))
  have z6 := Nat.le_trans Z0 (Nat.le_trans (Nat.le_trans (Nat.le_trans (Nat.le_trans (Nat.le_trans s0 s1) s2) s3) s4) s5)
  obtain ⟨_, T21, L21, X21, hQ21, st21⟩ := own_callS X13 hx hZ hown (y := y_8) (w_30 hw) (w_31 hw) (w_32 hw) (w_33 hw) (rm19 l Z a0 hw [] b11 sa1 sa2 sa3 sk14 sa4 si9 sa5 b13_b7_b8_b2 sk19 k13_k7_k8_k2 T13.heap n0 z6 S13__VALUES Od6 Va14 Ex15 Fl16 Ex17 ne_sa4_b11 o13_0 S24_COMPACT_STRINGS nc12 Fl18 o13_1 Fl19 o13_2 Va20 o13_5) rfl (Ls := #[.val (.int p1), .val (.int (1 : Int32)), .val (.ref b1)]) (by rw [hml]; rfl) (argsL := [(.ref b11)]) (rest := []) (lenOf pd_8 rfl) (hb hby at_43) (W := 0)
  obtain ⟨rfl, Nq21, K21⟩ := hQ21
  have N21 := Fr.app N13 Nq21
  have s6 := K21.1
  have Od7 : Old Z n0 T21.heap := Od6.keep K21 all0
  obtain ⟨T22, X22, e22, st22⟩ := getS2 X21 hx hZ hown (host := "") (Or.inl (w_64 hw)) Via.refl rfl (S15_H2C.ext Od7.2) (g := (mkF m 46 #[.val (.int p1), .val (.int (1 : Int32)), .val (.ref b1)] [(.ref sa2)])) rfl (hb hby at_46)
  refine ⟨T22, _, _, _, (some (.int (1 : Int32))), X22, nofun, by decide, by decide, ?_, fun fs hr => ?_⟩
  · show Q0 n0 _ T22.heap _
    rw [e22]
    exact ⟨rfl, N21⟩
  · show Steps p.tables e below (s₁.setTop (mkF m 0 #[.val (.int p1), .unset, .unset] [])) _
    refine XS.iloadN X0.here hx rfl (hb hby at_0) rfl ?_
    refine XS.iconst X0.here hx rfl (hb hby at_1) ?_
    refine XS.iand X0.here hx rfl (hb hby at_2) rfl ?_
    refine XS.ifNo X0.here hx rfl (hb hby at_3) rfl ((if0 _ _).trans (feq (cc1 : ¬ ((p1 &&& (1 : Int32)) = (0 : Int32)))).1) ?_
    refine XS.iconst X0.here hx rfl (hb hby at_6) ?_
    refine XS.goto X0.here hx rfl (pc0 := 7) (pc' := 11) rfl (hb hby at_7) (by decide) (by decide) ?_
    refine XS.istoreN X0.here hx rfl (hb hby at_11) rfl (l' := #[.val (.int p1), .val (.int (1 : Int32)), .unset]) rfl ?_
    refine XS.iloadN X0.here hx rfl (hb hby at_12) rfl ?_
    refine XS.ifNo X0.here hx rfl (hb hby at_13) rfl ((if0 _ _).trans (feq ((by decide : ¬ ((1 : Int32) = (0 : Int32))) : ¬ ((1 : Int32) = (0 : Int32)))).1) ?_
    refine XS.iconst X0.here hx rfl (hb hby at_16) ?_
    refine st1 _ ?_
    refine XS.dup X1.here hx rfl (hb hby at_19) rfl rfl ?_
    show Steps p.tables e below (T1.setTop (mkF m 20 #[.val (.int p1), .val (.int (1 : Int32)), .unset] [(.ref b1), (.ref b1)])) _
    refine XS.iconst X1.here hx rfl (hb hby at_20) ?_
    refine XS.bipush X1.here hx rfl (hb hby at_21) ?_
    refine st4 _ ?_
    refine XS.dup X4.here hx rfl (hb hby at_24) rfl rfl ?_
    refine XS.iconst X4.here hx rfl (hb hby at_25) ?_
    refine XS.bipush X4.here hx rfl (hb hby at_26) ?_
    refine st7 _ ?_
    refine XS.dup X7.here hx rfl (hb hby at_29) rfl rfl ?_
    refine XS.iconst X7.here hx rfl (hb hby at_30) ?_
    refine XS.bipush X7.here hx rfl (hb hby at_31) ?_
    refine st10 _ ?_
    refine XS.astoreN X10.here hx rfl (hb hby at_34) rfl rfl (l' := #[.val (.int p1), .val (.int (1 : Int32)), .val (.ref b1)]) rfl ?_
    show Steps p.tables e below (T10.setTop (mkF m 35 #[.val (.int p1), .val (.int (1 : Int32)), .val (.ref b1)] [])) _
    refine st11 _ ?_
    refine XS.dup X11.here hx rfl (hb hby at_38) rfl rfl ?_
    refine XS.aloadN X11.here hx rfl (hb hby at_39) rfl rfl ?_
    refine st13 _ ?_
    refine st21 _ ?_
    refine st22 _ ?_
    refine Jvm.RoadKit.acmp (g := (mkF m 49 #[.val (.int p1), .val (.int (1 : Int32)), .val (.ref b1)] [(.ref sa2), (.ref sa2)])) X22 hx rfl rfl rfl (pc0 := 49) (pc' := 52) (same := true) rfl (hb hby at_49) rfl (decide_eq_true rfl) (by decide) (by decide) ?_
    refine XS.iconst X22.here hx rfl (hb hby at_52) ?_
    refine XS.goto X22.here hx rfl (pc0 := 53) (pc' := 57) rfl (hb hby at_53) (by decide) (by decide) ?_
    exact retN X22 hx (t := .boolean) hret (by simp) (hb hby at_57) hr
theorem rm0 (l : Launch) (Z : State) (a0 : Array Value) (hw : ∀ d ∈ tables_1, d.before a0 Z = true) (ws : List Jvm.Cond) (p1 : Int32) (sa1 : Addr) (sa2 : Addr) (sa3 : Addr) (sa4 : Addr) (sa5 : Addr) (sa6 : Addr) (sa7 : Addr) (sr8 : Value) (si9 : Int32) (sk14 : ClassId) (sk19 : ClassId) (sk22 : ClassId) (h0 : Heap) (n0 : Nat) (Z0 : n0 ≤ h0.size) (Od0 : Old Z n0 h0) (R_sr8 : sr8.isRef = true) (nc12 : ¬ (si9 = (0 : Int32))) (S13__VALUES : Sta Z Z.heap "com/example/chickadee/chickadee/server/SbiHttp" "$VALUES" "[Lcom/example/chickadee/chickadee/server/SbiHttp;" (.ref sa1)) (E_sa1 : Exa Z h0 sa1 "[Lcom/example/chickadee/chickadee/server/SbiHttp;") (V_sa1 : Arv Z h0 sa1 sk14 (.object "com/example/chickadee/chickadee/server/SbiHttp") (2 : Int32) [(.ref sa2), (.ref sa3)] .null) (S15_H2C : Sta Z Z.heap "com/example/chickadee/chickadee/server/SbiHttp" "H2C" "Lcom/example/chickadee/chickadee/server/SbiHttp;" (.ref sa2)) (E_sa2 : Exa Z h0 sa2 "com/example/chickadee/chickadee/server/SbiHttp") (S16_HTTP1 : Sta Z Z.heap "com/example/chickadee/chickadee/server/SbiHttp" "HTTP1" "Lcom/example/chickadee/chickadee/server/SbiHttp;" (.ref sa3)) (E_sa3 : Exa Z h0 sa3 "com/example/chickadee/chickadee/server/SbiHttp") (F17_option : Fld Z h0 sa2 "com/example/chickadee/chickadee/server/SbiHttp" "option" "Ljava/lang/String;" (.ref sa4)) (E_sa4 : Exa Z h0 sa4 "java/lang/String") (F18_value : Fld Z h0 sa4 "java/lang/String" "value" "[B" (.ref sa5)) (V_sa5 : Arv Z h0 sa5 sk19 .byte (3 : Int32) [(.int (104 : Int32)), (.int (50 : Int32)), (.int (99 : Int32))] (.int (0 : Int32))) (F20_option : Fld Z h0 sa3 "com/example/chickadee/chickadee/server/SbiHttp" "option" "Ljava/lang/String;" (.ref sa6)) (E_sa6 : Exa Z h0 sa6 "java/lang/String") (F21_value : Fld Z h0 sa6 "java/lang/String" "value" "[B" (.ref sa7)) (V_sa7 : Arv Z h0 sa7 sk22 .byte (5 : Int32) [(.int (104 : Int32)), (.int (116 : Int32)), (.int (116 : Int32)), (.int (112 : Int32)), (.int (49 : Int32))] (.int (0 : Int32))) (S23_SIOOBE_FORMATTER : Sta Z Z.heap "jdk/internal/util/Preconditions" "SIOOBE_FORMATTER" "Ljava/util/function/BiFunction;" sr8) (S24_COMPACT_STRINGS : Sta Z Z.heap "java/lang/String" "COMPACT_STRINGS" "Z" (.int si9)) (F25_coder : Fld Z h0 sa4 "java/lang/String" "coder" "B" (.int (0 : Int32))) (F26_coder : Fld Z h0 sa6 "java/lang/String" "coder" "B" (.int (0 : Int32))) :
    OwnMet l Z x code maxLocals ret ws room_1 #[(.int p1)] h0 (Q0 n0) := by
  by_cases cc1 : (p1 &&& (1 : Int32)) = (0 : Int32)
  · exact rm0_0 l Z a0 hw ws p1 sa1 sa2 sa3 sa4 sa5 sa6 sa7 sr8 si9 sk14 sk19 sk22 h0 n0 Z0 Od0 R_sr8 nc12 S13__VALUES E_sa1 V_sa1 S15_H2C E_sa2 S16_HTTP1 E_sa3 F17_option E_sa4 F18_value V_sa5 F20_option E_sa6 F21_value V_sa7 S23_SIOOBE_FORMATTER S24_COMPACT_STRINGS F25_coder F26_coder cc1
  · exact rm0_1 l Z a0 hw ws p1 sa1 sa2 sa3 sa4 sa5 sa6 sa7 sr8 si9 sk14 sk19 sk22 h0 n0 Z0 Od0 R_sr8 nc12 S13__VALUES E_sa1 V_sa1 S15_H2C E_sa2 S16_HTTP1 E_sa3 F17_option E_sa4 F18_value V_sa5 F20_option E_sa6 F21_value V_sa7 S23_SIOOBE_FORMATTER S24_COMPACT_STRINGS F25_coder F26_coder cc1
theorem comes_1 {Post : Tables → Env → Array Value → State → Outcome → State → Prop} (hpost : ∀ tb e args s v u, (limb_1_1.after args s (.returned v) u = true ∧ limb_1_2.after args s (.returned v) u = true ∧ True) → FrameEnd s (.returned v) u (Jvm.fieldLocs frame_1_writes args s ++ Jvm.arrayLocs frame_1_arrays args s ++ Jvm.staticLocs frame_1_statics s) 16 128 → Post tb e args s (.returned v) u) :
    ArmFor flags0 classFile x code maxLocals ret World_1 tables_1 room_1 Calls_1 rest_1 Pre_1 Post := by
  intro l hfl _ _ p e ha hc hk s m args below hf hA hF happ hP
  obtain ⟨hcalls, hrest, hpre⟩ := hP
  obtain ⟨-, -, -, hnamed, -, -, -, hat⟩ := (Spec.applies_iff hf).mp happ
  obtain ⟨hg, hn⟩ := and_e (Cond.before_iff.mp (show (Jvm.Cond.and given_1 narrow_1).before args s = true from hpre))
  obtain ⟨hg0, hr0⟩ := and_e hg
  obtain ⟨w0, rfl⟩ : ∃ w0 : Value, args = #[w0] := by
    have hs : args.size = 1 := by simpa [Cond.value, given_1] using hg0
    obtain ⟨L⟩ := args
    match L, hs with
    | [w0], _ => exact ⟨w0, rfl⟩
  have hw := fun d (hd : d ∈ tables_1) => atoms_spec (ws := Jvm.Cond.code x code maxLocals ret :: tables_1) hat d (List.mem_cons_of_mem _ hd)
  have hfit : Fit s := fun {y c} hc i hi => by
    obtain ⟨ha, rfl⟩ := Array.getElem?_eq_some_iff.mp hc
    have q := List.all_eq_true.mp ((Array.all_eq_true_iff_forall_mem.mp hF) _ (Array.getElem_mem ha)) i (List.mem_range.mpr hi)
    simpa [Array.getElem?_eq_getElem hi] using q
  obtain ⟨hsets, hown0⟩ := atoms_of _ (rest_1_c_eq ▸ (show rest_1_c.before _ s = true from hrest))
  have hro := Cond.before_iff.mp hown0
  obtain ⟨p1, ei0⟩ := is_v hr0
  obtain rfl : w0 = (.int p1) := Option.some.inj ei0
  obtain ⟨hn_0, hm_0⟩ := and_e hn
  obtain ⟨hn_1, hm_1⟩ := and_e hm_0
  obtain ⟨hn_2, hm_2⟩ := and_e hm_1
  obtain ⟨hn_3, hm_3⟩ := and_e hm_2
  obtain ⟨hn_4, hm_4⟩ := and_e hm_3
  obtain ⟨hn_5, hm_5⟩ := and_e hm_4
  obtain ⟨hn_6, hm_6⟩ := and_e hm_5
  obtain ⟨hn_7, hm_7⟩ := and_e hm_6
  obtain ⟨hn_8, hm_8⟩ := and_e hm_7
  obtain ⟨hn_9, hm_9⟩ := and_e hm_8
  obtain ⟨hn_10, hm_10⟩ := and_e hm_9
  obtain ⟨hn_11, hm_11⟩ := and_e hm_10
  obtain ⟨hn_12, hm_12⟩ := and_e hm_11
  obtain ⟨hn_13, hm_13⟩ := and_e hm_12
  obtain ⟨hn_14, hm_14⟩ := and_e hm_13
  obtain ⟨hn_15, hm_15⟩ := and_e hm_14
  obtain ⟨hn_16, hm_16⟩ := and_e hm_15
  obtain ⟨hn_17, hm_17⟩ := and_e hm_16
  obtain ⟨hn_18, hm_18⟩ := and_e hm_17
  obtain ⟨hn_19, hm_19⟩ := and_e hm_18
  obtain ⟨hn_20, hm_20⟩ := and_e hm_19
  obtain ⟨hn_21, hm_21⟩ := and_e hm_20
  obtain ⟨sa1, ev_sa1⟩ := exa_v hn_1
  obtain ⟨sa2, ev_sa2⟩ := exa_v hn_3
  obtain ⟨sa3, ev_sa3⟩ := exa_v hn_5
  obtain ⟨sa4, ev_sa4⟩ := exa_v hn_7
  obtain ⟨sa5, ev_sa5⟩ := arr_v hn_9
  obtain ⟨sa6, ev_sa6⟩ := exa_v hn_11
  obtain ⟨sa7, ev_sa7⟩ := arr_v hn_13
  obtain ⟨sr8, ev_sr8, R_sr8⟩ := isR_v (Cond.before_iff.mp (hsets _ (List.mem_of_getElem? (i := 8) rfl)))
  obtain ⟨si9, ev_si9⟩ := is_v (Cond.before_iff.mp (hsets _ (List.mem_of_getElem? (i := 1) rfl)))
  have ev10 := own_eqI hn_8
  have ev11 := own_eqI hn_12
  have nc12 : ¬ (si9 = (0 : Int32)) := gotF (Cond.eq_ints ev_si9 (Term.int_eval (0))) (not_v (Cond.before_iff.mp (hsets _ (List.mem_of_getElem? (i := 2) rfl))))
  have S13__VALUES : Sta s s.heap "com/example/chickadee/chickadee/server/SbiHttp" "$VALUES" "[Lcom/example/chickadee/chickadee/server/SbiHttp;" (.ref sa1) := Sta.start ev_sa1 (Or.inl (hw _ (List.mem_of_getElem? (i := 48) rfl)))
  have E_sa1 : Exa s s.heap sa1 "[Lcom/example/chickadee/chickadee/server/SbiHttp;" := Exa.start ev_sa1 hn_1
  obtain ⟨c14, A14⟩ := Arr.start ev_sa1 hn_0
  have L14 := own_len (own_eqI hn_2) ev_sa1 A14
  have el14_0 := (elem_in (own_eqR hn_4 ev_sa2) ev_sa1 (Term.int_eval (0)) A14.1).2
  have el14_1 := (elem_in (own_eqR hn_6 ev_sa3) ev_sa1 (Term.int_eval (1)) A14.1).2
  obtain ⟨sk14, ek14⟩ : ∃ z, z = c14.cls := ⟨_, rfl⟩
  have V_sa1 : Arv s s.heap sa1 sk14 (.object "com/example/chickadee/chickadee/server/SbiHttp") (2 : Int32) [(.ref sa2), (.ref sa3)] .null := by rw [ek14]; exact Arv.start hfit A14 L14.1 L14.2 (by decide) rfl ⟨el14_0, ⟨el14_1, trivial⟩⟩
  have S15_H2C : Sta s s.heap "com/example/chickadee/chickadee/server/SbiHttp" "H2C" "Lcom/example/chickadee/chickadee/server/SbiHttp;" (.ref sa2) := Sta.start ev_sa2 (Or.inr ⟨(hw _ (List.mem_of_getElem? (i := 32) rfl)), (hw _ (List.mem_of_getElem? (i := 46) rfl))⟩)
  have E_sa2 : Exa s s.heap sa2 "com/example/chickadee/chickadee/server/SbiHttp" := Exa.start ev_sa2 hn_3
  have S16_HTTP1 : Sta s s.heap "com/example/chickadee/chickadee/server/SbiHttp" "HTTP1" "Lcom/example/chickadee/chickadee/server/SbiHttp;" (.ref sa3) := Sta.start ev_sa3 (Or.inr ⟨(hw _ (List.mem_of_getElem? (i := 32) rfl)), (hw _ (List.mem_of_getElem? (i := 47) rfl))⟩)
  have E_sa3 : Exa s s.heap sa3 "com/example/chickadee/chickadee/server/SbiHttp" := Exa.start ev_sa3 hn_5
  have F17_option : Fld s s.heap sa2 "com/example/chickadee/chickadee/server/SbiHttp" "option" "Ljava/lang/String;" (.ref sa4) := Fld.start ((fld_at ev_sa2).symm.trans ev_sa4)
  have E_sa4 : Exa s s.heap sa4 "java/lang/String" := Exa.start ev_sa4 hn_7
  have F18_value : Fld s s.heap sa4 "java/lang/String" "value" "[B" (.ref sa5) := Fld.start ((fld_at ev_sa4).symm.trans ev_sa5)
  obtain ⟨c19, A19⟩ := Arr.start ev_sa5 hn_9
  have L19 := own_len (own_eqI hn_10) ev_sa5 A19
  have el19_0 := (elem_in (own_eqI hn_15) ev_sa5 (Term.int_eval (0)) A19.1).2
  have el19_1 := (elem_in (own_eqI hn_16) ev_sa5 (Term.int_eval (1)) A19.1).2
  have el19_2 := (elem_in (own_eqI hn_17) ev_sa5 (Term.int_eval (2)) A19.1).2
  obtain ⟨sk19, ek19⟩ : ∃ z, z = c19.cls := ⟨_, rfl⟩
  have V_sa5 : Arv s s.heap sa5 sk19 .byte (3 : Int32) [(.int (104 : Int32)), (.int (50 : Int32)), (.int (99 : Int32))] (.int (0 : Int32)) := by rw [ek19]; exact Arv.start hfit A19 L19.1 L19.2 (by decide) rfl ⟨el19_0, ⟨el19_1, ⟨el19_2, trivial⟩⟩⟩
  have F20_option : Fld s s.heap sa3 "com/example/chickadee/chickadee/server/SbiHttp" "option" "Ljava/lang/String;" (.ref sa6) := Fld.start ((fld_at ev_sa3).symm.trans ev_sa6)
  have E_sa6 : Exa s s.heap sa6 "java/lang/String" := Exa.start ev_sa6 hn_11
  have F21_value : Fld s s.heap sa6 "java/lang/String" "value" "[B" (.ref sa7) := Fld.start ((fld_at ev_sa6).symm.trans ev_sa7)
  obtain ⟨c22, A22⟩ := Arr.start ev_sa7 hn_13
  have L22 := own_len (own_eqI hn_14) ev_sa7 A22
  have el22_0 := (elem_in (own_eqI hn_18) ev_sa7 (Term.int_eval (0)) A22.1).2
  have el22_1 := (elem_in (own_eqI hn_19) ev_sa7 (Term.int_eval (1)) A22.1).2
  have el22_2 := (elem_in (own_eqI hn_20) ev_sa7 (Term.int_eval (2)) A22.1).2
  have el22_3 := (elem_in (own_eqI hn_21) ev_sa7 (Term.int_eval (3)) A22.1).2
  have el22_4 := (elem_in (own_eqI hm_21) ev_sa7 (Term.int_eval (4)) A22.1).2
  obtain ⟨sk22, ek22⟩ : ∃ z, z = c22.cls := ⟨_, rfl⟩
  have V_sa7 : Arv s s.heap sa7 sk22 .byte (5 : Int32) [(.int (104 : Int32)), (.int (116 : Int32)), (.int (116 : Int32)), (.int (112 : Int32)), (.int (49 : Int32))] (.int (0 : Int32)) := by rw [ek22]; exact Arv.start hfit A22 L22.1 L22.2 (by decide) rfl ⟨el22_0, ⟨el22_1, ⟨el22_2, ⟨el22_3, ⟨el22_4, trivial⟩⟩⟩⟩⟩
  have S23_SIOOBE_FORMATTER : Sta s s.heap "jdk/internal/util/Preconditions" "SIOOBE_FORMATTER" "Ljava/util/function/BiFunction;" sr8 := Sta.start ev_sr8 (Or.inl (hsets _ (List.mem_of_getElem? (i := 7) rfl)))
  have S24_COMPACT_STRINGS : Sta s s.heap "java/lang/String" "COMPACT_STRINGS" "Z" (.int si9) := Sta.start ev_si9 (Or.inl (hsets _ (List.mem_of_getElem? (i := 0) rfl)))
  have F25_coder : Fld s s.heap sa4 "java/lang/String" "coder" "B" (.int (0 : Int32)) := Fld.start ((fld_at ev_sa4).symm.trans ev10)
  have F26_coder : Fld s s.heap sa6 "java/lang/String" "coder" "B" (.int (0 : Int32)) := Fld.start ((fld_at ev_sa6).symm.trans ev11)
  obtain ⟨n, o, h1, h2, h3, _, L, rfl, ⟨rfl, N⟩, hq⟩ := rm0 l s _ hw tables_1 p1 sa1 sa2 sa3 sa4 sa5 sa6 sa7 sr8 si9 sk14 sk19 sk22 s.heap s.heap.size (Nat.le_refl _) (Old.start s) R_sr8 nc12 S13__VALUES E_sa1 V_sa1 S15_H2C E_sa2 S16_HTTP1 E_sa3 F17_option E_sa4 F18_value V_sa5 F20_option E_sa6 F21_value V_sa7 S23_SIOOBE_FORMATTER S24_COMPACT_STRINGS F25_coder F26_coder p e ha hc hk s m _ below hf ((Spec.applies_iff_loose hf).mp happ).1 ⟨rfl, State.Warmed39.refl s, rfl⟩ trivial
  refine ⟨n, _, h1, h2, h3, hpost _ _ _ _ _ _ ⟨Cond.after_iff.mpr rfl, Cond.after_iff.mpr (eq_i res_at (Term.int_eval (1)) rfl), trivial⟩ ⟨hq.1, hq.2.1, (hq.2.2.sift fun y hy => Or.inr (N y hy)).mono (by decide) (by decide)⟩⟩
theorem main_1_1 : Claimed_1_1 := comes_1 fun _ _ _ _ _ _ h hF => ⟨h.1, hF⟩
theorem main_1_2 : Claimed_1_2 := comes_1 fun _ _ _ _ _ _ h hF => ⟨h.2.1, hF⟩
end Jvm.Pilot.@@N@@
namespace Jvm.Pilot.@@N@@
open Jvm Jvm.ClassFile Sem Op Lib Jvm.Free Jvm.Stand Jvm.Pilot.@@N@@.Jvm.D
/-! MADE BY PROGRAM (witnessworld.py) out of the Statement's table words and the real class files: 22 classes; the members and pool entries that the words name. The judged class is class 1, her method 1. -/
namespace start1
open Jvm.ClassFile
def u (s : String) : CpInfo := .utf8 (stringToUtf16 s)
/-- a pool by its gaps: so many unusable entries, then the entry; so many at the end -/
def gap : Nat → List CpInfo → List CpInfo
  | 0, r => r
  | n + 1, r => .unusable :: gap n r
def poolList (es : List (Nat × CpInfo)) (last : Nat) : List CpInfo := es.foldr (fun e r => gap e.1 (e.2 :: r)) (gap last [])
def pool (es : List (Nat × CpInfo)) (last : Nat) : Array CpInfo := ⟨poolList es last⟩
def fileOf (pool : Array CpInfo) (this : Nat) (attrs : Array Attribute := #[]) (ms : Array MethodInfo := #[]) (fl : Nat := 33) (sup : Nat := 0) (ifs : Array Nat := #[]) (fds : Array FieldInfo := #[]) : ClassFile where
  minorVersion := 0
  majorVersion := 65
  constantPool := pool
  accessFlags := fl
  thisClass := this
  superClass := sup
  interfaces := ifs
  fields := fds
  methods := ms
  attributes := attrs
def plain (name : String) (sup : Option ClassId) : Class where
  name := name
  kind := .ordinary
  loader := none
  accessFlags := 33
  super := sup
  interfaces := #[]
  cf := none
  fields := #[]
  methods := #[]
  instanceTypes := #[]
  staticTypes := #[]
  resolved := #[]
  callSites := []
  init := .initialized
  statics := none
  mirror := none

def pool0 : Array CpInfo := pool [(5, u "<init>"), (0, u "()V"), (1, .class_ 10), (1, u "java/lang/Object"), (85, u "clone"), (0, u "()Ljava/lang/Object;")] 26

def k0c0 : Code := { maxStack := 0, maxLocals := 1, code := object_method_1_code, exceptionTable := #[], attributes := #[] }
def k0m0 : Method := { name := "<init>", desc := "()V", sig := { parameters := [], returnType := none }, accessFlags := 1, code := some k0c0 }
def k0m1 : Method := { name := "clone", desc := "()Ljava/lang/Object;", sig := { parameters := [], returnType := some (.object "java/lang/Object") }, accessFlags := 260, code := none }
/-- java/lang/Object -/
def k0 : Class := { plain "java/lang/Object" none with
  accessFlags := 33
  interfaces := #[]
  cf := some (fileOf pool0 8 #[] #[{ accessFlags := 1, nameIndex := 5, descriptorIndex := 6, attributes := #[] }, { accessFlags := 260, nameIndex := 96, descriptorIndex := 97, attributes := #[] }] 33 0 #[] #[])
  fields := #[]
  methods := #[k0m0, k0m1]
  instanceTypes := #[]
  staticTypes := #[]
  resolved := Array.replicate 124 none
  statics := none }

def pool1 : Array CpInfo := pool [(2, .class_ 4), (1, u "java/lang/Object"), (0, u "<init>"), (0, u "()V"), (0, .class_ 8), (0, u "java/lang/String"), (0, .methodref 7 10), (0, .nameAndType 5 11), (0, u "([C)V"), (0, .methodref 13 14), (0, .class_ 15), (0, .nameAndType 16 17), (0, u "com/example/chickadee/chickadee/server/SbiHttp"), (0, u "read"), (0, u "(Ljava/lang/String;)Lcom/example/chickadee/chickadee/server/SbiHttp;"), (0, .fieldref 13 19), (0, .nameAndType 20 21), (0, u "H2C"), (0, u "Lcom/example/chickadee/chickadee/server/SbiHttp;"), (0, .fieldref 13 23), (0, .nameAndType 24 21), (0, u "HTTP1"), (0, .class_ 26), (0, u "com/example/chickadee/chickadee/server/SbiHttpReadPinLaw"), (2, u "law"), (0, u "(I)Z")] 5

def k1m0 : Method := { name := "<init>", desc := "()V", sig := { parameters := [], returnType := none }, accessFlags := 1, code := none }
def k1c1 : Code := { maxStack := 4, maxLocals := 3, code := code, exceptionTable := #[], attributes := #[] }
def k1m1 : Method := { name := "law", desc := "(I)Z", sig := { parameters := [.int], returnType := some .boolean }, accessFlags := 9, code := some k1c1 }
/-- com/example/chickadee/chickadee/server/SbiHttpReadPinLaw -/
def k1 : Class := { plain "com/example/chickadee/chickadee/server/SbiHttpReadPinLaw" (some 0) with
  accessFlags := 49
  interfaces := #[]
  cf := some (fileOf pool1 25 #[] #[{ accessFlags := 1, nameIndex := 5, descriptorIndex := 6, attributes := #[] }, { accessFlags := 9, nameIndex := 29, descriptorIndex := 30, attributes := #[] }] 49 2 #[] #[])
  fields := #[]
  methods := #[k1m0, k1m1]
  instanceTypes := #[]
  staticTypes := #[]
  resolved := Array.replicate 36 none
  statics := none }

def pool2 : Array CpInfo := pool [(1, .class_ 2), (0, u "java/io/Serializable"), (0, .class_ 4), (0, u "java/lang/Object")] 2

/-- java/io/Serializable -/
def k2 : Class := { plain "java/io/Serializable" (some 0) with
  accessFlags := 1537
  interfaces := #[]
  cf := some (fileOf pool2 1 #[] #[] 1537 3 #[] #[])
  fields := #[]
  methods := #[]
  instanceTypes := #[]
  staticTypes := #[]
  resolved := Array.replicate 7 none
  statics := none }

def pool3 : Array CpInfo := pool [(1, .class_ 2), (0, u "java/lang/Comparable"), (0, .class_ 4), (0, u "java/lang/Object")] 7

/-- java/lang/Comparable -/
def k3 : Class := { plain "java/lang/Comparable" (some 0) with
  accessFlags := 1537
  interfaces := #[]
  cf := some (fileOf pool3 1 #[] #[] 1537 3 #[] #[])
  fields := #[]
  methods := #[]
  instanceTypes := #[]
  staticTypes := #[]
  resolved := Array.replicate 12 none
  statics := none }

def pool4 : Array CpInfo := pool [(2, .class_ 4), (1, u "java/lang/CharSequence"), (42, .class_ 48), (0, u "java/lang/CharSequence$1CodePointIterator"), (10, .class_ 60), (0, u "java/lang/CharSequence$1CharIterator"), (5, .class_ 67), (0, u "java/lang/Object")] 63

/-- java/lang/CharSequence -/
def k4 : Class := { plain "java/lang/CharSequence" (some 0) with
  accessFlags := 1537
  interfaces := #[]
  cf := some (fileOf pool4 2 #[.nestMembers #[47, 59]] #[] 1537 66 #[] #[])
  fields := #[]
  methods := #[]
  instanceTypes := #[]
  staticTypes := #[]
  resolved := Array.replicate 131 none
  statics := none }

def pool5 : Array CpInfo := pool [(1, .class_ 2), (0, u "java/lang/constant/Constable"), (0, .class_ 4), (0, u "java/lang/Object")] 6

/-- java/lang/constant/Constable -/
def k5 : Class := { plain "java/lang/constant/Constable" (some 0) with
  accessFlags := 1537
  interfaces := #[]
  cf := some (fileOf pool5 1 #[] #[] 1537 3 #[] #[])
  fields := #[]
  methods := #[]
  instanceTypes := #[]
  staticTypes := #[]
  resolved := Array.replicate 11 none
  statics := none }

def pool6 : Array CpInfo := pool [(1, .class_ 2), (0, u "java/lang/constant/ConstantDesc"), (0, .class_ 4), (0, u "java/lang/Object")] 32

/-- java/lang/constant/ConstantDesc -/
def k6 : Class := { plain "java/lang/constant/ConstantDesc" (some 0) with
  accessFlags := 1537
  interfaces := #[]
  cf := some (fileOf pool6 1 #[] #[] 1537 3 #[] #[])
  fields := #[]
  methods := #[]
  instanceTypes := #[]
  staticTypes := #[]
  resolved := Array.replicate 37 none
  statics := none }

def pool7 : Array CpInfo := pool [(1, .methodref 2 3), (0, .class_ 4), (0, .nameAndType 5 6), (0, u "java/lang/Object"), (0, u "<init>"), (0, u "()V"), (2, .fieldref 10 11), (0, .class_ 12), (0, .nameAndType 13 14), (0, u "java/lang/String"), (0, u "value"), (0, u "[B"), (0, .fieldref 10 16), (0, .nameAndType 17 18), (0, u "coder"), (0, u "B"), (2, u "hash"), (0, u "I"), (2, u "hashIsZero"), (0, u "Z"), (0, .methodref 10 28), (0, .nameAndType 5 29), (0, u "([CIILjava/lang/Void;)V"), (8, .fieldref 10 39), (0, .nameAndType 40 26), (0, u "COMPACT_STRINGS"), (1, .class_ 44), (1, u "java/lang/StringUTF16"), (0, u "compress"), (1, .methodref 42 48), (0, .nameAndType 49 50), (0, u "coderFromArrayLen"), (0, u "([BI)B"), (56, .class_ 109), (1, u "java/lang/StringLatin1"), (67, .methodref 42 178), (0, .nameAndType 45 179), (0, u "([CII)[B"), (361, .methodref 107 542), (0, .nameAndType 543 544), (0, u "equals"), (0, u "([B[B)Z"), (28, u "(Ljava/lang/Object;)Z"), (1, .class_ 576), (0, u "java/lang/CharSequence"), (22, u "CASE_INSENSITIVE_ORDER"), (0, u "Ljava/util/Comparator;"), (409, u "([C)V"), (90, u "serialPersistentFields"), (0, u "[Ljava/io/ObjectStreamField;"), (0, .class_ 1104), (0, u "java/lang/String$CaseInsensitiveComparator"), (1, .class_ 1107), (0, u "java/io/Serializable"), (0, .class_ 1109), (0, u "java/lang/Comparable"), (0, .class_ 1111), (0, u "java/lang/constant/Constable"), (0, .class_ 1113), (0, u "java/lang/constant/ConstantDesc"), (2, u "serialVersionUID"), (0, u "J"), (3, u "REPL"), (0, u "C"), (2, u "LATIN1"), (1, u "UTF16")] 323

def k7m0 : Method := { name := "<init>", desc := "()V", sig := { parameters := [], returnType := none }, accessFlags := 1, code := none }
def k7c1 : Code := { maxStack := 5, maxLocals := 2, code := jdk_42_method_3_code, exceptionTable := #[], attributes := #[] }
def k7m1 : Method := { name := "<init>", desc := "([C)V", sig := { parameters := [(.array .char)], returnType := none }, accessFlags := 1, code := some k7c1 }
def k7c2 : Code := { maxStack := 2, maxLocals := 3, code := jdk_42_method_66_code, exceptionTable := #[], attributes := #[] }
def k7m2 : Method := { name := "equals", desc := "(Ljava/lang/Object;)Z", sig := { parameters := [(.object "java/lang/Object")], returnType := some .boolean }, accessFlags := 1, code := some k7c2 }
def k7c3 : Code := { maxStack := 4, maxLocals := 6, code := jdk_42_method_149_code, exceptionTable := #[], attributes := #[] }
def k7m3 : Method := { name := "<init>", desc := "([CIILjava/lang/Void;)V", sig := { parameters := [(.array .char), .int, .int, (.object "java/lang/Void")], returnType := none }, accessFlags := 2, code := some k7c3 }
/-- java/lang/String -/
def k7 : Class := { plain "java/lang/String" (some 0) with
  accessFlags := 49
  interfaces := #[2, 3, 4, 5, 6]
  cf := some (fileOf pool7 10 #[.nestMembers #[1103]] #[{ accessFlags := 1, nameIndex := 5, descriptorIndex := 6, attributes := #[] }, { accessFlags := 1, nameIndex := 5, descriptorIndex := 1010, attributes := #[] }, { accessFlags := 1, nameIndex := 543, descriptorIndex := 573, attributes := #[] }, { accessFlags := 2, nameIndex := 5, descriptorIndex := 29, attributes := #[] }] 49 2 #[1106, 1108, 575, 1110, 1112] #[{ accessFlags := 18, nameIndex := 13, descriptorIndex := 14, attributes := #[] }, { accessFlags := 18, nameIndex := 17, descriptorIndex := 18, attributes := #[] }, { accessFlags := 2, nameIndex := 21, descriptorIndex := 22, attributes := #[] }, { accessFlags := 2, nameIndex := 25, descriptorIndex := 26, attributes := #[] }, { accessFlags := 26, nameIndex := 1116, descriptorIndex := 1117, attributes := #[] }, { accessFlags := 24, nameIndex := 40, descriptorIndex := 26, attributes := #[] }, { accessFlags := 26, nameIndex := 1101, descriptorIndex := 1102, attributes := #[] }, { accessFlags := 26, nameIndex := 1121, descriptorIndex := 1122, attributes := #[] }, { accessFlags := 25, nameIndex := 599, descriptorIndex := 600, attributes := #[] }, { accessFlags := 24, nameIndex := 1125, descriptorIndex := 18, attributes := #[] }, { accessFlags := 24, nameIndex := 1127, descriptorIndex := 18, attributes := #[] }])
  fields := #[{ name := "value", type := (.array .byte), accessFlags := 18, slot := 0, constantValue := 0 }, { name := "coder", type := .byte, accessFlags := 18, slot := 1, constantValue := 0 }, { name := "hash", type := .int, accessFlags := 2, slot := 2, constantValue := 0 }, { name := "hashIsZero", type := .boolean, accessFlags := 2, slot := 3, constantValue := 0 }, { name := "serialVersionUID", type := .long, accessFlags := 26, slot := 0, constantValue := 0 }, { name := "COMPACT_STRINGS", type := .boolean, accessFlags := 24, slot := 1, constantValue := 0 }, { name := "serialPersistentFields", type := (.array (.object "java/io/ObjectStreamField")), accessFlags := 26, slot := 2, constantValue := 0 }, { name := "REPL", type := .char, accessFlags := 26, slot := 3, constantValue := 0 }, { name := "CASE_INSENSITIVE_ORDER", type := (.object "java/util/Comparator"), accessFlags := 25, slot := 4, constantValue := 0 }, { name := "LATIN1", type := .byte, accessFlags := 24, slot := 5, constantValue := 0 }, { name := "UTF16", type := .byte, accessFlags := 24, slot := 6, constantValue := 0 }]
  methods := #[k7m0, k7m1, k7m2, k7m3]
  instanceTypes := #[(.array .byte), .byte, .int, .boolean]
  staticTypes := #[.long, .boolean, (.array (.object "java/io/ObjectStreamField")), .char, (.object "java/util/Comparator"), .byte, .byte]
  resolved := Array.replicate 1451 none
  statics := some 0 }

def pool8 : Array CpInfo := pool [(6, .class_ 8), (1, u "java/lang/Object"), (0, u "<init>"), (0, u "()V"), (1, .class_ 14), (1, u "java/lang/StringUTF16"), (31, u "$assertionsDisabled"), (0, u "Z"), (13, u "HI_BYTE_SHIFT"), (0, u "I"), (2, u "LO_BYTE_SHIFT"), (49, .methodref 12 116), (0, .nameAndType 117 118), (0, u "compress"), (0, u "([CI[BII)I"), (3, u "([CII)[B"), (138, u "coderFromArrayLen"), (0, u "([BI)B"), (106, .class_ 371), (1, u "java/lang/StringUTF16$LinesSpliterator"), (58, u "MAX_LENGTH"), (196, .class_ 628), (0, u "java/lang/StringUTF16$CodePointsSpliterator"), (0, .class_ 630), (0, u "java/lang/StringUTF16$CharsSpliterator")] 4

def k8m0 : Method := { name := "<init>", desc := "()V", sig := { parameters := [], returnType := none }, accessFlags := 0, code := none }
def k8c1 : Code := { maxStack := 2, maxLocals := 2, code := jdk_52_method_15_code, exceptionTable := #[], attributes := #[] }
def k8m1 : Method := { name := "coderFromArrayLen", desc := "([BI)B", sig := { parameters := [(.array .byte), .int], returnType := some .byte }, accessFlags := 8, code := some k8c1 }
def k8c2 : Code := { maxStack := 5, maxLocals := 6, code := jdk_52_method_16_code, exceptionTable := #[], attributes := #[] }
def k8m2 : Method := { name := "compress", desc := "([CII)[B", sig := { parameters := [(.array .char), .int, .int], returnType := some (.array .byte) }, accessFlags := 9, code := some k8c2 }
def k8c3 : Code := { maxStack := 3, maxLocals := 7, code := jdk_52_method_21_code, exceptionTable := #[], attributes := #[] }
def k8m3 : Method := { name := "compress", desc := "([CI[BII)I", sig := { parameters := [(.array .char), .int, (.array .byte), .int, .int], returnType := some .int }, accessFlags := 9, code := some k8c3 }
/-- java/lang/StringUTF16 -/
def k8 : Class := { plain "java/lang/StringUTF16" (some 0) with
  accessFlags := 48
  interfaces := #[]
  cf := some (fileOf pool8 12 #[.nestMembers #[627, 629, 369]] #[{ accessFlags := 0, nameIndex := 9, descriptorIndex := 10, attributes := #[] }, { accessFlags := 8, nameIndex := 261, descriptorIndex := 262, attributes := #[] }, { accessFlags := 9, nameIndex := 117, descriptorIndex := 122, attributes := #[] }, { accessFlags := 9, nameIndex := 117, descriptorIndex := 118, attributes := #[] }] 48 6 #[] #[{ accessFlags := 26, nameIndex := 61, descriptorIndex := 62, attributes := #[] }, { accessFlags := 26, nameIndex := 65, descriptorIndex := 62, attributes := #[] }, { accessFlags := 24, nameIndex := 430, descriptorIndex := 62, attributes := #[] }, { accessFlags := 4120, nameIndex := 46, descriptorIndex := 47, attributes := #[] }])
  fields := #[{ name := "HI_BYTE_SHIFT", type := .int, accessFlags := 26, slot := 0, constantValue := 0 }, { name := "LO_BYTE_SHIFT", type := .int, accessFlags := 26, slot := 1, constantValue := 0 }, { name := "MAX_LENGTH", type := .int, accessFlags := 24, slot := 2, constantValue := 0 }, { name := "$assertionsDisabled", type := .boolean, accessFlags := 4120, slot := 3, constantValue := 0 }]
  methods := #[k8m0, k8m1, k8m2, k8m3]
  instanceTypes := #[]
  staticTypes := #[.int, .int, .int, .boolean]
  resolved := Array.replicate 635 none
  statics := none }

def pool9 : Array CpInfo := pool [(2, .class_ 4), (1, u "java/lang/Enum"), (0, u "name"), (0, u "Ljava/lang/String;"), (2, u "ordinal"), (0, u "I"), (1, .class_ 14), (1, u "java/lang/Object"), (4, u "hash"), (86, .class_ 108), (1, u "java/lang/Enum$EnumDesc"), (2, .class_ 112), (0, u "java/lang/constant/Constable"), (0, .class_ 114), (0, u "java/lang/Comparable"), (0, .class_ 116), (0, u "java/io/Serializable")] 87

/-- java/lang/Enum -/
def k9 : Class := { plain "java/lang/Enum" (some 0) with
  accessFlags := 1057
  interfaces := #[5, 3, 2]
  cf := some (fileOf pool9 2 #[.nestMembers #[106]] #[] 1057 12 #[111, 113, 115] #[{ accessFlags := 18, nameIndex := 5, descriptorIndex := 6, attributes := #[] }, { accessFlags := 18, nameIndex := 9, descriptorIndex := 10, attributes := #[] }, { accessFlags := 2, nameIndex := 19, descriptorIndex := 10, attributes := #[] }])
  fields := #[{ name := "name", type := (.object "java/lang/String"), accessFlags := 18, slot := 0, constantValue := 0 }, { name := "ordinal", type := .int, accessFlags := 18, slot := 1, constantValue := 0 }, { name := "hash", type := .int, accessFlags := 2, slot := 2, constantValue := 0 }]
  methods := #[]
  instanceTypes := #[(.object "java/lang/String"), .int, .int]
  staticTypes := #[]
  resolved := Array.replicate 204 none
  statics := none }

def pool10 : Array CpInfo := pool [(1, .class_ 2), (0, u "com/example/chickadee/chickadee/server/SbiHttp"), (2, u "H2C"), (0, u "Lcom/example/chickadee/chickadee/server/SbiHttp;"), (2, u "HTTP1"), (0, .fieldref 1 11), (0, .nameAndType 12 13), (0, u "$VALUES"), (0, u "[Lcom/example/chickadee/chickadee/server/SbiHttp;"), (0, .methodref 15 16), (0, .class_ 13), (0, .nameAndType 17 18), (0, u "clone"), (0, u "()Ljava/lang/Object;"), (1, .class_ 22), (1, u "java/lang/Enum"), (6, .fieldref 1 30), (0, .nameAndType 31 32), (0, u "option"), (0, u "Ljava/lang/String;"), (0, .methodref 1 34), (0, .nameAndType 35 36), (0, u "values"), (0, u "()[Lcom/example/chickadee/chickadee/server/SbiHttp;"), (0, .methodref 38 39), (0, .class_ 40), (0, .nameAndType 41 42), (0, u "java/lang/String"), (0, u "equals"), (0, u "(Ljava/lang/Object;)Z"), (23, u "(Ljava/lang/String;)Lcom/example/chickadee/chickadee/server/SbiHttp;"), (2, u "read")] 21

def k10c0 : Code := { maxStack := 1, maxLocals := 0, code := prog_70_method_1_code, exceptionTable := #[], attributes := #[] }
def k10m0 : Method := { name := "values", desc := "()[Lcom/example/chickadee/chickadee/server/SbiHttp;", sig := { parameters := [], returnType := some (.array (.object "com/example/chickadee/chickadee/server/SbiHttp")) }, accessFlags := 9, code := some k10c0 }
def k10c1 : Code := { maxStack := 3, maxLocals := 5, code := prog_70_method_4_code, exceptionTable := #[], attributes := #[] }
def k10m1 : Method := { name := "read", desc := "(Ljava/lang/String;)Lcom/example/chickadee/chickadee/server/SbiHttp;", sig := { parameters := [(.object "java/lang/String")], returnType := some (.object "com/example/chickadee/chickadee/server/SbiHttp") }, accessFlags := 9, code := some k10c1 }
/-- com/example/chickadee/chickadee/server/SbiHttp -/
def k10 : Class := { plain "com/example/chickadee/chickadee/server/SbiHttp" (some 9) with
  accessFlags := 16433
  interfaces := #[]
  cf := some (fileOf pool10 1 #[] #[{ accessFlags := 9, nameIndex := 35, descriptorIndex := 36, attributes := #[] }, { accessFlags := 9, nameIndex := 69, descriptorIndex := 66, attributes := #[] }] 16433 20 #[] #[{ accessFlags := 16409, nameIndex := 5, descriptorIndex := 6, attributes := #[] }, { accessFlags := 16409, nameIndex := 9, descriptorIndex := 6, attributes := #[] }, { accessFlags := 18, nameIndex := 31, descriptorIndex := 32, attributes := #[] }, { accessFlags := 4122, nameIndex := 12, descriptorIndex := 13, attributes := #[] }])
  fields := #[{ name := "H2C", type := (.object "com/example/chickadee/chickadee/server/SbiHttp"), accessFlags := 16409, slot := 0, constantValue := 0 }, { name := "HTTP1", type := (.object "com/example/chickadee/chickadee/server/SbiHttp"), accessFlags := 16409, slot := 1, constantValue := 0 }, { name := "option", type := (.object "java/lang/String"), accessFlags := 18, slot := 3, constantValue := 0 }, { name := "$VALUES", type := (.array (.object "com/example/chickadee/chickadee/server/SbiHttp")), accessFlags := 4122, slot := 2, constantValue := 0 }]
  methods := #[k10m0, k10m1]
  instanceTypes := #[(.object "java/lang/String"), .int, .int, (.object "java/lang/String")]
  staticTypes := #[(.object "com/example/chickadee/chickadee/server/SbiHttp"), (.object "com/example/chickadee/chickadee/server/SbiHttp"), (.array (.object "com/example/chickadee/chickadee/server/SbiHttp"))]
  resolved := Array.replicate 91 none
  statics := some 1 }

def pool11 : Array CpInfo := pool [(1, .class_ 2), (0, u "java/lang/Cloneable"), (0, .class_ 4), (0, u "java/lang/Object")] 2

/-- java/lang/Cloneable -/
def k11 : Class := { plain "java/lang/Cloneable" (some 0) with
  accessFlags := 1537
  interfaces := #[]
  cf := some (fileOf pool11 1 #[] #[] 1537 3 #[] #[])
  fields := #[]
  methods := #[]
  instanceTypes := #[]
  staticTypes := #[]
  resolved := Array.replicate 7 none
  statics := none }

def pool12 : Array CpInfo := pool [(4, .class_ 6), (1, u "java/lang/Object"), (0, u "<init>"), (0, u "()V"), (5, .class_ 16), (1, u "java/lang/StringLatin1"), (104, u "$assertionsDisabled"), (0, u "Z"), (98, .class_ 223), (1, u "java/lang/StringLatin1$LinesSpliterator"), (57, u "equals"), (0, u "([B[B)Z"), (107, .class_ 391), (0, u "java/lang/StringLatin1$CharsSpliterator")] 3

def k12m0 : Method := { name := "<init>", desc := "()V", sig := { parameters := [], returnType := none }, accessFlags := 0, code := none }
def k12c1 : Code := { maxStack := 3, maxLocals := 3, code := jdk_43_method_13_code, exceptionTable := #[], attributes := #[] }
def k12m1 : Method := { name := "equals", desc := "([B[B)Z", sig := { parameters := [(.array .byte), (.array .byte)], returnType := some .boolean }, accessFlags := 9, code := some k12c1 }
/-- java/lang/StringLatin1 -/
def k12 : Class := { plain "java/lang/StringLatin1" (some 0) with
  accessFlags := 48
  interfaces := #[]
  cf := some (fileOf pool12 14 #[.nestMembers #[390, 221]] #[{ accessFlags := 0, nameIndex := 7, descriptorIndex := 8, attributes := #[] }, { accessFlags := 9, nameIndex := 281, descriptorIndex := 282, attributes := #[] }] 48 4 #[] #[{ accessFlags := 4120, nameIndex := 121, descriptorIndex := 122, attributes := #[] }])
  fields := #[{ name := "$assertionsDisabled", type := .boolean, accessFlags := 4120, slot := 0, constantValue := 0 }]
  methods := #[k12m0, k12m1]
  instanceTypes := #[]
  staticTypes := #[.boolean]
  resolved := Array.replicate 395 none
  statics := none }

def pool13 : Array CpInfo := pool [(2, .class_ 4), (1, u "java/lang/Object"), (0, u "<init>"), (0, u "()V"), (17, .class_ 26), (1, u "jdk/internal/util/Preconditions"), (28, .class_ 56), (0, u "jdk/internal/util/Preconditions$4"), (57, .class_ 115), (0, u "jdk/internal/util/Preconditions$1"), (7, u "SIOOBE_FORMATTER"), (0, u "Ljava/util/function/BiFunction;"), (0, .class_ 126), (0, u "jdk/internal/util/Preconditions$2"), (3, u "AIOOBE_FORMATTER"), (0, .class_ 132), (0, u "jdk/internal/util/Preconditions$3"), (3, u "IOOBE_FORMATTER")] 57

def k13m0 : Method := { name := "<init>", desc := "()V", sig := { parameters := [], returnType := none }, accessFlags := 1, code := none }
/-- jdk/internal/util/Preconditions -/
def k13 : Class := { plain "jdk/internal/util/Preconditions" (some 0) with
  accessFlags := 33
  interfaces := #[]
  cf := some (fileOf pool13 24 #[.nestMembers #[55, 131, 125, 114]] #[{ accessFlags := 1, nameIndex := 5, descriptorIndex := 6, attributes := #[] }] 33 2 #[] #[{ accessFlags := 25, nameIndex := 123, descriptorIndex := 124, attributes := #[] }, { accessFlags := 25, nameIndex := 130, descriptorIndex := 124, attributes := #[] }, { accessFlags := 25, nameIndex := 136, descriptorIndex := 124, attributes := #[] }])
  fields := #[{ name := "SIOOBE_FORMATTER", type := (.object "java/util/function/BiFunction"), accessFlags := 25, slot := 0, constantValue := 0 }, { name := "AIOOBE_FORMATTER", type := (.object "java/util/function/BiFunction"), accessFlags := 25, slot := 1, constantValue := 0 }, { name := "IOOBE_FORMATTER", type := (.object "java/util/function/BiFunction"), accessFlags := 25, slot := 2, constantValue := 0 }]
  methods := #[k13m0]
  instanceTypes := #[]
  staticTypes := #[(.object "java/util/function/BiFunction"), (.object "java/util/function/BiFunction"), (.object "java/util/function/BiFunction")]
  resolved := Array.replicate 194 none
  statics := some 2 }

def pool14 : Array CpInfo := pool [(9, u "<init>"), (6, .class_ 18), (1, u "java/lang/Object"), (0, u "()V"), (1, .class_ 23), (1, u "jdk/internal/util/ArraysSupport"), (0, u "LOG2_ARRAY_LONG_INDEX_SCALE"), (0, u "I"), (2, u "U"), (0, u "Ljdk/internal/misc/Unsafe;"), (8, u "BIG_ENDIAN"), (0, u "Z"), (8, u "LOG2_BYTE_BIT_SIZE"), (4, u "LOG2_ARRAY_INT_INDEX_SCALE"), (54, u "JLA"), (0, u "Ljdk/internal/access/JavaLangAccess;"), (11, u "LOG2_ARRAY_BOOLEAN_INDEX_SCALE"), (9, u "LOG2_ARRAY_BYTE_INDEX_SCALE"), (5, u "LOG2_ARRAY_CHAR_INDEX_SCALE"), (5, u "LOG2_ARRAY_SHORT_INDEX_SCALE"), (18, u "LOG2_ARRAY_FLOAT_INDEX_SCALE"), (24, u "LOG2_ARRAY_DOUBLE_INDEX_SCALE"), (89, u "T_BOOLEAN"), (2, u "T_CHAR"), (1, u "T_FLOAT"), (1, u "T_DOUBLE"), (1, u "T_BYTE"), (1, u "T_SHORT"), (1, u "T_INT"), (1, u "T_LONG"), (1, u "SOFT_MAX_ARRAY_LENGTH")] 83

def k14m0 : Method := { name := "<init>", desc := "()V", sig := { parameters := [], returnType := none }, accessFlags := 2, code := none }
/-- jdk/internal/util/ArraysSupport -/
def k14 : Class := { plain "jdk/internal/util/ArraysSupport" (some 0) with
  accessFlags := 33
  interfaces := #[]
  cf := some (fileOf pool14 21 #[] #[{ accessFlags := 2, nameIndex := 9, descriptorIndex := 19, attributes := #[] }] 33 16 #[] #[{ accessFlags := 24, nameIndex := 28, descriptorIndex := 29, attributes := #[] }, { accessFlags := 26, nameIndex := 38, descriptorIndex := 39, attributes := #[] }, { accessFlags := 25, nameIndex := 121, descriptorIndex := 25, attributes := #[] }, { accessFlags := 25, nameIndex := 131, descriptorIndex := 25, attributes := #[] }, { accessFlags := 25, nameIndex := 137, descriptorIndex := 25, attributes := #[] }, { accessFlags := 25, nameIndex := 143, descriptorIndex := 25, attributes := #[] }, { accessFlags := 25, nameIndex := 53, descriptorIndex := 25, attributes := #[] }, { accessFlags := 25, nameIndex := 24, descriptorIndex := 25, attributes := #[] }, { accessFlags := 25, nameIndex := 162, descriptorIndex := 25, attributes := #[] }, { accessFlags := 25, nameIndex := 187, descriptorIndex := 25, attributes := #[] }, { accessFlags := 26, nameIndex := 48, descriptorIndex := 25, attributes := #[] }, { accessFlags := 25, nameIndex := 277, descriptorIndex := 25, attributes := #[] }, { accessFlags := 25, nameIndex := 280, descriptorIndex := 25, attributes := #[] }, { accessFlags := 25, nameIndex := 282, descriptorIndex := 25, attributes := #[] }, { accessFlags := 25, nameIndex := 284, descriptorIndex := 25, attributes := #[] }, { accessFlags := 25, nameIndex := 286, descriptorIndex := 25, attributes := #[] }, { accessFlags := 25, nameIndex := 288, descriptorIndex := 25, attributes := #[] }, { accessFlags := 25, nameIndex := 290, descriptorIndex := 25, attributes := #[] }, { accessFlags := 25, nameIndex := 292, descriptorIndex := 25, attributes := #[] }, { accessFlags := 26, nameIndex := 108, descriptorIndex := 109, attributes := #[] }, { accessFlags := 25, nameIndex := 294, descriptorIndex := 25, attributes := #[] }])
  fields := #[{ name := "U", type := (.object "jdk/internal/misc/Unsafe"), accessFlags := 24, slot := 0, constantValue := 0 }, { name := "BIG_ENDIAN", type := .boolean, accessFlags := 26, slot := 1, constantValue := 0 }, { name := "LOG2_ARRAY_BOOLEAN_INDEX_SCALE", type := .int, accessFlags := 25, slot := 2, constantValue := 0 }, { name := "LOG2_ARRAY_BYTE_INDEX_SCALE", type := .int, accessFlags := 25, slot := 3, constantValue := 0 }, { name := "LOG2_ARRAY_CHAR_INDEX_SCALE", type := .int, accessFlags := 25, slot := 4, constantValue := 0 }, { name := "LOG2_ARRAY_SHORT_INDEX_SCALE", type := .int, accessFlags := 25, slot := 5, constantValue := 0 }, { name := "LOG2_ARRAY_INT_INDEX_SCALE", type := .int, accessFlags := 25, slot := 6, constantValue := 0 }, { name := "LOG2_ARRAY_LONG_INDEX_SCALE", type := .int, accessFlags := 25, slot := 7, constantValue := 0 }, { name := "LOG2_ARRAY_FLOAT_INDEX_SCALE", type := .int, accessFlags := 25, slot := 8, constantValue := 0 }, { name := "LOG2_ARRAY_DOUBLE_INDEX_SCALE", type := .int, accessFlags := 25, slot := 9, constantValue := 0 }, { name := "LOG2_BYTE_BIT_SIZE", type := .int, accessFlags := 26, slot := 10, constantValue := 0 }, { name := "T_BOOLEAN", type := .int, accessFlags := 25, slot := 11, constantValue := 0 }, { name := "T_CHAR", type := .int, accessFlags := 25, slot := 12, constantValue := 0 }, { name := "T_FLOAT", type := .int, accessFlags := 25, slot := 13, constantValue := 0 }, { name := "T_DOUBLE", type := .int, accessFlags := 25, slot := 14, constantValue := 0 }, { name := "T_BYTE", type := .int, accessFlags := 25, slot := 15, constantValue := 0 }, { name := "T_SHORT", type := .int, accessFlags := 25, slot := 16, constantValue := 0 }, { name := "T_INT", type := .int, accessFlags := 25, slot := 17, constantValue := 0 }, { name := "T_LONG", type := .int, accessFlags := 25, slot := 18, constantValue := 0 }, { name := "JLA", type := (.object "jdk/internal/access/JavaLangAccess"), accessFlags := 26, slot := 19, constantValue := 0 }, { name := "SOFT_MAX_ARRAY_LENGTH", type := .int, accessFlags := 25, slot := 20, constantValue := 0 }]
  methods := #[k14m0]
  instanceTypes := #[]
  staticTypes := #[(.object "jdk/internal/misc/Unsafe"), .boolean, .int, .int, .int, .int, .int, .int, .int, .int, .int, .int, .int, .int, .int, .int, .int, .int, .int, (.object "jdk/internal/access/JavaLangAccess"), .int]
  resolved := Array.replicate 378 none
  statics := none }

/-- the primitive byte -/
def k15 : Class := { plain "byte" none with kind := .primitive 'B', accessFlags := 0x411 }
/-- [B -/
def k16 : Class := { plain "[B" (some 0) with kind := .array 15 .byte, interfaces := #[11, 2], accessFlags := 1041 }

/-- the primitive char -/
def k17 : Class := { plain "char" none with kind := .primitive 'C', accessFlags := 0x411 }
/-- [C -/
def k18 : Class := { plain "[C" (some 0) with kind := .array 17 .char, interfaces := #[11, 2], accessFlags := 1041 }

/-- the primitive int -/
def k19 : Class := { plain "int" none with kind := .primitive 'I', accessFlags := 0x411 }
/-- [I -/
def k20 : Class := { plain "[I" (some 0) with kind := .array 19 .int, interfaces := #[11, 2], accessFlags := 1041 }

/-- [Lcom/example/chickadee/chickadee/server/SbiHttp; -/
def k21 : Class := { plain "[Lcom/example/chickadee/chickadee/server/SbiHttp;" (some 0) with kind := .array 10 (.object "com/example/chickadee/chickadee/server/SbiHttp"), interfaces := #[11, 2], accessFlags := 1041 }

def heap : Heap := #[{ cls := 7, slots := #[.long 0, .int 1, .null, .int 0, .null, .int 0, .int 0], vm := .statics 7 },
  { cls := 10, slots := #[.ref 4, .ref 5, .ref 3], vm := .statics 10 },
  { cls := 13, slots := #[.null, .null, .null], vm := .statics 13 },
  { cls := 21, slots := #[.ref 4, .ref 5], vm := .none },
  { cls := 10, slots := #[.null, .int 0, .int 0, .ref 6], vm := .none },
  { cls := 10, slots := #[.null, .int 1, .int 0, .ref 7], vm := .none },
  { cls := 7, slots := #[.ref 8, .int 0, .int 0, .int 0], vm := .none },
  { cls := 7, slots := #[.ref 9, .int 0, .int 0, .int 0], vm := .none },
  { cls := 16, slots := #[.int 104, .int 50, .int 99], vm := .none },
  { cls := 16, slots := #[.int 104, .int 116, .int 116, .int 112, .int 49], vm := .none }]
def classes : Array Class := #[k0, k1, k2, k3, k4, k5, k6, k7, k8, k9, k10, k11, k12, k13, k14, k15, k16, k17, k18, k19, k20, k21]
def interned : List (Array UInt16 × Addr) := []
def slotsUsed : Nat := 39
def theMethod : MethodId := ⟨1, 1⟩
def args0 : Array Value := #[.int 5]
def aboutOver (below : List Frame) : State where
  vm := { classes := classes, interned := interned.toArray }
  heap := heap
  slotsUsed := slotsUsed
  threads := #[{ frames := .invoking theMethod args0 :: below }]
def below0 : List Frame := [.native { method := ⟨0, 0⟩, args := #[] }]
def about1 : State := aboutOver below0
def p0 : Program := .bare "" "" ""
def e0 : Env := launch0.env 0 0 0
theorem w_frames : about1.frames = Frame.invoking theMethod args0 :: below0 := rfl
set_option maxRecDepth 65536 in
theorem w_args : argsFit about1.vm theMethod args0 = true := by decide +kernel
set_option maxRecDepth 65536 in
theorem w_heap : heapFits about1 = true := by decide +kernel
set_option maxRecDepth 65536 in
theorem w_runnable : about1.curStatus? = some .runnable := by decide +kernel
set_option maxRecDepth 65536 in
theorem w_alone : about1.alone = true := by decide +kernel
set_option maxRecDepth 65536 in
theorem w_named : about1.methodNamed? x = some theMethod := by decide +kernel
set_option maxRecDepth 65536 in
theorem w_hears : about1.hears theMethod below0 = true := by decide +kernel
set_option maxRecDepth 65536 in
theorem w_ripe : about1.ripe theMethod args0 below0 = true := by decide +kernel
theorem w_running : about1.status = .running := rfl
set_option maxRecDepth 65536 in
theorem w_room : about1.hasRoom e0.platform room_1 = true :=
  launch0.hasRoom_least _ room_1 (by decide +kernel) (by decide +kernel) (by decide +kernel) (by decide +kernel) (by decide +kernel) (by decide +kernel)
theorem allAtoms_all (ts : List Jvm.Cond) (a : Array Jvm.Value) (st : Jvm.State) : (allAtoms ts).before a st = ts.all (fun c => c.before a st) := by
  induction ts with
  | nil => rfl
  | cons c t ih =>
    show (Jvm.Cond.and c (allAtoms t)).before a st = _
    rw [Jvm.Cond.before_and, ih, List.all_cons]
def words1 : List Jvm.Cond := Jvm.Cond.code x code maxLocals ret :: tables_1
/-- a 'code' word, met by the world's own term for the bytes: nothing is compared byte by byte -/
theorem code_word {y : MethodName} {bytes : ByteArray} {mx : Nat} {rt : Option FieldType} {a : Array Value} {s : State} {m : MethodId} {meth : Method} {c : Code} (h1 : s.methodNamed? y = some m) (h2 : s.vm.method? m = some meth) (h3 : meth.code = some c) (h4 : c.code = bytes)
    (h5 : (c.maxLocals == mx && c.exceptionTable.isEmpty && decide (c.maxStack ≤ mostOperands) && decide (meth.sig.returnType = rt) && !meth.locks && decide (parseMethodDescriptor y.desc = some meth.sig)) = true) : (Jvm.Cond.code y bytes mx rt).before a s = true := by
  simp only [Bool.and_eq_true, beq_iff_eq, Bool.not_eq_true', decide_eq_true_eq] at h5
  obtain ⟨⟨⟨⟨⟨g1, g2⟩, g3⟩, g4⟩, g5⟩, g6⟩ := h5
  simp [Cond.before, Cond.holds, Cond.value, h1, h2, h3, h4, g1, g2, g3, g4, g5, g6]
def isCode : Jvm.Cond → Bool
  | .code _ _ _ _ => true
  | _ => false
theorem all_split {L : List Jvm.Cond} {P : Jvm.Cond → Bool} (h1 : L.all (fun c => isCode c || P c) = true) (h2 : ∀ c ∈ L.filter isCode, P c = true) : L.all P = true := by
  refine List.all_eq_true.mpr fun c hc => ?_
  have h := List.all_eq_true.mp h1 c hc
  rcases Bool.eq_false_or_eq_true (isCode c) with hi | hi
  · exact h2 c (List.mem_filter.mpr ⟨hc, hi⟩)
  · simpa [hi] using h
set_option maxRecDepth 65536 in
theorem w_c0 : (Jvm.Cond.code x code maxLocals ret).before args0 about1 = true := code_word (m := ⟨1, 1⟩) (meth := k1m1) (c := k1c1) (by decide +kernel) rfl rfl rfl (by decide +kernel)
set_option maxRecDepth 65536 in
theorem w_c1 : (Jvm.Cond.code ({ cls := "java/lang/String", name := "<init>", desc := "([C)V" } : Jvm.MethodName) jdk_42_method_3_code (2 : Nat) (Option.none : Option Jvm.ClassFile.FieldType)).before args0 about1 = true := code_word (m := ⟨7, 1⟩) (meth := k7m1) (c := k7c1) (by decide +kernel) rfl rfl rfl (by decide +kernel)
set_option maxRecDepth 65536 in
theorem w_c2 : (Jvm.Cond.code ({ cls := "java/lang/String", name := "<init>", desc := "([CIILjava/lang/Void;)V" } : Jvm.MethodName) jdk_42_method_149_code (6 : Nat) (Option.none : Option Jvm.ClassFile.FieldType)).before args0 about1 = true := code_word (m := ⟨7, 3⟩) (meth := k7m3) (c := k7c3) (by decide +kernel) rfl rfl rfl (by decide +kernel)
set_option maxRecDepth 65536 in
theorem w_c3 : (Jvm.Cond.code ({ cls := "java/lang/Object", name := "<init>", desc := "()V" } : Jvm.MethodName) object_method_1_code (1 : Nat) (Option.none : Option Jvm.ClassFile.FieldType)).before args0 about1 = true := code_word (m := ⟨0, 0⟩) (meth := k0m0) (c := k0c0) (by decide +kernel) rfl rfl rfl (by decide +kernel)
set_option maxRecDepth 65536 in
theorem w_c4 : (Jvm.Cond.code ({ cls := "java/lang/StringUTF16", name := "compress", desc := "([CII)[B" } : Jvm.MethodName) jdk_52_method_16_code (6 : Nat) (Option.some (Jvm.ClassFile.FieldType.array Jvm.ClassFile.FieldType.byte))).before args0 about1 = true := code_word (m := ⟨8, 2⟩) (meth := k8m2) (c := k8c2) (by decide +kernel) rfl rfl rfl (by decide +kernel)
set_option maxRecDepth 65536 in
theorem w_c5 : (Jvm.Cond.code ({ cls := "java/lang/StringUTF16", name := "compress", desc := "([CI[BII)I" } : Jvm.MethodName) jdk_52_method_21_code (7 : Nat) (Option.some Jvm.ClassFile.FieldType.int)).before args0 about1 = true := code_word (m := ⟨8, 3⟩) (meth := k8m3) (c := k8c3) (by decide +kernel) rfl rfl rfl (by decide +kernel)
set_option maxRecDepth 65536 in
theorem w_c6 : (Jvm.Cond.code ({ cls := "java/lang/StringUTF16", name := "coderFromArrayLen", desc := "([BI)B" } : Jvm.MethodName) jdk_52_method_15_code (2 : Nat) (Option.some Jvm.ClassFile.FieldType.byte)).before args0 about1 = true := code_word (m := ⟨8, 1⟩) (meth := k8m1) (c := k8c1) (by decide +kernel) rfl rfl rfl (by decide +kernel)
set_option maxRecDepth 65536 in
theorem w_c7 : (Jvm.Cond.code ({ cls := "com/example/chickadee/chickadee/server/SbiHttp", name := "read", desc := "(Ljava/lang/String;)Lcom/example/chickadee/chickadee/server/SbiHttp;" } : Jvm.MethodName) prog_70_method_4_code (5 : Nat) (Option.some (Jvm.ClassFile.FieldType.object "com/example/chickadee/chickadee/server/SbiHttp"))).before args0 about1 = true := code_word (m := ⟨10, 1⟩) (meth := k10m1) (c := k10c1) (by decide +kernel) rfl rfl rfl (by decide +kernel)
set_option maxRecDepth 65536 in
theorem w_c8 : (Jvm.Cond.code ({ cls := "com/example/chickadee/chickadee/server/SbiHttp", name := "values", desc := "()[Lcom/example/chickadee/chickadee/server/SbiHttp;" } : Jvm.MethodName) prog_70_method_1_code (0 : Nat) (Option.some (Jvm.ClassFile.FieldType.array (Jvm.ClassFile.FieldType.object "com/example/chickadee/chickadee/server/SbiHttp")))).before args0 about1 = true := code_word (m := ⟨10, 0⟩) (meth := k10m0) (c := k10c0) (by decide +kernel) rfl rfl rfl (by decide +kernel)
set_option maxRecDepth 65536 in
theorem w_c9 : (Jvm.Cond.code ({ cls := "java/lang/String", name := "equals", desc := "(Ljava/lang/Object;)Z" } : Jvm.MethodName) jdk_42_method_66_code (3 : Nat) (Option.some Jvm.ClassFile.FieldType.boolean)).before args0 about1 = true := code_word (m := ⟨7, 2⟩) (meth := k7m2) (c := k7c2) (by decide +kernel) rfl rfl rfl (by decide +kernel)
set_option maxRecDepth 65536 in
theorem w_c10 : (Jvm.Cond.code ({ cls := "java/lang/StringLatin1", name := "equals", desc := "([B[B)Z" } : Jvm.MethodName) jdk_43_method_13_code (3 : Nat) (Option.some Jvm.ClassFile.FieldType.boolean)).before args0 about1 = true := code_word (m := ⟨12, 1⟩) (meth := k12m1) (c := k12c1) (by decide +kernel) rfl rfl rfl (by decide +kernel)
def codes1 : List Jvm.Cond := [Jvm.Cond.code x code maxLocals ret, Jvm.Cond.code ({ cls := "java/lang/String", name := "<init>", desc := "([C)V" } : Jvm.MethodName) jdk_42_method_3_code (2 : Nat) (Option.none : Option Jvm.ClassFile.FieldType), Jvm.Cond.code ({ cls := "java/lang/String", name := "<init>", desc := "([CIILjava/lang/Void;)V" } : Jvm.MethodName) jdk_42_method_149_code (6 : Nat) (Option.none : Option Jvm.ClassFile.FieldType), Jvm.Cond.code ({ cls := "java/lang/Object", name := "<init>", desc := "()V" } : Jvm.MethodName) object_method_1_code (1 : Nat) (Option.none : Option Jvm.ClassFile.FieldType), Jvm.Cond.code ({ cls := "java/lang/StringUTF16", name := "compress", desc := "([CII)[B" } : Jvm.MethodName) jdk_52_method_16_code (6 : Nat) (Option.some (Jvm.ClassFile.FieldType.array Jvm.ClassFile.FieldType.byte)), Jvm.Cond.code ({ cls := "java/lang/StringUTF16", name := "compress", desc := "([CI[BII)I" } : Jvm.MethodName) jdk_52_method_21_code (7 : Nat) (Option.some Jvm.ClassFile.FieldType.int), Jvm.Cond.code ({ cls := "java/lang/StringUTF16", name := "coderFromArrayLen", desc := "([BI)B" } : Jvm.MethodName) jdk_52_method_15_code (2 : Nat) (Option.some Jvm.ClassFile.FieldType.byte), Jvm.Cond.code ({ cls := "com/example/chickadee/chickadee/server/SbiHttp", name := "read", desc := "(Ljava/lang/String;)Lcom/example/chickadee/chickadee/server/SbiHttp;" } : Jvm.MethodName) prog_70_method_4_code (5 : Nat) (Option.some (Jvm.ClassFile.FieldType.object "com/example/chickadee/chickadee/server/SbiHttp")), Jvm.Cond.code ({ cls := "com/example/chickadee/chickadee/server/SbiHttp", name := "values", desc := "()[Lcom/example/chickadee/chickadee/server/SbiHttp;" } : Jvm.MethodName) prog_70_method_1_code (0 : Nat) (Option.some (Jvm.ClassFile.FieldType.array (Jvm.ClassFile.FieldType.object "com/example/chickadee/chickadee/server/SbiHttp"))), Jvm.Cond.code ({ cls := "java/lang/String", name := "equals", desc := "(Ljava/lang/Object;)Z" } : Jvm.MethodName) jdk_42_method_66_code (3 : Nat) (Option.some Jvm.ClassFile.FieldType.boolean), Jvm.Cond.code ({ cls := "java/lang/StringLatin1", name := "equals", desc := "([B[B)Z" } : Jvm.MethodName) jdk_43_method_13_code (3 : Nat) (Option.some Jvm.ClassFile.FieldType.boolean)]
set_option maxRecDepth 65536 in
theorem codes_eq : words1.filter isCode = codes1 := rfl
theorem w_codes : ∀ c ∈ words1.filter isCode, c.before args0 about1 = true := by
  rw [codes_eq]
  intro c hc
  simp only [codes1, List.mem_cons, List.not_mem_nil, or_false] at hc
  rcases hc with rfl | rfl | rfl | rfl | rfl | rfl | rfl | rfl | rfl | rfl | rfl
  · exact w_c0
  · exact w_c1
  · exact w_c2
  · exact w_c3
  · exact w_c4
  · exact w_c5
  · exact w_c6
  · exact w_c7
  · exact w_c8
  · exact w_c9
  · exact w_c10
set_option maxRecDepth 65536 in
theorem w_t1 : (words1.take 24).all (fun c => isCode c || c.before args0 about1) = true := by decide +kernel
set_option maxRecDepth 65536 in
theorem w_t2 : ((words1.drop 24).take 24).all (fun c => isCode c || c.before args0 about1) = true := by decide +kernel
set_option maxRecDepth 65536 in
theorem w_t3 : ((words1.drop 24).drop 24).all (fun c => isCode c || c.before args0 about1) = true := by decide +kernel
theorem w_tables : (allAtoms (Jvm.Cond.code x code maxLocals ret :: tables_1)).before args0 about1 = true := by
  rw [allAtoms_all]
  show words1.all (fun c => c.before args0 about1) = true
  refine all_split ?_ w_codes
  rw [← List.take_append_drop 24 words1, List.all_append, w_t1, ← List.take_append_drop 24 (words1.drop 24), List.all_append, w_t2, w_t3]
  rfl
set_option maxRecDepth 65536 in
theorem w_rest : rest_1_c.before args0 about1 = true := by decide +kernel
set_option maxRecDepth 65536 in
theorem w_case : (Jvm.Cond.and given_1 narrow_1).before args0 about1 = true := by decide +kernel
theorem w_applies : (headSpec (Jvm.Cond.code x code maxLocals ret :: tables_1) room_1).applies x e0.platform about1 = true :=
  (Spec.applies_iff w_frames).mpr ⟨w_running, w_runnable, w_alone, w_named, w_hears, w_ripe, w_room, w_tables⟩
theorem atStart : AtStart classFile x code maxLocals ret World_1 tables_1 room_1 Calls_1 rest_1 Pre_1 launch0 p0 e0 about1 theMethod args0 below0 :=
  ⟨lists_1, trivial, launch0.admits_env _ _ _, launch0.least_env, fairChoices_fair.cas, fairChoices_fair.clock, w_frames, w_args, w_heap, w_applies, trivial, w_rest, w_case⟩
end start1
theorem witness_1 : WitnessClaimed_1 := ⟨start1.p0, start1.e0, start1.about1, start1.theMethod, start1.args0, start1.below0, start1.atStart⟩
end Jvm.Pilot.@@N@@
