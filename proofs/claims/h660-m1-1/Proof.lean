import JvmDerived
import JvmDerived.Pilot.@@N@@Statement
import JvmDerived.Pilot.@@N@@Code
set_option linter.unusedVariables false
set_option linter.unusedSimpArgs false
set_option maxRecDepth 65536
set_option maxHeartbeats 40000000
namespace Jvm.RoadKit
open Sem ClassFile Op Lib Jvm.Stand Jvm.Free Jvm.LawKit
section New
variable {p : Program} {l : Launch} {e : Env} {R : Room} {s : State} {m : MethodId} {args : Array Value} {below : List Frame} {meth : Method} {c : Code} {T : State} {locs : List Loc} {cells slots : Nat}
theorem retI (X : Stand p l e R s m args below meth c T locs cells slots) (hx : p.tables.exec = Jvm.exec) {pc : Nat} {Ls : Array Slot} {z : Int32} {rest : List Value} (hret : meth.sig.returnType = some .int) (hd : decode c.code pc = .ok (.ireturn, 1)) {fs : List Frame}
    (hl : ∀ (f : JFrame) (acts : List Action), f.method = m → f.locked = none → f.entered = [] → (doReturn e (T.setTop f) acts (some (.int z))).1 = T.setFrames fs) : Steps p.tables e below (T.setTop (mkF m pc Ls (.int z :: rest))) (T.setFrames fs) := by
  have hm' : T.vm.method? m = some meth := X.method'
  have hn : narrow .int (.int z) = .int z := rfl
  show Steps p.tables e below (T.setTop { method := m, pc := pc, locals := Ls, stack := _ :: rest, locked := none }) _
  jvm_step X.here [X.here.top, hx, hd, hm', hret, hn]
  first | (intro acts; rw [hl _ acts rfl rfl rfl]) | rw [hl _ _ rfl rfl rfl]
  exact Steps.refl _
end New
/-- a body's contract, written short -/
abbrev OwnMet (l : Launch) (Z : State) (y : MethodName) (bytes : ByteArray) (maxL : Nat) (ret : Option FieldType) (ws : List Cond) (rm : Room) (as' : Array Value) (h0 : Heap) (Q : Option Value → Heap → List Loc → Prop) : Prop :=
  MetFree l y (head1 (Cond.code y bytes maxL ret :: ws) rm) (fun a U => a = as' ∧ Z.Warmed39 U.vm ∧ U.heap = h0) (fun _ _ _ _ _ => True) (fun _ U o U' => ∃ v L, o = .returned v ∧ Q v U'.heap L ∧ FrameEnd U o U' L rm.cells rm.slots)
theorem own_body {l : Launch} {Z : State} {y : MethodName} {bytes : ByteArray} {maxL : Nat} {ret : Option FieldType} {ws : List Cond} {rm : Room} {as' : Array Value} {h0 : Heap} {Q : Option Value → Heap → List Loc → Prop} {L0 : Array Slot} (hp : plainFor y = true) (hef : ∀ m, entryFrame m as' maxL = mkF m 0 L0 [])
    (k : ∀ (p : Program) (e : Env) (s : State) (m : MethodId) (below : List Frame) (meth : Method) (c : Code) (s₁ : State), p.tables.exec = Jvm.exec → c.code = bytes → c.maxLocals = maxL → s.vm.findClass y.cls = some m.cls → meth.name = y.name → meth.sig.returnType = ret → Z.Warmed39 s.vm → Stand p l e rm s m as' below meth c s₁ [] 0 0 → s₁.heap = h0 →
      ∃ (T : State) (L : List Loc) (ce sl : Nat) (v : Option Value), Stand p l e rm s m as' below meth c T L ce sl ∧ (ret = none → v = none) ∧ ce ≤ rm.cells ∧ sl ≤ rm.slots ∧ Q v T.heap L ∧
        ∀ fs, (∀ (f : JFrame) (acts : List Action), f.method = m → f.locked = none → f.entered = [] → (doReturn e (T.setTop f) acts v).1 = T.setFrames fs) → Steps p.tables e below (s₁.setTop (mkF m 0 L0 [])) (T.setFrames fs)) :
    OwnMet l Z y bytes maxL ret ws rm as' h0 Q := by
  refine MetFree.of_bodySF hp hisR ?_
  intro p e s m args below meth c s₁ Bd hml hP hK
  obtain ⟨hargs, hZ, hh⟩ := hP
  subst hargs
  obtain ⟨T, L, ce, sl, v, X, hv, hc, hs, hq, st⟩ := k p e s m below meth c s₁ Bd.exec Bd.bytes hml (findClass_of_methodNamed Bd.named) (name_of_methodNamed Bd.named Bd.method).1 Bd.returns hZ (Stand.of_body Bd) (by rw [← hh, Bd.state]; rfl)
  obtain ⟨fs, hr, hrun, hended, hW, hsame⟩ := X.leave (v := v) (fun h => hv (Bd.returns ▸ h))
  exact ⟨_, _, castTop (hef m) (st fs hr), hrun, hended, v, L, rfl, hq, ⟨_, rfl⟩, hW, hsame.mono hc hs⟩
theorem own_mvNest {Z s : State} {a0 args : Array Value} {own host : String} {index : Nat} {y : MethodName} (hZ : Z.Warmed39 s.vm) (w : (Cond.methodLinkNest own index y host).before a0 Z = true) : (Cond.methodLinkNest own index y host).before args s = true := (Cond.methodLinkNest_wide hZ w :)
section Calls
variable {p : Program} {l : Launch} {e : Env} {R : Room} {s : State} {m : MethodId} {args : Array Value} {below : List Frame} {meth : Method} {c : Code} {T : State} {locs : List Loc} {cells slots : Nat} {Z : State} {a0 : Array Value} {h : Heap}
  {own : String} {index : Nat} {y z : MethodName} {bytes : ByteArray} {maxL : Nat} {ret : Option FieldType} {rm : Room} {as' : Array Value} {Q : Option Value → Heap → List Loc → Prop} {pc : Nat} {Ls : Array Slot} {argsL rest : List Value} {W : Nat}
/-- what a call leaves -/
abbrev OwnCame (p : Program) (l : Launch) (e : Env) (R : Room) (s : State) (m : MethodId) (args : Array Value) (below : List Frame) (meth : Method) (c : Code) (T : State) (locs : List Loc) (cells slots : Nat) (rm : Room) (Q : Option Value → Heap → List Loc → Prop) (pc pc' : Nat) (Ls : Array Slot) (st rest : List Value) : Prop :=
  ∃ (v : Option Value) (T' : State) (L : List Loc), Stand p l e R s m args below meth c T' (locs ++ L) (cells + rm.cells) (slots + rm.slots) ∧ Q v T'.heap L ∧
    ∀ target, Steps p.tables e below (T'.setTop (mkF m pc' Ls (v.toList ++ rest))) target → Steps p.tables e below (T.setTop (mkF m pc Ls st)) target
theorem own_callS (X : Stand p l e R s m args below meth c T locs cells slots) (hx : p.tables.exec = Jvm.exec) (hZ : Z.Warmed39 s.vm) (hown : s.vm.findClass own = some m.cls)
    (w1 : (Cond.methodLink own index y).before a0 Z = true) (w2 : (Cond.static y).before a0 Z = true) (w3 : (Cond.initialized y.cls).before a0 Z = true) (w4 : (Cond.code y bytes maxL ret).before a0 Z = true)
    (hM : OwnMet l Z y bytes maxL ret [] rm as' h Q) (eT : T.heap = h) (hsize : Ls.size = c.maxLocals) (hlen : ∀ sig, parseMethodDescriptor y.desc = some sig → argsL.length = sig.parameters.length) (hd : decode c.code pc = .ok (.invokestatic index, 3))
    (has : argsL.toArray = as' := by rfl) (hW : (rest.map fun v => v.category).sum ≤ W := by exact Nat.le_of_eq rfl) (hf : rm.frames + 1 ≤ R.frames := by decide) (hl : W + (maxL + 11) + rm.locals ≤ R.locals := by decide) (hc : cells + rm.cells ≤ R.cells := by decide) (hs : slots + rm.slots ≤ R.slots := by decide) (hy : y.cls ≠ "java/lang/invoke/MethodHandle" ∧ y.cls ≠ "java/lang/invoke/VarHandle" := by decide) :
    OwnCame p l e R s m args below meth c T locs cells slots rm Q pc (pc + 3) Ls (argsL.reverse ++ rest) rest := by
  obtain ⟨v, vm1, ⟨T', L', c', n'⟩, -, XB, ⟨L, hQ, l1, y1, z1⟩, st⟩ := Jvm.LawKit.callS X hx (y := y) hown (mvT hZ w1) (mvT hZ w2) (mvT hZ w3) (mvT hZ w4) hy (backOf (W := W) hM hZ w4 w3 hf hl) (g := mkF m pc Ls (argsL.reverse ++ rest)) rfl hsize (argsL := argsL) (rest := rest) hlen rfl (by show 2 * 0 + _ ≤ _; omega) hd (fun _ _ => ⟨has, eT, hc, hs⟩)
  dsimp only at XB l1 y1 z1 st hQ
  subst l1 y1 z1
  exact ⟨v, T', L, XB, hQ, st⟩
theorem own_special (X : Stand p l e R s m args below meth c T locs cells slots) (hx : p.tables.exec = Jvm.exec) (hZ : Z.Warmed39 s.vm) (hown : s.vm.findClass own = some m.cls) {a : Addr}
    (w1 : (Cond.methodLink own index y).before a0 Z = true) (w2 : (Cond.instanceMethod y).before a0 Z = true) (w3 : (Cond.initialized y.cls).before a0 Z = true) (w4 : (Cond.code y bytes maxL none).before a0 Z = true)
    (hM : OwnMet l Z y bytes maxL none [] rm as' h Q) (eT : T.heap = h) (hsize : Ls.size = c.maxLocals) (hlen : ∀ sig, parseMethodDescriptor y.desc = some sig → argsL.length = sig.parameters.length) (hd : decode c.code pc = .ok (.invokespecial index, 3))
    (has : (.ref a :: argsL).toArray = as' := by rfl) (hW : (rest.map fun v => v.category).sum ≤ W := by exact Nat.le_of_eq rfl) (hf : rm.frames + 1 ≤ R.frames := by decide) (hl : W + (maxL + 11) + rm.locals ≤ R.locals := by decide) (hc : cells + rm.cells ≤ R.cells := by decide) (hs : slots + rm.slots ≤ R.slots := by decide) (hy : y.cls ≠ "java/lang/invoke/MethodHandle" ∧ y.cls ≠ "java/lang/invoke/VarHandle" := by decide) (hy1 : y.name = "<init>" := by rfl) :
    OwnCame p l e R s m args below meth c T locs cells slots rm Q pc (pc + 3) Ls (argsL.reverse ++ .ref a :: rest) rest := by
  obtain ⟨v, vm1, ⟨T', L', c', n'⟩, -, XB, ⟨L, hQ, l1, y1, z1⟩, st⟩ := X.specialBack hx (y := y) hy1 hown (mvT hZ w1) (mvT hZ w2) (mvT hZ w4) hy (backOf (W := W) hM hZ w4 w3 hf hl) (g := mkF m pc Ls (argsL.reverse ++ .ref a :: rest)) rfl hsize (Steps.refl _) (a := a) (argsL := argsL) (rest := rest) hlen rfl (by show 2 * 0 + _ ≤ _; omega) hd (fun _ _ => ⟨has, eT, hc, hs⟩)
  dsimp only at XB l1 y1 z1 st hQ
  subst l1 y1 z1
  exact ⟨v, T', L, XB, hQ, fun t k => st.trans k⟩
theorem own_virtual (X : Stand p l e R s m args below meth c T locs cells slots) (hx : p.tables.exec = Jvm.exec) (hZ : Z.Warmed39 s.vm) (hown : s.vm.findClass own = some m.cls) {a : Addr} {C : String} (E : Exa Z h a C)
    (w1 : (Cond.methodLink own index y).before a0 Z = true) (w2 : (Cond.declares y).before a0 Z = true) (nf : NotFace s y) (w5 : (Cond.selects C y z).before a0 Z = true) (w6 : (Cond.instanceMethod z).before a0 Z = true) (w3 : (Cond.initialized z.cls).before a0 Z = true) (w4 : (Cond.code z bytes maxL ret).before a0 Z = true)
    (hM : OwnMet l Z z bytes maxL ret [] rm as' h Q) (eT : T.heap = h) (hsize : Ls.size = c.maxLocals) (hlen : ∀ sig, parseMethodDescriptor y.desc = some sig → argsL.length = sig.parameters.length) (hd : decode c.code pc = .ok (.invokevirtual index, 3))
    (has : (.ref a :: argsL).toArray = as' := by rfl) (hW : (rest.map fun v => v.category).sum ≤ W := by exact Nat.le_of_eq rfl) (hf : rm.frames + 1 ≤ R.frames := by decide) (hl : W + (maxL + 11) + rm.locals ≤ R.locals := by decide) (hc : cells + rm.cells ≤ R.cells := by decide) (hs : slots + rm.slots ≤ R.slots := by decide) (hy : y.cls ≠ "java/lang/invoke/MethodHandle" ∧ y.cls ≠ "java/lang/invoke/VarHandle" := by decide) :
    OwnCame p l e R s m args below meth c T locs cells slots rm Q pc (pc + 3) Ls (argsL.reverse ++ .ref a :: rest) rest := by
  obtain ⟨cB, kB, i1, -, i3⟩ := isOf hZ eT E
  obtain ⟨v, vm1, ⟨T', L', c', n'⟩, -, XB, ⟨L, hQ, l1, y1, z1⟩, st⟩ := X.virtualBack hx (y := y) (z := z) hown (mvT hZ w1) (mvT hZ w2) nf (mvT hZ w5) (mvT hZ w6) hy (backOf (W := W) hM hZ w4 w3 hf hl) i1 i3 (g := mkF m pc Ls (argsL.reverse ++ .ref a :: rest)) rfl hsize (Steps.refl _) (argsL := argsL) (rest := rest) hlen rfl (by show 2 * 0 + _ ≤ _; omega) hd (fun _ _ => ⟨has, eT, hc, hs⟩)
  dsimp only at XB l1 y1 z1 st hQ
  subst l1 y1 z1
  exact ⟨v, T', L, XB, hQ, fun t k => st.trans k⟩
theorem own_virtualUp (X : Stand p l e R s m args below meth c T locs cells slots) (hx : p.tables.exec = Jvm.exec) (hZ : Z.Warmed39 s.vm) (hown : s.vm.findClass own = some m.cls) {a : Addr} {C owner : String} (E : Exa Z h a C)
    (w1 : (Cond.methodLink own index y).before a0 Z = true) (w7 : (Cond.sameMethod y.cls owner y.name y.desc).before a0 Z = true) (w2 : (Cond.declares ⟨owner, y.name, y.desc⟩).before a0 Z = true) (w5 : (Cond.selects C y z).before a0 Z = true) (w6 : (Cond.instanceMethod z).before a0 Z = true) (w3 : (Cond.initialized z.cls).before a0 Z = true) (w4 : (Cond.code z bytes maxL ret).before a0 Z = true)
    (hM : OwnMet l Z z bytes maxL ret [] rm as' h Q) (eT : T.heap = h) (hsize : Ls.size = c.maxLocals) (hlen : ∀ sig, parseMethodDescriptor y.desc = some sig → argsL.length = sig.parameters.length) (hd : decode c.code pc = .ok (.invokevirtual index, 3))
    (has : (.ref a :: argsL).toArray = as' := by rfl) (hW : (rest.map fun v => v.category).sum ≤ W := by exact Nat.le_of_eq rfl) (hf : rm.frames + 1 ≤ R.frames := by decide) (hl : W + (maxL + 11) + rm.locals ≤ R.locals := by decide) (hc : cells + rm.cells ≤ R.cells := by decide) (hs : slots + rm.slots ≤ R.slots := by decide) (hy : owner ≠ "java/lang/invoke/MethodHandle" ∧ owner ≠ "java/lang/invoke/VarHandle" := by decide) :
    OwnCame p l e R s m args below meth c T locs cells slots rm Q pc (pc + 3) Ls (argsL.reverse ++ .ref a :: rest) rest := by
  obtain ⟨cB, kB, i1, -, i3⟩ := isOf hZ eT E
  obtain ⟨v, vm1, ⟨T', L', c', n'⟩, -, XB, ⟨L, hQ, l1, y1, z1⟩, st⟩ := X.virtualBackUp hx (x := y) (y := z) (owner := owner) hown (mvT hZ w1) (mvT hZ w7) (mvT hZ w2) hy (mvT hZ w5) (mvT hZ w6) (backOf (W := W) hM hZ w4 w3 hf hl) i1 i3 (g := mkF m pc Ls (argsL.reverse ++ .ref a :: rest)) rfl hsize (Steps.refl _) (argsL := argsL) (rest := rest) hlen rfl (by show 2 * 0 + _ ≤ _; omega) hd (fun _ _ => ⟨has, eT, hc, hs⟩)
  dsimp only at XB l1 y1 z1 st hQ
  subst l1 y1 z1
  exact ⟨v, T', L, XB, hQ, fun t k => st.trans k⟩
theorem own_private (X : Stand p l e R s m args below meth c T locs cells slots) (hx : p.tables.exec = Jvm.exec) (hZ : Z.Warmed39 s.vm) (hown : s.vm.findClass own = some m.cls) {a : Addr} {C : String} (E : Exa Z h a C)
    (w1 : (Cond.methodLink own index y).before a0 Z = true) (w2 : (Cond.instanceMethod y).before a0 Z = true) (w5 : (Cond.selects y.cls y y).before args s = true) (w6 : (Cond.privateMethod y).before a0 Z = true) (w3 : (Cond.initialized y.cls).before a0 Z = true) (w4 : (Cond.code y bytes maxL ret).before a0 Z = true)
    (hM : OwnMet l Z y bytes maxL ret [] rm as' h Q) (eT : T.heap = h) (hsize : Ls.size = c.maxLocals) (hlen : ∀ sig, parseMethodDescriptor y.desc = some sig → argsL.length = sig.parameters.length) (hd : decode c.code pc = .ok (.invokevirtual index, 3))
    (has : (.ref a :: argsL).toArray = as' := by rfl) (hW : (rest.map fun v => v.category).sum ≤ W := by exact Nat.le_of_eq rfl) (hf : rm.frames + 1 ≤ R.frames := by decide) (hl : W + (maxL + 11) + rm.locals ≤ R.locals := by decide) (hc : cells + rm.cells ≤ R.cells := by decide) (hs : slots + rm.slots ≤ R.slots := by decide) (hy : y.cls ≠ "java/lang/invoke/MethodHandle" ∧ y.cls ≠ "java/lang/invoke/VarHandle" := by decide) :
    OwnCame p l e R s m args below meth c T locs cells slots rm Q pc (pc + 3) Ls (argsL.reverse ++ .ref a :: rest) rest := by
  obtain ⟨cq, q1, q2⟩ := E.cell
  obtain ⟨v, vm1, ⟨T', L', c', n'⟩, -, XB, ⟨L, hQ, l1, y1, z1⟩, st⟩ := X.privateBack hx (y := y) hown (mvT hZ w1) (mvT hZ w2) w5 (Cond.privateMethod_at (mvP hZ w6 (args := #[]))) (mvT hZ w4) hy (backOf (W := W) hM hZ w4 w3 hf hl) (g := mkF m pc Ls (argsL.reverse ++ .ref a :: rest)) rfl hsize (Steps.refl _) (a := a) (by rw [eT]; exact q1) q2 (argsL := argsL) (rest := rest) hlen rfl (by show 2 * 0 + _ ≤ _; omega) hd (fun _ _ => ⟨has, eT, hc, hs⟩)
  dsimp only at XB l1 y1 z1 st hQ
  subst l1 y1 z1
  exact ⟨v, T', L, XB, hQ, fun t k => st.trans k⟩
theorem own_iface (X : Stand p l e R s m args below meth c T locs cells slots) (hx : p.tables.exec = Jvm.exec) (hZ : Z.Warmed39 s.vm) (hown : s.vm.findClass own = some m.cls) {a : Addr} {C : String} {count : Nat} (E : Exa Z h a C)
    (w1 : (Cond.methodLink own index y).before a0 Z = true) (w2 : (Cond.declares y).before a0 Z = true) (w7 : (Cond.interfaceMethod y.cls y.cls y.name y.desc).before a0 Z = true) (w5 : (Cond.selects C y z).before a0 Z = true) (w6 : (Cond.instanceMethod z).before a0 Z = true) (w8 : (Cond.publicMethod z).before a0 Z = true) (w9 : (Cond.unhidden C y.name y.desc).before a0 Z = true) (wc : (Cond.castable C y.cls).before a0 Z = true) (w3 : (Cond.initialized z.cls).before a0 Z = true) (w4 : (Cond.code z bytes maxL ret).before a0 Z = true)
    (hM : OwnMet l Z z bytes maxL ret [] rm as' h Q) (eT : T.heap = h) (hsize : Ls.size = c.maxLocals) (hlen : ∀ sig, parseMethodDescriptor y.desc = some sig → argsL.length = sig.parameters.length) (hd : decode c.code pc = .ok (.invokeinterface index count, 5))
    (has : (.ref a :: argsL).toArray = as' := by rfl) (hW : (rest.map fun v => v.category).sum ≤ W := by exact Nat.le_of_eq rfl) (hf : rm.frames + 1 ≤ R.frames := by decide) (hl : W + (maxL + 11) + rm.locals ≤ R.locals := by decide) (hc : cells + rm.cells ≤ R.cells := by decide) (hs : slots + rm.slots ≤ R.slots := by decide) (hy : y.cls ≠ "java/lang/invoke/MethodHandle" ∧ y.cls ≠ "java/lang/invoke/VarHandle" := by decide) :
    OwnCame p l e R s m args below meth c T locs cells slots rm Q pc (pc + 5) Ls (argsL.reverse ++ .ref a :: rest) rest := by
  obtain ⟨cB, kB, i1, i2, i3⟩ := isOf hZ eT E
  obtain ⟨v, vm1, ⟨T', L', c', n'⟩, -, XB, ⟨L, hQ, l1, y1, z1⟩, st⟩ := X.interfaceBack hx (xi := y) (y := z) hown (mvT hZ w1) (mvT hZ w2) (mvT hZ w7 (by simp [Cond.onTables, Cond.keepsFace, Cond.keeps, Cond.steady, Cond.faceAtom, hy.1, hy.2])) (mvT hZ w5) (mvT hZ w6) (mvT hZ w8) (mvT hZ w9) (mvT hZ wc) hy (backOf (W := W) hM hZ w4 w3 hf hl) i1 i2 i3 (g := mkF m pc Ls (argsL.reverse ++ .ref a :: rest)) rfl hsize (Steps.refl _) (argsL := argsL) (rest := rest) hlen rfl (by show 2 * 0 + _ ≤ _; omega) hd (fun _ _ => ⟨has, eT, hc, hs⟩)
  dsimp only at XB l1 y1 z1 st hQ
  subst l1 y1 z1
  exact ⟨v, T', L, XB, hQ, fun t k => st.trans k⟩
theorem own_specialNest (X : Stand p l e R s m args below meth c T locs cells slots) (hx : p.tables.exec = Jvm.exec) (hZ : Z.Warmed39 s.vm) (hown : s.vm.findClass own = some m.cls) {a : Addr} {host : String}
    (w1 : (Cond.methodLinkNest own index y host).before args s = true) (w2 : (Cond.instanceMethod y).before a0 Z = true) (w3 : (Cond.initialized y.cls).before a0 Z = true) (w4 : (Cond.code y bytes maxL none).before a0 Z = true)
    (hM : OwnMet l Z y bytes maxL none [] rm as' h Q) (eT : T.heap = h) (hsize : Ls.size = c.maxLocals) (hlen : ∀ sig, parseMethodDescriptor y.desc = some sig → argsL.length = sig.parameters.length) (hd : decode c.code pc = .ok (.invokespecial index, 3))
    (has : (.ref a :: argsL).toArray = as' := by rfl) (hW : (rest.map fun v => v.category).sum ≤ W := by exact Nat.le_of_eq rfl) (hf : rm.frames + 1 ≤ R.frames := by decide) (hl : W + (maxL + 11) + rm.locals ≤ R.locals := by decide) (hc : cells + rm.cells ≤ R.cells := by decide) (hs : slots + rm.slots ≤ R.slots := by decide) (hy : y.cls ≠ "java/lang/invoke/MethodHandle" ∧ y.cls ≠ "java/lang/invoke/VarHandle" := by decide) (hy1 : y.name = "<init>" := by rfl) :
    OwnCame p l e R s m args below meth c T locs cells slots rm Q pc (pc + 3) Ls (argsL.reverse ++ .ref a :: rest) rest := by
  obtain ⟨v, vm1, ⟨T', L', c', n'⟩, -, XB, ⟨L, hQ, l1, y1, z1⟩, st⟩ := X.specialBackNest hx (y := y) hy1 hown w1 (mvT hZ w2) (mvT hZ w4) hy (backOf (W := W) hM hZ w4 w3 hf hl) (g := mkF m pc Ls (argsL.reverse ++ .ref a :: rest)) rfl hsize (Steps.refl _) (a := a) (argsL := argsL) (rest := rest) hlen rfl (by show 2 * 0 + _ ≤ _; omega) hd (fun _ _ => ⟨has, eT, hc, hs⟩)
  dsimp only at XB l1 y1 z1 st hQ
  subst l1 y1 z1
  exact ⟨v, T', L, XB, hQ, fun t k => st.trans k⟩
end Calls
theorem own_narR {v : Value} (h : v.isRef = true) {t : FieldType} (ht : t.isReference = true := by rfl) : narrow t v = v := by
  rcases ref_cases h with rfl | ⟨a, rfl⟩ <;> cases t <;> first | rfl | cases ht
theorem own_fitR {v : Value} (h : v.isRef = true) {t : FieldType} (ht : t.isReference = true := by rfl) : fits t v = true := by
  rcases ref_cases h with rfl | ⟨a, rfl⟩ <;> cases t <;> first | rfl | cases ht
theorem own_catR {v : Value} (h : v.isRef = true) : v.category = 1 := by rcases ref_cases h with rfl | ⟨a, rfl⟩ <;> rfl
theorem own_arv_of_arh {Z : State} {h : Heap} {a : Addr} {k : ClassId} {ty : FieldType} {z : Int32} {vs : List Value} {dv : Value} (F : Arh Z h a k ty z [] vs dv) : Arv Z h a k ty z vs dv := by
  obtain ⟨c, A, q, S, N, H, G⟩ := F
  exact ⟨c, A, q, S, N, H, G⟩
theorem own_getD_all (j : Nat) (d : Value) : ∀ n, (List.replicate n d).getD j d = d := by
  intro n
  simp only [List.getD_eq_getElem?_getD, List.getElem?_replicate]
  split <;> rfl
theorem own_c_nar_char (x : Int32) : ((nar .char x).toInt - x.toInt) % 65536 = 0 ∧ 0 ≤ (nar .char x).toInt ∧ (nar .char x).toInt < 65536 := c_i2c x
theorem own_c_nar_byte (x : Int32) : ((nar .byte x).toInt - x.toInt) % 256 = 0 ∧ -128 ≤ (nar .byte x).toInt ∧ (nar .byte x).toInt < 128 := c_i2b x
theorem own_mask (x m : Int32) (k : Nat) (hk : k ≤ 31) (hm : m.toBitVec.toNat = 2 ^ k - 1) (P : Int) (hP : ((2 ^ k : Nat) : Int) = P) : (x &&& m).toInt = x.toInt % P := by rw [← hP]; exact c_mask x m k hk hm
theorem own_maskL (x m : Int64) (k : Nat) (hk : k ≤ 63) (hm : m.toBitVec.toNat = 2 ^ k - 1) (P : Int) (hP : ((2 ^ k : Nat) : Int) = P) : (x &&& m).toInt = x.toInt % P := by rw [← hP]; exact c_maskL x m k hk hm
theorem own_ushr (x q : Int32) (k : Nat) (hk : q.toBitVec.toNat % 32 = k) (h0 : 0 < k) (P : Int) (hP : ((2 ^ k : Nat) : Int) = P) : ((x.toUInt32 >>> (q &&& 31).toUInt32).toInt32).toInt = (x.toInt % 4294967296) / P := by rw [← hP]; exact c_iushr x q k hk h0
theorem own_shr (x q : Int32) (k : Nat) (hk : q.toBitVec.toNat % 32 = k) (P : Int) (hP : ((2 ^ k : Nat) : Int) = P) : (x >>> (q &&& 31)).toInt = x.toInt / P := by rw [← hP]; exact c_ishr x q k hk
theorem own_irem_eq (x y : Int32) : x - (x / y) * y = x % y := by
  have h : (x - (x / y) * y).toInt = (x % y).toInt := by
    rw [Int32.toInt_sub, Int32.toInt_mul, Int32.toInt_mod, Int32.toInt_div, Int.bmod_mul_bmod, Int.sub_bmod_bmod]
    have hx := x.le_toInt; have hx' := x.toInt_lt
    have e : x.toInt - x.toInt.tdiv y.toInt * y.toInt = x.toInt.tmod y.toInt := by rw [Int.tmod_def, Int.mul_comm]
    rw [e]
    have h4 : (x.toInt.tmod y.toInt) ≤ 2147483647 := by
      by_cases hp : 0 ≤ x.toInt
      · have := Int.natAbs_tmod x.toInt y.toInt; have := Nat.mod_le x.toInt.natAbs y.toInt.natAbs; omega
      · have := Int.tmod_nonneg (a := -x.toInt) y.toInt (by omega); rw [Int.neg_tmod] at this; omega
    have h5 : -2147483648 ≤ (x.toInt.tmod y.toInt) := by
      have := Int.natAbs_tmod x.toInt y.toInt; have := Nat.mod_le x.toInt.natAbs y.toInt.natAbs; omega
    exact Int.bmod_eq_of_le (by omega) (by omega)
  exact Int32.toInt_inj.mp h
theorem own_irem (x y : Int32) (d : Int) (hy : y.toInt = d) : (0 ≤ x.toInt → (x - (x / y) * y).toInt = x.toInt % d) ∧ (x.toInt < 0 → (x - (x / y) * y).toInt = -((-x.toInt) % d)) := by rw [own_irem_eq]; exact c_irem x y d hy
end Jvm.RoadKit
namespace Jvm.RoadKit
open Sem ClassFile Op Lib Jvm.Stand Jvm.Free Jvm.LawKit
section Mirrors
variable {p : Program} {l : Launch} {e : Env} {R : Room} {s : State} {m : MethodId} {args : Array Value} {below : List Frame} {meth : Method} {c : Code} {T : State} {locs : List Loc} {cells slots : Nat} {Z : State} {a0 : Array Value} {h : Heap} {a : Addr}
def OwnMir (Z : State) (C : String) (m : Addr) : Prop := ∃ (c : ClassId) (k : Class), Z.vm.findClass C = some c ∧ Z.vm.classes[c]? = some k ∧ k.mirror = some m
theorem own_gcls (X : Stand p l e R s m args below meth c T locs cells slots) (hx : p.tables.exec = Jvm.exec) (hZ : Z.Warmed39 s.vm) {own C : String} {index : Nat} (hown : s.vm.findClass own = some m.cls)
    (w1 : (Cond.methodLink own index Jvm.Stand.gcN).before a0 Z = true) (w2 : (Cond.declares Jvm.Stand.gcN).before a0 Z = true) (w3 : (Cond.noSuperclass "java/lang/Object").before a0 Z = true) (w4 : (Cond.selects C Jvm.Stand.gcN Jvm.Stand.gcN).before a0 Z = true)
    (w5 : (Cond.instanceMethod Jvm.Stand.gcN).before a0 Z = true) (w6 : (Cond.native Jvm.Stand.gcN).before a0 Z = true) (eT : T.heap = h) (E : Exa Z h a C) {mr : Addr} (M : OwnMir Z C mr)
    {g : JFrame} (hg : g.method = m) (hsize : g.locals.size = c.maxLocals) {rest : List Value} (hs : g.stack = .ref a :: rest) (hd : decode c.code g.pc = .ok (.invokevirtual index, 3)) (hf : 1 ≤ R.frames) {W : Nat} (hW : 2 * g.monitorRoom + (rest.map fun v => v.category).sum ≤ W) (hl : W + 14 ≤ R.locals) :
    ∃ T', Stand p l e R s m args below meth c T' locs cells slots ∧ T'.heap = h ∧ ∀ target, Steps p.tables e below (T'.setTop { g with pc := g.pc + 3, stack := .ref mr :: rest }) target → Steps p.tables e below (T.setTop g) target := by
  obtain ⟨cc, kc, m1, m2, m3⟩ := M
  obtain ⟨cB, kB, i1, i2, i3⟩ := isOf hZ eT E
  have j1 : s.vm.findClass C = some cc := by rw [hZ.alike.findClass]; exact m1
  cases j1.symm.trans i1
  obtain ⟨k', q, ek⟩ := hZ.alike.2.2 _ _ m2
  obtain ⟨vm', X', st⟩ := X.getClassOf hx hown (mvT hZ w1) (mvT hZ w2) (nf_top (args := #[]) (mvT hZ w3)) (mvT hZ w4) (mvT hZ w5) (mvT hZ w6) j1 i3 q (mir := mr) (by rw [ek]; exact m3) hg hsize hs hd hf (by have : nativeFrameWords "java/lang/Object" "getClass" 1 = 3 := (by decide); omega)
  exact ⟨_, X', eT, st⟩
theorem own_ldcM (X : Stand p l e R s m args below meth c T locs cells slots) (hx : p.tables.exec = Jvm.exec) (hZ : Z.Warmed39 s.vm) {own C : String} {index : Nat} (hown : s.vm.findClass own = some m.cls) (w : (Cond.classLink own index C).before a0 Z = true) {mr : Addr} (M : OwnMir Z C mr) (eT : T.heap = h)
    {g : JFrame} (hg : g.method = m) (hd : decode c.code g.pc = .ok (.ldc index, 2)) : ∃ T', Stand p l e R s m args below meth c T' locs cells slots ∧ T'.heap = h ∧ ∀ target, Steps p.tables e below (T'.setTop { g with pc := g.pc + 2, stack := .ref mr :: g.stack }) target → Steps p.tables e below (T.setTop g) target := by
  obtain ⟨cc, kc, m1, m2, m3⟩ := M
  have j1 : s.vm.findClass C = some cc := by rw [hZ.alike.findClass]; exact m1
  obtain ⟨k', q, ek⟩ := hZ.alike.2.2 _ _ m2
  have hm : k'.mirror = some mr := by rw [ek]; exact m3
  obtain ⟨vm', X', st⟩ := X.ldcMirror hx hown (mvT hZ w) (a := mr) (by simp [Term.eval, j1, q, hm]) hg hd
  exact ⟨_, X', eT, st⟩
theorem own_NSroot {O K : String} {n : Nat} (w : (Cond.noSuperclass O).before a0 Z = true) (wk : (Cond.instantiable K n).before a0 Z = true) (hn : O ≠ K) : NS Z O K := by
  obtain ⟨c, k, h1, h2, h3, -, -⟩ := Cond.noSuperclass_spec w
  obtain ⟨t, kt, g1, -⟩ := Cond.instantiable_spec wk
  have ne := ids_ne h1 g1 hn
  exact ⟨c, t, h1, g1, fun fuel => by cases fuel <;> simp [Vm.isSubclassAux, ne, h2, h3]⟩
theorem own_NSno {C S K : String} {n : Nat} (w : (Cond.superclass C S).before a0 Z = true) (wk : (Cond.instantiable K n).before a0 Z = true) (nn : NS Z C K) (hn : C ≠ K) : ∃ c t, Z.vm.findClass C = some c ∧ Z.vm.findClass K = some t ∧ Z.vm.assignable c t = false := by
  obtain ⟨c, t, h0, g0, n3⟩ := nn
  obtain ⟨p, k, kp, h1, h2, h3, h4, h5, -, h7⟩ := Cond.superclass_spec h0 w
  obtain ⟨t', kt, g1, g2, g3, g4, -⟩ := Cond.instantiable_spec wk
  cases g0.symm.trans g1
  have ne := ids_ne h0 g0 hn
  have gi : kt.isInterface = false := by simp at g4; exact g4.1
  refine ⟨c, t, h0, g0, ?_⟩
  show Z.vm.assignableAux (255 + 1) c t = false
  simp [Vm.assignableAux, ne, h2, g2, h5, g3, gi, Vm.isSubclass, n3]
end Mirrors
end Jvm.RoadKit
namespace Jvm.Pilot.@@N@@
open Jvm Jvm.ClassFile Sem Op Lib Jvm.Free Jvm.Stand Jvm.LawKit Jvm.RoadKit Bundle Jvm.Pilot.@@N@@.Jvm.D
def Q0 (n0 : Nat) (v : Option Value) (h : Heap) (L : List Loc) : Prop := v = some (.int 1) ∧ Fr n0 L
theorem own_eqI {args : Array Value} {first s : State} {o : Option Outcome} {idx : List Nat} {t : Term} {n : Int32} (h : (Jvm.Cond.eq t (.int n)).value args first o s idx = some true) : t.eval args first o idx s = some (.int n) := by
  simp only [Jvm.Cond.value, Term.eval] at h
  cases ht : t.eval args first o idx s with
  | none => simp [ht] at h
  | some x => cases x <;> simp [ht] at h ⊢; exact h
theorem own_eqR {args : Array Value} {first s : State} {o : Option Outcome} {idx : List Nat} {t u : Term} {a : Addr} (h : (Jvm.Cond.eq t u).value args first o s idx = some true) (hu : u.eval args first o idx s = some (.ref a)) : t.eval args first o idx s = some (.ref a) := by
  simp only [Jvm.Cond.value, hu] at h
  cases ht : t.eval args first o idx s with
  | none => simp [ht] at h
  | some x => cases x <;> simp [ht] at h ⊢; exact h
theorem own_len {args : Array Value} {s : State} {t : Term} {n : Int32} {a : Addr} {c : Cell} {ty : FieldType} (h : (Term.length t).eval args s none [] s = some (.int n)) (ev : t.eval args s none [] s = some (.ref a)) (A : Arr s s.heap a c ty) : c.slots.size < 2 ^ 31 ∧ c.slots.size.toInt32 = n := by
  have e := Arr.fin (Vm.Alike.refl _) A
  by_cases q : c.slots.size < 2 ^ 31
  · have := (len_f ev e q).symm.trans h
    exact ⟨q, by simpa using this⟩
  · simp [Term.eval, ev, e, q] at h
theorem w_0 {a0 : Array Value} {Z : State} (hw : ∀ d ∈ tables_1, d.before a0 Z = true) : Jvm.Cond.before (Jvm.Cond.constant "com/example/feedergen/feedergen/core/StreetLinkLastPinLaw" (7 : Nat) (2147483647 : Int32)) a0 Z = true := hw _ (List.mem_of_getElem? (i := 0) rfl)
theorem w_1 {a0 : Array Value} {Z : State} (hw : ∀ d ∈ tables_1, d.before a0 Z = true) : Jvm.Cond.before (Jvm.Cond.arrayClass Jvm.ClassFile.FieldType.long) a0 Z = true := hw _ (List.mem_of_getElem? (i := 1) rfl)
theorem w_2 {a0 : Array Value} {Z : State} (hw : ∀ d ∈ tables_1, d.before a0 Z = true) : Jvm.Cond.before (Jvm.Cond.classLink "com/example/feedergen/feedergen/core/StreetLinkLastPinLaw" (8 : Nat) "com/example/feedergen/feedergen/core/GeoPoint") a0 Z = true := hw _ (List.mem_of_getElem? (i := 2) rfl)
theorem w_3 {a0 : Array Value} {Z : State} (hw : ∀ d ∈ tables_1, d.before a0 Z = true) : Jvm.Cond.before (Jvm.Cond.instantiable "com/example/feedergen/feedergen/core/GeoPoint" (2 : Nat)) a0 Z = true := hw _ (List.mem_of_getElem? (i := 3) rfl)
theorem w_4 {a0 : Array Value} {Z : State} (hw : ∀ d ∈ tables_1, d.before a0 Z = true) : Jvm.Cond.before (Jvm.Cond.initialized "com/example/feedergen/feedergen/core/GeoPoint") a0 Z = true := hw _ (List.mem_of_getElem? (i := 4) rfl)
theorem w_25 {a0 : Array Value} {Z : State} (hw : ∀ d ∈ tables_1, d.before a0 Z = true) : Jvm.Cond.before (Jvm.Cond.laysFinal "com/example/feedergen/feedergen/core/GeoPoint" "com/example/feedergen/feedergen/core/GeoPoint" "lon" "D") a0 Z = true := hw _ (List.mem_of_getElem? (i := 25) rfl)
theorem w_27 {a0 : Array Value} {Z : State} (hw : ∀ d ∈ tables_1, d.before a0 Z = true) : Jvm.Cond.before (Jvm.Cond.laysFinal "com/example/feedergen/feedergen/core/GeoPoint" "com/example/feedergen/feedergen/core/GeoPoint" "lat" "D") a0 Z = true := hw _ (List.mem_of_getElem? (i := 27) rfl)
theorem d1_0 : decode prog_10_method_1_code 0 = .ok (.aload_n 0, 1) := by decide +kernel
theorem d1_1 : decode prog_10_method_1_code 1 = .ok (.invokespecial 1, 3) := by decide +kernel
theorem d2_0 : decode jdk_30_method_1_code 0 = .ok (.aload_n 0, 1) := by decide +kernel
theorem d2_1 : decode jdk_30_method_1_code 1 = .ok (.invokespecial 1, 3) := by decide +kernel
theorem w_13 {a0 : Array Value} {Z : State} (hw : ∀ d ∈ tables_1, d.before a0 Z = true) : Jvm.Cond.before (Jvm.Cond.methodLink "java/lang/Record" (1 : Nat) ({ cls := "java/lang/Object", name := "<init>", desc := "()V" } : Jvm.MethodName)) a0 Z = true := hw _ (List.mem_of_getElem? (i := 13) rfl)
theorem w_14 {a0 : Array Value} {Z : State} (hw : ∀ d ∈ tables_1, d.before a0 Z = true) : Jvm.Cond.before (Jvm.Cond.instanceMethod ({ cls := "java/lang/Object", name := "<init>", desc := "()V" } : Jvm.MethodName)) a0 Z = true := hw _ (List.mem_of_getElem? (i := 14) rfl)
theorem w_15 {a0 : Array Value} {Z : State} (hw : ∀ d ∈ tables_1, d.before a0 Z = true) : Jvm.Cond.before (Jvm.Cond.code ({ cls := "java/lang/Object", name := "<init>", desc := "()V" } : Jvm.MethodName) object_method_1_code (1 : Nat) (Option.none : Option Jvm.ClassFile.FieldType)) a0 Z = true := hw _ (List.mem_of_getElem? (i := 15) rfl)
theorem d2_4 : decode jdk_30_method_1_code 4 = .ok (.return_, 1) := by decide +kernel
abbrev y_0 : MethodName := ⟨"java/lang/Record", "<init>", "()V"⟩
theorem pn_0 : plainName "java/lang/Record" = true := by first | (simp [plainName, overriddenIn]; done) | decide +kernel
-- java/lang/Record.<init>()V
abbrev Rm1 : Room := { frames := 1, cells := 0, slots := 0, locals := 12 }
def Q1 (Z : State) (a1 : Addr) (h0 : Heap) (n0 : Nat) (v : Option Value) (h : Heap) (L : List Loc) : Prop := v = none ∧ Fr n0 L ∧ h = h0
theorem ef1 (a1 : Addr) (m : MethodId) : entryFrame m #[(.ref a1)] 1 = mkF m 0 #[.val (.ref a1)] [] := by first | (simp [entryFrame, mkF, argsToLocals, Value.category]; done) | rfl
theorem rm1 (l : Launch) (Z : State) (a0 : Array Value) (hw : ∀ d ∈ tables_1, d.before a0 Z = true) (ws : List Jvm.Cond) (a1 : Addr) (h0 : Heap) (n0 : Nat) (Z0 : n0 ≤ h0.size) :
    OwnMet l Z y_0 jdk_30_method_1_code 1 none ws Rm1 #[(.ref a1)] h0 (Q1 Z a1 h0 n0) := by
  refine own_body (plainFor_of_name pn_0) (ef1 a1) ?_
  intro p e s m below meth c s₁ hx hby hml hown hnm hret hZ X0 e0
  have N0 := Fr.nil n0
  obtain ⟨T2, X2, e2, st2⟩ := initO X0 hx hZ hown (w_13 hw) (w_14 hw) (w_15 hw) e0 (g := (mkF m 1 #[.val (.ref a1)] [(.ref a1)])) rfl (by rw [hml]; rfl) rfl (hb hby d2_1) (by decide) (W := 0) (by show 2 * 0 + _ ≤ _; exact Nat.le_of_eq rfl) (by decide)
  refine ⟨T2, _, _, _, none, X2, (fun _ => rfl), by decide, by decide, ?_, fun fs hr => ?_⟩
  · show Q1 Z a1 h0 n0 _ T2.heap _
    rw [e2]
    exact ⟨rfl, N0, rfl⟩
  · show Steps p.tables e below (s₁.setTop (mkF m 0 #[.val (.ref a1)] [])) _
    refine XS.aloadN X0.here hx rfl (hb hby d2_0) rfl rfl ?_
    refine st2 _ ?_
    exact X2.returnOut hx hret (hb hby d2_4) hr
theorem pd_0 : parseMethodDescriptor "()V" = some ⟨[], none⟩ := by decide +kernel
theorem w_11 {a0 : Array Value} {Z : State} (hw : ∀ d ∈ tables_1, d.before a0 Z = true) : Jvm.Cond.before (Jvm.Cond.initialized "java/lang/Record") a0 Z = true := hw _ (List.mem_of_getElem? (i := 11) rfl)
theorem w_12 {a0 : Array Value} {Z : State} (hw : ∀ d ∈ tables_1, d.before a0 Z = true) : Jvm.Cond.before (Jvm.Cond.code ({ cls := "java/lang/Record", name := "<init>", desc := "()V" } : Jvm.MethodName) jdk_30_method_1_code (1 : Nat) (Option.none : Option Jvm.ClassFile.FieldType)) a0 Z = true := hw _ (List.mem_of_getElem? (i := 12) rfl)
theorem w_8 {a0 : Array Value} {Z : State} (hw : ∀ d ∈ tables_1, d.before a0 Z = true) : Jvm.Cond.before (Jvm.Cond.methodLink "com/example/feedergen/feedergen/core/GeoPoint" (1 : Nat) ({ cls := "java/lang/Record", name := "<init>", desc := "()V" } : Jvm.MethodName)) a0 Z = true := hw _ (List.mem_of_getElem? (i := 8) rfl)
theorem w_9 {a0 : Array Value} {Z : State} (hw : ∀ d ∈ tables_1, d.before a0 Z = true) : Jvm.Cond.before (Jvm.Cond.instanceMethod ({ cls := "java/lang/Record", name := "<init>", desc := "()V" } : Jvm.MethodName)) a0 Z = true := hw _ (List.mem_of_getElem? (i := 9) rfl)
theorem d1_4 : decode prog_10_method_1_code 4 = .ok (.dload_n 1, 1) := by decide +kernel
theorem d1_5 : decode prog_10_method_1_code 5 = .ok (.invokestatic 7, 3) := by decide +kernel
theorem d4_0 : decode jdk_117_method_6_code 0 = .ok (.dload_n 0, 1) := by decide +kernel
theorem d4_1 : decode jdk_117_method_6_code 1 = .ok (.dload_n 0, 1) := by decide +kernel
theorem d4_2 : decode jdk_117_method_6_code 2 = .ok (.dcmp .l, 1) := by decide +kernel
theorem d4_3 : decode jdk_117_method_6_code 3 = .ok (.ifCond .eq 7, 3) := by decide +kernel
theorem d4_10 : decode jdk_117_method_6_code 10 = .ok (.iconst 0, 1) := by decide +kernel
theorem d4_11 : decode jdk_117_method_6_code 11 = .ok (.ireturn, 1) := by decide +kernel
abbrev y_1 : MethodName := ⟨"java/lang/Double", "isNaN", "(D)Z"⟩
theorem pn_1 : plainName "java/lang/Double" = true := by first | (simp [plainName, overriddenIn]; done) | decide +kernel
-- java/lang/Double.isNaN(D)Z
abbrev Rm2 : Room := { frames := 0, cells := 0, slots := 0, locals := 0 }
def Q2 (Z : State)  (h0 : Heap) (n0 : Nat) (v : Option Value) (h : Heap) (L : List Loc) : Prop := v = some (.int (0 : Int32)) ∧ Fr n0 L ∧ h = h0
theorem ef2  (m : MethodId) : entryFrame m #[(.double (0 : UInt64))] 2 = mkF m 0 #[.val (.double (0 : UInt64)), .second] [] := by first | (simp [entryFrame, mkF, argsToLocals, Value.category]; done) | rfl
theorem rm2 (l : Launch) (Z : State) (a0 : Array Value) (hw : ∀ d ∈ tables_1, d.before a0 Z = true) (ws : List Jvm.Cond)  (h0 : Heap) (n0 : Nat) (Z0 : n0 ≤ h0.size) :
    OwnMet l Z y_1 jdk_117_method_6_code 2 (some .boolean) ws Rm2 #[(.double (0 : UInt64))] h0 (Q2 Z  h0 n0) := by
  refine own_body (plainFor_of_name pn_1) (ef2) ?_
  intro p e s m below meth c s₁ hx hby hml hown hnm hret hZ X0 e0
  have N0 := Fr.nil n0
  refine ⟨s₁, _, _, _, (some (.int (0 : Int32))), X0, nofun, by decide, by decide, ?_, fun fs hr => ?_⟩
  · show Q2 Z  h0 n0 _ s₁.heap _
    rw [e0]
    exact ⟨rfl, N0, rfl⟩
  · show Steps p.tables e below (s₁.setTop (mkF m 0 #[.val (.double (0 : UInt64)), .second] [])) _
    refine XS.dloadN X0.here hx rfl (hb hby d4_0) rfl ?_
    refine XS.dloadN X0.here hx rfl (hb hby d4_1) rfl ?_
    refine XS.dcmpS X0.here hx rfl (hb hby d4_2) rfl (by decide +kernel : (cmpValue (FP.dcmp (0 : UInt64) (0 : UInt64)) .l) = (0 : Int32)) ?_
    refine XS.ifYes X0.here hx rfl (pc0 := 3) (pc' := 10) rfl (hb hby d4_3) rfl ((if0 _ _).trans (teq ((by decide : (0 : Int32) = (0 : Int32)) : (0 : Int32) = (0 : Int32))).1) (by decide) (by decide) ?_
    refine XS.iconst X0.here hx rfl (hb hby d4_10) ?_
    exact retN X0 hx (t := .boolean) hret (by simp) (hb hby d4_11) hr
theorem pd_1 : parseMethodDescriptor "(D)Z" = some ⟨[.double], some .boolean⟩ := by decide +kernel
theorem w_18 {a0 : Array Value} {Z : State} (hw : ∀ d ∈ tables_1, d.before a0 Z = true) : Jvm.Cond.before (Jvm.Cond.initialized "java/lang/Double") a0 Z = true := hw _ (List.mem_of_getElem? (i := 18) rfl)
theorem w_19 {a0 : Array Value} {Z : State} (hw : ∀ d ∈ tables_1, d.before a0 Z = true) : Jvm.Cond.before (Jvm.Cond.code ({ cls := "java/lang/Double", name := "isNaN", desc := "(D)Z" } : Jvm.MethodName) jdk_117_method_6_code (2 : Nat) (Option.some Jvm.ClassFile.FieldType.boolean)) a0 Z = true := hw _ (List.mem_of_getElem? (i := 19) rfl)
theorem w_16 {a0 : Array Value} {Z : State} (hw : ∀ d ∈ tables_1, d.before a0 Z = true) : Jvm.Cond.before (Jvm.Cond.methodLink "com/example/feedergen/feedergen/core/GeoPoint" (7 : Nat) ({ cls := "java/lang/Double", name := "isNaN", desc := "(D)Z" } : Jvm.MethodName)) a0 Z = true := hw _ (List.mem_of_getElem? (i := 16) rfl)
theorem w_17 {a0 : Array Value} {Z : State} (hw : ∀ d ∈ tables_1, d.before a0 Z = true) : Jvm.Cond.before (Jvm.Cond.static ({ cls := "java/lang/Double", name := "isNaN", desc := "(D)Z" } : Jvm.MethodName)) a0 Z = true := hw _ (List.mem_of_getElem? (i := 17) rfl)
theorem d1_8 : decode prog_10_method_1_code 8 = .ok (.ifCond .ne 19, 3) := by decide +kernel
theorem d1_11 : decode prog_10_method_1_code 11 = .ok (.dload_n 1, 1) := by decide +kernel
theorem d1_12 : decode prog_10_method_1_code 12 = .ok (.ldc2_w 13, 3) := by decide +kernel
theorem w_20 {a0 : Array Value} {Z : State} (hw : ∀ d ∈ tables_1, d.before a0 Z = true) : Jvm.Cond.before (Jvm.Cond.constantDouble "com/example/feedergen/feedergen/core/GeoPoint" (13 : Nat) (13863909240395005952 : UInt64)) a0 Z = true := hw _ (List.mem_of_getElem? (i := 20) rfl)
theorem d1_15 : decode prog_10_method_1_code 15 = .ok (.dcmp .g, 1) := by decide +kernel
theorem d1_16 : decode prog_10_method_1_code 16 = .ok (.ifCond .lt 11, 3) := by decide +kernel
theorem d1_19 : decode prog_10_method_1_code 19 = .ok (.dload_n 1, 1) := by decide +kernel
theorem d1_20 : decode prog_10_method_1_code 20 = .ok (.ldc2_w 15, 3) := by decide +kernel
theorem w_21 {a0 : Array Value} {Z : State} (hw : ∀ d ∈ tables_1, d.before a0 Z = true) : Jvm.Cond.before (Jvm.Cond.constantDouble "com/example/feedergen/feedergen/core/GeoPoint" (15 : Nat) (4640537203540230144 : UInt64)) a0 Z = true := hw _ (List.mem_of_getElem? (i := 21) rfl)
theorem d1_23 : decode prog_10_method_1_code 23 = .ok (.dcmp .l, 1) := by decide +kernel
theorem d1_24 : decode prog_10_method_1_code 24 = .ok (.ifCond .le 17, 3) := by decide +kernel
theorem d1_41 : decode prog_10_method_1_code 41 = .ok (.dload_n 3, 1) := by decide +kernel
theorem d1_42 : decode prog_10_method_1_code 42 = .ok (.invokestatic 7, 3) := by decide +kernel
theorem d1_45 : decode prog_10_method_1_code 45 = .ok (.ifCond .ne 19, 3) := by decide +kernel
theorem d1_48 : decode prog_10_method_1_code 48 = .ok (.dload_n 3, 1) := by decide +kernel
theorem d1_49 : decode prog_10_method_1_code 49 = .ok (.ldc2_w 26, 3) := by decide +kernel
theorem w_22 {a0 : Array Value} {Z : State} (hw : ∀ d ∈ tables_1, d.before a0 Z = true) : Jvm.Cond.before (Jvm.Cond.constantDouble "com/example/feedergen/feedergen/core/GeoPoint" (26 : Nat) (13859405640767635456 : UInt64)) a0 Z = true := hw _ (List.mem_of_getElem? (i := 22) rfl)
theorem d1_52 : decode prog_10_method_1_code 52 = .ok (.dcmp .g, 1) := by decide +kernel
theorem d1_53 : decode prog_10_method_1_code 53 = .ok (.ifCond .lt 11, 3) := by decide +kernel
theorem d1_56 : decode prog_10_method_1_code 56 = .ok (.dload_n 3, 1) := by decide +kernel
theorem d1_57 : decode prog_10_method_1_code 57 = .ok (.ldc2_w 28, 3) := by decide +kernel
theorem w_23 {a0 : Array Value} {Z : State} (hw : ∀ d ∈ tables_1, d.before a0 Z = true) : Jvm.Cond.before (Jvm.Cond.constantDouble "com/example/feedergen/feedergen/core/GeoPoint" (28 : Nat) (4636033603912859648 : UInt64)) a0 Z = true := hw _ (List.mem_of_getElem? (i := 23) rfl)
theorem d1_60 : decode prog_10_method_1_code 60 = .ok (.dcmp .l, 1) := by decide +kernel
theorem d1_61 : decode prog_10_method_1_code 61 = .ok (.ifCond .le 17, 3) := by decide +kernel
theorem d1_78 : decode prog_10_method_1_code 78 = .ok (.aload_n 0, 1) := by decide +kernel
theorem d1_79 : decode prog_10_method_1_code 79 = .ok (.dload_n 1, 1) := by decide +kernel
theorem d1_80 : decode prog_10_method_1_code 80 = .ok (.putfield 31, 3) := by decide +kernel
theorem w_24 {a0 : Array Value} {Z : State} (hw : ∀ d ∈ tables_1, d.before a0 Z = true) : Jvm.Cond.before (Jvm.Cond.fieldLink "com/example/feedergen/feedergen/core/GeoPoint" (31 : Nat) "com/example/feedergen/feedergen/core/GeoPoint" "lon" "D") a0 Z = true := hw _ (List.mem_of_getElem? (i := 24) rfl)
theorem d1_83 : decode prog_10_method_1_code 83 = .ok (.aload_n 0, 1) := by decide +kernel
theorem d1_84 : decode prog_10_method_1_code 84 = .ok (.dload_n 3, 1) := by decide +kernel
theorem d1_85 : decode prog_10_method_1_code 85 = .ok (.putfield 37, 3) := by decide +kernel
theorem w_26 {a0 : Array Value} {Z : State} (hw : ∀ d ∈ tables_1, d.before a0 Z = true) : Jvm.Cond.before (Jvm.Cond.fieldLink "com/example/feedergen/feedergen/core/GeoPoint" (37 : Nat) "com/example/feedergen/feedergen/core/GeoPoint" "lat" "D") a0 Z = true := hw _ (List.mem_of_getElem? (i := 26) rfl)
theorem d1_88 : decode prog_10_method_1_code 88 = .ok (.return_, 1) := by decide +kernel
abbrev y_2 : MethodName := ⟨"com/example/feedergen/feedergen/core/GeoPoint", "<init>", "(DD)V"⟩
theorem pn_2 : plainName "com/example/feedergen/feedergen/core/GeoPoint" = true := by first | (simp [plainName, overriddenIn]; done) | decide +kernel
-- com/example/feedergen/feedergen/core/GeoPoint.<init>(DD)V
abbrev Rm3 : Room := { frames := 2, cells := 0, slots := 0, locals := 24 }
def Q3 (Z : State) (a1 : Addr) (h0 : Heap) (n0 : Nat) (v : Option Value) (h : Heap) (L : List Loc) : Prop := v = none ∧ Fr n0 L ∧ Keep h0 h [a1] ∧ Exa Z h a1 "com/example/feedergen/feedergen/core/GeoPoint" ∧ Fld Z h a1 "com/example/feedergen/feedergen/core/GeoPoint" "lat" "D" (.double (0 : UInt64)) ∧ Fld Z h a1 "com/example/feedergen/feedergen/core/GeoPoint" "lon" "D" (.double (0 : UInt64))
theorem ef3 (a1 : Addr) (m : MethodId) : entryFrame m #[(.ref a1), (.double (0 : UInt64)), (.double (0 : UInt64))] 5 = mkF m 0 #[.val (.ref a1), .val (.double (0 : UInt64)), .second, .val (.double (0 : UInt64)), .second] [] := by first | (simp [entryFrame, mkF, argsToLocals, Value.category]; done) | rfl
theorem rm3 (l : Launch) (Z : State) (a0 : Array Value) (hw : ∀ d ∈ tables_1, d.before a0 Z = true) (ws : List Jvm.Cond) (a1 : Addr) (h0 : Heap) (n0 : Nat) (Z0 : n0 ≤ h0.size) (F_lon_a1 : Fld Z h0 a1 "com/example/feedergen/feedergen/core/GeoPoint" "lon" "D" (.double (0 : UInt64))) (E_a1 : Exa Z h0 a1 "com/example/feedergen/feedergen/core/GeoPoint") (g_a1 : n0 ≤ a1) (F_lat_a1 : Fld Z h0 a1 "com/example/feedergen/feedergen/core/GeoPoint" "lat" "D" (.double (0 : UInt64))) :
    OwnMet l Z y_2 prog_10_method_1_code 5 none ws Rm3 #[(.ref a1), (.double (0 : UInt64)), (.double (0 : UInt64))] h0 (Q3 Z a1 h0 n0) := by
  refine own_body (plainFor_of_name pn_2) (ef3 a1) ?_
  intro p e s m below meth c s₁ hx hby hml hown hnm hret hZ X0 e0
  have N0 := Fr.nil n0
  obtain ⟨_, T2, L2, X2, hQ2, st2⟩ := own_special X0 hx hZ hown (y := y_0) (a := a1) (w_8 hw) (w_9 hw) (w_11 hw) (w_12 hw) (rm1 l Z a0 hw [] a1 h0 n0 Z0) e0 (Ls := #[.val (.ref a1), .val (.double (0 : UInt64)), .second, .val (.double (0 : UInt64)), .second]) (by rw [hml]; rfl) (argsL := []) (rest := []) (lenOf pd_0 rfl) (hb hby d1_1) (W := 0)
  obtain ⟨rfl, Nq2, e2⟩ := hQ2
  have N2 := Fr.app N0 Nq2
  obtain ⟨_, T3, L3, X3, hQ3, st3⟩ := own_callS X2 hx hZ hown (y := y_1) (w_16 hw) (w_17 hw) (w_18 hw) (w_19 hw) (rm2 l Z a0 hw []  h0 n0 Z0) e2 (Ls := #[.val (.ref a1), .val (.double (0 : UInt64)), .second, .val (.double (0 : UInt64)), .second]) (by rw [hml]; rfl) (argsL := [(.double (0 : UInt64))]) (rest := []) (lenOf pd_1 rfl) (hb hby d1_5) (W := 0)
  obtain ⟨rfl, Nq3, e3⟩ := hQ3
  have N3 := Fr.app N2 Nq3
  obtain ⟨_, T4, L4, X4, hQ4, st4⟩ := own_callS X3 hx hZ hown (y := y_1) (w_16 hw) (w_17 hw) (w_18 hw) (w_19 hw) (rm2 l Z a0 hw []  h0 n0 Z0) e3 (Ls := #[.val (.ref a1), .val (.double (0 : UInt64)), .second, .val (.double (0 : UInt64)), .second]) (by rw [hml]; rfl) (argsL := [(.double (0 : UInt64))]) (rest := []) (lenOf pd_1 rfl) (hb hby d1_42) (W := 0)
  obtain ⟨rfl, Nq4, e4⟩ := hQ4
  have N4 := Fr.app N3 Nq4
  obtain ⟨T5, h5, X5, e5, W5, st5⟩ := putF X4 hx hZ hown (host := "") (Or.inl (w_24 hw)) Via.refl e4 F_lon_a1 E_a1 (Or.inr ⟨(w_25 hw), rfl, hnm⟩) (w_3 hw) (ty := .double) (by decide) rfl rfl (g := (mkF m 80 #[.val (.ref a1), .val (.double (0 : UInt64)), .second, .val (.double (0 : UInt64)), .second] [(.double (0 : UInt64)), (.ref a1)])) rfl rfl (hb hby d1_80)
  have s0 := (Keep.of_wr W5).1
  have N5 := Fr.snoc X5 N4 g_a1
  have Fw5 : Fld Z h5 a1 "com/example/feedergen/feedergen/core/GeoPoint" "lon" "D" (.double (0 : UInt64)) := F_lon_a1.same W5
  have Ex6 := (E_a1.wr W5)
  have Fl7 := (F_lat_a1.other W5 (Or.inr (slot_ne (Or.inr (w_27 hw)) (Or.inr (w_25 hw)) (by decide) (t := .double) (t' := .double) (by decide) (by decide))))
  obtain ⟨T8, h8, X8, e8, W8, st8⟩ := putF X5 hx hZ hown (host := "") (Or.inl (w_26 hw)) Via.refl e5 Fl7 Ex6 (Or.inr ⟨(w_27 hw), rfl, hnm⟩) (w_3 hw) (ty := .double) (by decide) rfl rfl (g := (mkF m 85 #[.val (.ref a1), .val (.double (0 : UInt64)), .second, .val (.double (0 : UInt64)), .second] [(.double (0 : UInt64)), (.ref a1)])) rfl rfl (hb hby d1_85)
  have s1 := (Keep.of_wr W8).1
  have N8 := Fr.snoc X8 N5 g_a1
  have Fw8 : Fld Z h8 a1 "com/example/feedergen/feedergen/core/GeoPoint" "lat" "D" (.double (0 : UInt64)) := Fl7.same W8
  have Ex9 := (Ex6.wr W8)
  have Fl10 := (Fw5.other W8 (Or.inr (slot_ne (Or.inr (w_25 hw)) (Or.inr (w_27 hw)) (by decide) (t := .double) (t' := .double) (by decide) (by decide))))
  have Kp0 : Keep h0 h5 [a1] := (Keep.refl h0 [a1]).wr W5 (Or.inl (List.mem_of_getElem? (i := 0) rfl))
  have Kp1 : Keep h0 h8 [a1] := Kp0.wr W8 (Or.inl (List.mem_of_getElem? (i := 0) rfl))
  refine ⟨T8, _, _, _, none, X8, (fun _ => rfl), by decide, by decide, ?_, fun fs hr => ?_⟩
  · show Q3 Z a1 h0 n0 _ T8.heap _
    rw [e8]
    exact ⟨rfl, N8, Kp1, Ex9, Fw8, Fl10⟩
  · show Steps p.tables e below (s₁.setTop (mkF m 0 #[.val (.ref a1), .val (.double (0 : UInt64)), .second, .val (.double (0 : UInt64)), .second] [])) _
    refine XS.aloadN X0.here hx rfl (hb hby d1_0) rfl rfl ?_
    refine st2 _ ?_
    refine XS.dloadN X2.here hx rfl (hb hby d1_4) rfl ?_
    refine st3 _ ?_
    refine XS.ifNo X3.here hx rfl (hb hby d1_8) rfl ((if0 _ _).trans (teq ((by decide : (0 : Int32) = (0 : Int32)) : (0 : Int32) = (0 : Int32))).2) ?_
    refine XS.dloadN X3.here hx rfl (hb hby d1_11) rfl ?_
    refine X3.ldc2DoubleC hx hown (mvT hZ (w_20 hw)) (g := (mkF m 12 #[.val (.ref a1), .val (.double (0 : UInt64)), .second, .val (.double (0 : UInt64)), .second] [(.double (0 : UInt64))])) rfl (hb hby d1_12) _ ?_
    refine XS.dcmpS X3.here hx rfl (hb hby d1_15) rfl (by decide +kernel : (cmpValue (FP.dcmp (0 : UInt64) (13863909240395005952 : UInt64)) .g) = (1 : Int32)) ?_
    refine XS.ifNo X3.here hx rfl (hb hby d1_16) rfl ((if0 _ _).trans (flt ((by decide : ¬ ((1 : Int32) < (0 : Int32))) : ¬ ((1 : Int32) < (0 : Int32)))).1) ?_
    refine XS.dloadN X3.here hx rfl (hb hby d1_19) rfl ?_
    refine X3.ldc2DoubleC hx hown (mvT hZ (w_21 hw)) (g := (mkF m 20 #[.val (.ref a1), .val (.double (0 : UInt64)), .second, .val (.double (0 : UInt64)), .second] [(.double (0 : UInt64))])) rfl (hb hby d1_20) _ ?_
    refine XS.dcmpS X3.here hx rfl (hb hby d1_23) rfl (by decide +kernel : (cmpValue (FP.dcmp (0 : UInt64) (4640537203540230144 : UInt64)) .l) = (-1 : Int32)) ?_
    show Steps p.tables e below (T3.setTop (mkF m 24 #[.val (.ref a1), .val (.double (0 : UInt64)), .second, .val (.double (0 : UInt64)), .second] [(.int (-1 : Int32))])) _
    refine XS.ifYes X3.here hx rfl (pc0 := 24) (pc' := 41) rfl (hb hby d1_24) rfl ((if0 _ _).trans (flt ((by decide : ¬ ((0 : Int32) < (-1 : Int32))) : ¬ ((0 : Int32) < (-1 : Int32)))).2.2.2) (by decide) (by decide) ?_
    refine XS.dloadN X3.here hx rfl (hb hby d1_41) rfl ?_
    refine st4 _ ?_
    refine XS.ifNo X4.here hx rfl (hb hby d1_45) rfl ((if0 _ _).trans (teq ((by decide : (0 : Int32) = (0 : Int32)) : (0 : Int32) = (0 : Int32))).2) ?_
    refine XS.dloadN X4.here hx rfl (hb hby d1_48) rfl ?_
    refine X4.ldc2DoubleC hx hown (mvT hZ (w_22 hw)) (g := (mkF m 49 #[.val (.ref a1), .val (.double (0 : UInt64)), .second, .val (.double (0 : UInt64)), .second] [(.double (0 : UInt64))])) rfl (hb hby d1_49) _ ?_
    refine XS.dcmpS X4.here hx rfl (hb hby d1_52) rfl (by decide +kernel : (cmpValue (FP.dcmp (0 : UInt64) (13859405640767635456 : UInt64)) .g) = (1 : Int32)) ?_
    refine XS.ifNo X4.here hx rfl (hb hby d1_53) rfl ((if0 _ _).trans (flt ((by decide : ¬ ((1 : Int32) < (0 : Int32))) : ¬ ((1 : Int32) < (0 : Int32)))).1) ?_
    refine XS.dloadN X4.here hx rfl (hb hby d1_56) rfl ?_
    refine X4.ldc2DoubleC hx hown (mvT hZ (w_23 hw)) (g := (mkF m 57 #[.val (.ref a1), .val (.double (0 : UInt64)), .second, .val (.double (0 : UInt64)), .second] [(.double (0 : UInt64))])) rfl (hb hby d1_57) _ ?_
    refine XS.dcmpS X4.here hx rfl (hb hby d1_60) rfl (by decide +kernel : (cmpValue (FP.dcmp (0 : UInt64) (4636033603912859648 : UInt64)) .l) = (-1 : Int32)) ?_
    refine XS.ifYes X4.here hx rfl (pc0 := 61) (pc' := 78) rfl (hb hby d1_61) rfl ((if0 _ _).trans (flt ((by decide : ¬ ((0 : Int32) < (-1 : Int32))) : ¬ ((0 : Int32) < (-1 : Int32)))).2.2.2) (by decide) (by decide) ?_
    show Steps p.tables e below (T4.setTop (mkF m 78 #[.val (.ref a1), .val (.double (0 : UInt64)), .second, .val (.double (0 : UInt64)), .second] [])) _
    refine XS.aloadN X4.here hx rfl (hb hby d1_78) rfl rfl ?_
    refine XS.dloadN X4.here hx rfl (hb hby d1_79) rfl ?_
    refine st5 _ ?_
    refine XS.aloadN X5.here hx rfl (hb hby d1_83) rfl rfl ?_
    refine XS.dloadN X5.here hx rfl (hb hby d1_84) rfl ?_
    refine st8 _ ?_
    exact X8.returnOut hx hret (hb hby d1_88) hr
theorem pd_2 : parseMethodDescriptor "(DD)V" = some ⟨[.double, .double], none⟩ := by decide +kernel
theorem w_7 {a0 : Array Value} {Z : State} (hw : ∀ d ∈ tables_1, d.before a0 Z = true) : Jvm.Cond.before (Jvm.Cond.code ({ cls := "com/example/feedergen/feedergen/core/GeoPoint", name := "<init>", desc := "(DD)V" } : Jvm.MethodName) prog_10_method_1_code (5 : Nat) (Option.none : Option Jvm.ClassFile.FieldType)) a0 Z = true := hw _ (List.mem_of_getElem? (i := 7) rfl)
theorem w_5 {a0 : Array Value} {Z : State} (hw : ∀ d ∈ tables_1, d.before a0 Z = true) : Jvm.Cond.before (Jvm.Cond.methodLink "com/example/feedergen/feedergen/core/StreetLinkLastPinLaw" (10 : Nat) ({ cls := "com/example/feedergen/feedergen/core/GeoPoint", name := "<init>", desc := "(DD)V" } : Jvm.MethodName)) a0 Z = true := hw _ (List.mem_of_getElem? (i := 5) rfl)
theorem w_6 {a0 : Array Value} {Z : State} (hw : ∀ d ∈ tables_1, d.before a0 Z = true) : Jvm.Cond.before (Jvm.Cond.instanceMethod ({ cls := "com/example/feedergen/feedergen/core/GeoPoint", name := "<init>", desc := "(DD)V" } : Jvm.MethodName)) a0 Z = true := hw _ (List.mem_of_getElem? (i := 6) rfl)
theorem w_28 {a0 : Array Value} {Z : State} (hw : ∀ d ∈ tables_1, d.before a0 Z = true) : Jvm.Cond.before (Jvm.Cond.classLink "com/example/feedergen/feedergen/core/StreetLinkLastPinLaw" (13 : Nat) "java/util/ArrayList") a0 Z = true := hw _ (List.mem_of_getElem? (i := 28) rfl)
theorem w_29 {a0 : Array Value} {Z : State} (hw : ∀ d ∈ tables_1, d.before a0 Z = true) : Jvm.Cond.before (Jvm.Cond.instantiable "java/util/ArrayList" (3 : Nat)) a0 Z = true := hw _ (List.mem_of_getElem? (i := 29) rfl)
theorem w_30 {a0 : Array Value} {Z : State} (hw : ∀ d ∈ tables_1, d.before a0 Z = true) : Jvm.Cond.before (Jvm.Cond.initialized "java/util/ArrayList") a0 Z = true := hw _ (List.mem_of_getElem? (i := 30) rfl)
theorem w_48 {a0 : Array Value} {Z : State} (hw : ∀ d ∈ tables_1, d.before a0 Z = true) : Jvm.Cond.before (Jvm.Cond.lays "java/util/ArrayList" "java/util/AbstractList" "modCount" "I") a0 Z = true := hw _ (List.mem_of_getElem? (i := 48) rfl)
theorem w_51 {a0 : Array Value} {Z : State} (hw : ∀ d ∈ tables_1, d.before a0 Z = true) : Jvm.Cond.before (Jvm.Cond.lays "java/util/ArrayList" "java/util/ArrayList" "elementData" "[Ljava/lang/Object;") a0 Z = true := hw _ (List.mem_of_getElem? (i := 51) rfl)
theorem w_60 {a0 : Array Value} {Z : State} (hw : ∀ d ∈ tables_1, d.before a0 Z = true) : Jvm.Cond.before (Jvm.Cond.lays "java/util/ArrayList" "java/util/ArrayList" "size" "I") a0 Z = true := hw _ (List.mem_of_getElem? (i := 60) rfl)
theorem d5_0 : decode jdk_38_method_2_code 0 = .ok (.aload_n 0, 1) := by decide +kernel
theorem d5_1 : decode jdk_38_method_2_code 1 = .ok (.invokespecial 1, 3) := by decide +kernel
theorem d6_0 : decode jdk_39_method_1_code 0 = .ok (.aload_n 0, 1) := by decide +kernel
theorem d6_1 : decode jdk_39_method_1_code 1 = .ok (.invokespecial 1, 3) := by decide +kernel
theorem d7_0 : decode jdk_22_method_1_code 0 = .ok (.aload_n 0, 1) := by decide +kernel
theorem d7_1 : decode jdk_22_method_1_code 1 = .ok (.invokespecial 1, 3) := by decide +kernel
theorem w_46 {a0 : Array Value} {Z : State} (hw : ∀ d ∈ tables_1, d.before a0 Z = true) : Jvm.Cond.before (Jvm.Cond.methodLink "java/util/AbstractCollection" (1 : Nat) ({ cls := "java/lang/Object", name := "<init>", desc := "()V" } : Jvm.MethodName)) a0 Z = true := hw _ (List.mem_of_getElem? (i := 46) rfl)
theorem d7_4 : decode jdk_22_method_1_code 4 = .ok (.return_, 1) := by decide +kernel
abbrev y_3 : MethodName := ⟨"java/util/AbstractCollection", "<init>", "()V"⟩
theorem pn_3 : plainName "java/util/AbstractCollection" = true := by first | (simp [plainName, overriddenIn]; done) | decide +kernel
-- java/util/AbstractCollection.<init>()V
abbrev Rm4 : Room := { frames := 1, cells := 0, slots := 0, locals := 12 }
def Q4 (Z : State) (a1 : Addr) (h0 : Heap) (n0 : Nat) (v : Option Value) (h : Heap) (L : List Loc) : Prop := v = none ∧ Fr n0 L ∧ h = h0
theorem ef4 (a1 : Addr) (m : MethodId) : entryFrame m #[(.ref a1)] 1 = mkF m 0 #[.val (.ref a1)] [] := by first | (simp [entryFrame, mkF, argsToLocals, Value.category]; done) | rfl
theorem rm4 (l : Launch) (Z : State) (a0 : Array Value) (hw : ∀ d ∈ tables_1, d.before a0 Z = true) (ws : List Jvm.Cond) (a1 : Addr) (h0 : Heap) (n0 : Nat) (Z0 : n0 ≤ h0.size) :
    OwnMet l Z y_3 jdk_22_method_1_code 1 none ws Rm4 #[(.ref a1)] h0 (Q4 Z a1 h0 n0) := by
  refine own_body (plainFor_of_name pn_3) (ef4 a1) ?_
  intro p e s m below meth c s₁ hx hby hml hown hnm hret hZ X0 e0
  have N0 := Fr.nil n0
  obtain ⟨T2, X2, e2, st2⟩ := initO X0 hx hZ hown (w_46 hw) (w_14 hw) (w_15 hw) e0 (g := (mkF m 1 #[.val (.ref a1)] [(.ref a1)])) rfl (by rw [hml]; rfl) rfl (hb hby d7_1) (by decide) (W := 0) (by show 2 * 0 + _ ≤ _; exact Nat.le_of_eq rfl) (by decide)
  refine ⟨T2, _, _, _, none, X2, (fun _ => rfl), by decide, by decide, ?_, fun fs hr => ?_⟩
  · show Q4 Z a1 h0 n0 _ T2.heap _
    rw [e2]
    exact ⟨rfl, N0, rfl⟩
  · show Steps p.tables e below (s₁.setTop (mkF m 0 #[.val (.ref a1)] [])) _
    refine XS.aloadN X0.here hx rfl (hb hby d7_0) rfl rfl ?_
    refine st2 _ ?_
    exact X2.returnOut hx hret (hb hby d7_4) hr
theorem w_44 {a0 : Array Value} {Z : State} (hw : ∀ d ∈ tables_1, d.before a0 Z = true) : Jvm.Cond.before (Jvm.Cond.initialized "java/util/AbstractCollection") a0 Z = true := hw _ (List.mem_of_getElem? (i := 44) rfl)
theorem w_45 {a0 : Array Value} {Z : State} (hw : ∀ d ∈ tables_1, d.before a0 Z = true) : Jvm.Cond.before (Jvm.Cond.code ({ cls := "java/util/AbstractCollection", name := "<init>", desc := "()V" } : Jvm.MethodName) jdk_22_method_1_code (1 : Nat) (Option.none : Option Jvm.ClassFile.FieldType)) a0 Z = true := hw _ (List.mem_of_getElem? (i := 45) rfl)
theorem w_40 {a0 : Array Value} {Z : State} (hw : ∀ d ∈ tables_1, d.before a0 Z = true) : Jvm.Cond.before (Jvm.Cond.methodLink "java/util/AbstractList" (1 : Nat) ({ cls := "java/util/AbstractCollection", name := "<init>", desc := "()V" } : Jvm.MethodName)) a0 Z = true := hw _ (List.mem_of_getElem? (i := 40) rfl)
theorem w_41 {a0 : Array Value} {Z : State} (hw : ∀ d ∈ tables_1, d.before a0 Z = true) : Jvm.Cond.before (Jvm.Cond.instanceMethod ({ cls := "java/util/AbstractCollection", name := "<init>", desc := "()V" } : Jvm.MethodName)) a0 Z = true := hw _ (List.mem_of_getElem? (i := 41) rfl)
theorem d6_4 : decode jdk_39_method_1_code 4 = .ok (.aload_n 0, 1) := by decide +kernel
theorem d6_5 : decode jdk_39_method_1_code 5 = .ok (.iconst 0, 1) := by decide +kernel
theorem d6_6 : decode jdk_39_method_1_code 6 = .ok (.putfield 7, 3) := by decide +kernel
theorem w_47 {a0 : Array Value} {Z : State} (hw : ∀ d ∈ tables_1, d.before a0 Z = true) : Jvm.Cond.before (Jvm.Cond.fieldLink "java/util/AbstractList" (7 : Nat) "java/util/AbstractList" "modCount" "I") a0 Z = true := hw _ (List.mem_of_getElem? (i := 47) rfl)
theorem d6_9 : decode jdk_39_method_1_code 9 = .ok (.return_, 1) := by decide +kernel
abbrev y_4 : MethodName := ⟨"java/util/AbstractList", "<init>", "()V"⟩
theorem pn_4 : plainName "java/util/AbstractList" = true := by first | (simp [plainName, overriddenIn]; done) | decide +kernel
-- java/util/AbstractList.<init>()V
abbrev Rm5 : Room := { frames := 2, cells := 0, slots := 0, locals := 24 }
def Q5 (Z : State) (a1 : Addr) (h0 : Heap) (n0 : Nat) (v : Option Value) (h : Heap) (L : List Loc) : Prop := v = none ∧ Fr n0 L ∧ Keep h0 h [a1] ∧ Exa Z h a1 "java/util/ArrayList" ∧ Fld Z h a1 "java/util/AbstractList" "modCount" "I" (.int (0 : Int32)) ∧ Fld Z h a1 "java/util/ArrayList" "elementData" "[Ljava/lang/Object;" .null ∧ Fld Z h a1 "java/util/ArrayList" "size" "I" (.int (0 : Int32))
theorem ef5 (a1 : Addr) (m : MethodId) : entryFrame m #[(.ref a1)] 1 = mkF m 0 #[.val (.ref a1)] [] := by first | (simp [entryFrame, mkF, argsToLocals, Value.category]; done) | rfl
theorem rm5 (l : Launch) (Z : State) (a0 : Array Value) (hw : ∀ d ∈ tables_1, d.before a0 Z = true) (ws : List Jvm.Cond) (a1 : Addr) (h0 : Heap) (n0 : Nat) (Z0 : n0 ≤ h0.size) (F_modCount_a1 : Fld Z h0 a1 "java/util/AbstractList" "modCount" "I" (.int (0 : Int32))) (E_a1 : Exa Z h0 a1 "java/util/ArrayList") (g_a1 : n0 ≤ a1) (F_elementData_a1 : Fld Z h0 a1 "java/util/ArrayList" "elementData" "[Ljava/lang/Object;" .null) (F_size_a1 : Fld Z h0 a1 "java/util/ArrayList" "size" "I" (.int (0 : Int32))) :
    OwnMet l Z y_4 jdk_39_method_1_code 1 none ws Rm5 #[(.ref a1)] h0 (Q5 Z a1 h0 n0) := by
  refine own_body (plainFor_of_name pn_4) (ef5 a1) ?_
  intro p e s m below meth c s₁ hx hby hml hown hnm hret hZ X0 e0
  have N0 := Fr.nil n0
  obtain ⟨_, T2, L2, X2, hQ2, st2⟩ := own_special X0 hx hZ hown (y := y_3) (a := a1) (w_40 hw) (w_41 hw) (w_44 hw) (w_45 hw) (rm4 l Z a0 hw [] a1 h0 n0 Z0) e0 (Ls := #[.val (.ref a1)]) (by rw [hml]; rfl) (argsL := []) (rest := []) (lenOf pd_0 rfl) (hb hby d6_1) (W := 0)
  obtain ⟨rfl, Nq2, e2⟩ := hQ2
  have N2 := Fr.app N0 Nq2
  obtain ⟨T3, h3, X3, e3, W3, st3⟩ := putF X2 hx hZ hown (host := "") (Or.inl (w_47 hw)) Via.refl e2 F_modCount_a1 E_a1 (Or.inl (w_48 hw)) (w_29 hw) (ty := .int) (by decide) rfl rfl (g := (mkF m 6 #[.val (.ref a1)] [(.int (0 : Int32)), (.ref a1)])) rfl rfl (hb hby d6_6)
  have s0 := (Keep.of_wr W3).1
  have N3 := Fr.snoc X3 N2 g_a1
  have Fw3 : Fld Z h3 a1 "java/util/AbstractList" "modCount" "I" (.int (0 : Int32)) := F_modCount_a1.same W3
  have Ex4 := (E_a1.wr W3)
  have Fl5 := (F_elementData_a1.other W3 (Or.inr (slot_ne (Or.inl (w_51 hw)) (Or.inl (w_48 hw)) (by decide) (t := (.array (.object "java/lang/Object"))) (t' := .int) (by decide) (by decide))))
  have Fl6 := (F_size_a1.other W3 (Or.inr (slot_ne (Or.inl (w_60 hw)) (Or.inl (w_48 hw)) (by decide) (t := .int) (t' := .int) (by decide) (by decide))))
  have Kp0 : Keep h0 h3 [a1] := (Keep.refl h0 [a1]).wr W3 (Or.inl (List.mem_of_getElem? (i := 0) rfl))
  refine ⟨T3, _, _, _, none, X3, (fun _ => rfl), by decide, by decide, ?_, fun fs hr => ?_⟩
  · show Q5 Z a1 h0 n0 _ T3.heap _
    rw [e3]
    exact ⟨rfl, N3, Kp0, Ex4, Fw3, Fl5, Fl6⟩
  · show Steps p.tables e below (s₁.setTop (mkF m 0 #[.val (.ref a1)] [])) _
    refine XS.aloadN X0.here hx rfl (hb hby d6_0) rfl rfl ?_
    refine st2 _ ?_
    refine XS.aloadN X2.here hx rfl (hb hby d6_4) rfl rfl ?_
    refine XS.iconst X2.here hx rfl (hb hby d6_5) ?_
    refine st3 _ ?_
    exact X3.returnOut hx hret (hb hby d6_9) hr
theorem w_38 {a0 : Array Value} {Z : State} (hw : ∀ d ∈ tables_1, d.before a0 Z = true) : Jvm.Cond.before (Jvm.Cond.initialized "java/util/AbstractList") a0 Z = true := hw _ (List.mem_of_getElem? (i := 38) rfl)
theorem w_39 {a0 : Array Value} {Z : State} (hw : ∀ d ∈ tables_1, d.before a0 Z = true) : Jvm.Cond.before (Jvm.Cond.code ({ cls := "java/util/AbstractList", name := "<init>", desc := "()V" } : Jvm.MethodName) jdk_39_method_1_code (1 : Nat) (Option.none : Option Jvm.ClassFile.FieldType)) a0 Z = true := hw _ (List.mem_of_getElem? (i := 39) rfl)
theorem w_34 {a0 : Array Value} {Z : State} (hw : ∀ d ∈ tables_1, d.before a0 Z = true) : Jvm.Cond.before (Jvm.Cond.methodLink "java/util/ArrayList" (1 : Nat) ({ cls := "java/util/AbstractList", name := "<init>", desc := "()V" } : Jvm.MethodName)) a0 Z = true := hw _ (List.mem_of_getElem? (i := 34) rfl)
theorem w_35 {a0 : Array Value} {Z : State} (hw : ∀ d ∈ tables_1, d.before a0 Z = true) : Jvm.Cond.before (Jvm.Cond.instanceMethod ({ cls := "java/util/AbstractList", name := "<init>", desc := "()V" } : Jvm.MethodName)) a0 Z = true := hw _ (List.mem_of_getElem? (i := 35) rfl)
theorem d5_4 : decode jdk_38_method_2_code 4 = .ok (.aload_n 0, 1) := by decide +kernel
theorem d5_5 : decode jdk_38_method_2_code 5 = .ok (.getstatic 39, 3) := by decide +kernel
theorem w_49 {a0 : Array Value} {Z : State} (hw : ∀ d ∈ tables_1, d.before a0 Z = true) : Jvm.Cond.before (Jvm.Cond.fieldLink "java/util/ArrayList" (39 : Nat) "java/util/ArrayList" "DEFAULTCAPACITY_EMPTY_ELEMENTDATA" "[Ljava/lang/Object;") a0 Z = true := hw _ (List.mem_of_getElem? (i := 49) rfl)
theorem d5_8 : decode jdk_38_method_2_code 8 = .ok (.putfield 9, 3) := by decide +kernel
theorem w_50 {a0 : Array Value} {Z : State} (hw : ∀ d ∈ tables_1, d.before a0 Z = true) : Jvm.Cond.before (Jvm.Cond.fieldLink "java/util/ArrayList" (9 : Nat) "java/util/ArrayList" "elementData" "[Ljava/lang/Object;") a0 Z = true := hw _ (List.mem_of_getElem? (i := 50) rfl)
theorem d5_11 : decode jdk_38_method_2_code 11 = .ok (.return_, 1) := by decide +kernel
abbrev y_5 : MethodName := ⟨"java/util/ArrayList", "<init>", "()V"⟩
theorem pn_5 : plainName "java/util/ArrayList" = true := by first | (simp [plainName, overriddenIn]; done) | decide +kernel
-- java/util/ArrayList.<init>()V
abbrev Rm6 : Room := { frames := 3, cells := 0, slots := 0, locals := 36 }
def Q6 (Z : State) (a1 : Addr) (a3 : Addr) (h0 : Heap) (n0 : Nat) (v : Option Value) (h : Heap) (L : List Loc) : Prop := v = none ∧ Fr n0 L ∧ Keep h0 h [a1] ∧ Exa Z h a1 "java/util/ArrayList" ∧ Fld Z h a1 "java/util/AbstractList" "modCount" "I" (.int (0 : Int32)) ∧ Fld Z h a1 "java/util/ArrayList" "elementData" "[Ljava/lang/Object;" (.ref a3) ∧ Fld Z h a1 "java/util/ArrayList" "size" "I" (.int (0 : Int32))
theorem ef6 (a1 : Addr) (m : MethodId) : entryFrame m #[(.ref a1)] 1 = mkF m 0 #[.val (.ref a1)] [] := by first | (simp [entryFrame, mkF, argsToLocals, Value.category]; done) | rfl
theorem rm6 (l : Launch) (Z : State) (a0 : Array Value) (hw : ∀ d ∈ tables_1, d.before a0 Z = true) (ws : List Jvm.Cond) (a1 : Addr) (a3 : Addr) (h0 : Heap) (n0 : Nat) (Z0 : n0 ≤ h0.size) (F_modCount_a1 : Fld Z h0 a1 "java/util/AbstractList" "modCount" "I" (.int (0 : Int32))) (E_a1 : Exa Z h0 a1 "java/util/ArrayList") (g_a1 : n0 ≤ a1) (F_elementData_a1 : Fld Z h0 a1 "java/util/ArrayList" "elementData" "[Ljava/lang/Object;" .null) (F_size_a1 : Fld Z h0 a1 "java/util/ArrayList" "size" "I" (.int (0 : Int32))) (S_DEFAULTCAPACITY_EMPTY_ELEMENTDATA : Sta Z Z.heap "java/util/ArrayList" "DEFAULTCAPACITY_EMPTY_ELEMENTDATA" "[Ljava/lang/Object;" (.ref a3)) (Od0 : Old Z n0 h0) :
    OwnMet l Z y_5 jdk_38_method_2_code 1 none ws Rm6 #[(.ref a1)] h0 (Q6 Z a1 a3 h0 n0) := by
  refine own_body (plainFor_of_name pn_5) (ef6 a1) ?_
  intro p e s m below meth c s₁ hx hby hml hown hnm hret hZ X0 e0
  have N0 := Fr.nil n0
  obtain ⟨_, T2, L2, X2, hQ2, st2⟩ := own_special X0 hx hZ hown (y := y_4) (a := a1) (w_34 hw) (w_35 hw) (w_38 hw) (w_39 hw) (rm5 l Z a0 hw [] a1 h0 n0 Z0 F_modCount_a1 E_a1 g_a1 F_elementData_a1 F_size_a1) e0 (Ls := #[.val (.ref a1)]) (by rw [hml]; rfl) (argsL := []) (rest := []) (lenOf pd_0 rfl) (hb hby d5_1) (W := 0)
  obtain ⟨rfl, Nq2, K2, o2_0, o2_1, o2_2, o2_3⟩ := hQ2
  have N2 := Fr.app N0 Nq2
  have s0 := K2.1
  have Od1 : Old Z n0 T2.heap := Od0.keep K2 (allS g_a1 all0)
  obtain ⟨T4, X4, e4, st4⟩ := getS2 X2 hx hZ hown (host := "") (Or.inl (w_49 hw)) Via.refl rfl (S_DEFAULTCAPACITY_EMPTY_ELEMENTDATA.ext Od1.2) (g := (mkF m 5 #[.val (.ref a1)] [(.ref a1)])) rfl (hb hby d5_5)
  obtain ⟨T5, h5, X5, e5, W5, st5⟩ := putF X4 hx hZ hown (host := "") (Or.inl (w_50 hw)) Via.refl e4 o2_2 o2_0 (Or.inl (w_51 hw)) (w_29 hw) (ty := (.array (.object "java/lang/Object"))) (by decide) rfl rfl (g := (mkF m 8 #[.val (.ref a1)] [(.ref a3), (.ref a1)])) rfl rfl (hb hby d5_8)
  have s1 := (Keep.of_wr W5).1
  have N5 := Fr.snoc X5 N2 g_a1
  have Fw5 : Fld Z h5 a1 "java/util/ArrayList" "elementData" "[Ljava/lang/Object;" (.ref a3) := o2_2.same W5
  have Ex6 := (o2_0.wr W5)
  have Fl7 := (o2_1.other W5 (Or.inr (slot_ne (Or.inl (w_48 hw)) (Or.inl (w_51 hw)) (by decide) (t := .int) (t' := (.array (.object "java/lang/Object"))) (by decide) (by decide))))
  have Fl8 := (o2_3.other W5 (Or.inr (slot_ne (Or.inl (w_60 hw)) (Or.inl (w_51 hw)) (by decide) (t := .int) (t' := (.array (.object "java/lang/Object"))) (by decide) (by decide))))
  have Kp0 : Keep h0 T2.heap [a1] := (Keep.refl h0 [a1]).trans K2 (allS (Or.inl (List.mem_of_getElem? (i := 0) rfl)) all0)
  have Kp1 : Keep h0 h5 [a1] := Kp0.wr W5 (Or.inl (List.mem_of_getElem? (i := 0) rfl))
  refine ⟨T5, _, _, _, none, X5, (fun _ => rfl), by decide, by decide, ?_, fun fs hr => ?_⟩
  · show Q6 Z a1 a3 h0 n0 _ T5.heap _
    rw [e5]
    exact ⟨rfl, N5, Kp1, Ex6, Fl7, Fw5, Fl8⟩
  · show Steps p.tables e below (s₁.setTop (mkF m 0 #[.val (.ref a1)] [])) _
    refine XS.aloadN X0.here hx rfl (hb hby d5_0) rfl rfl ?_
    refine st2 _ ?_
    refine XS.aloadN X2.here hx rfl (hb hby d5_4) rfl rfl ?_
    refine st4 _ ?_
    refine st5 _ ?_
    exact X5.returnOut hx hret (hb hby d5_11) hr
theorem w_33 {a0 : Array Value} {Z : State} (hw : ∀ d ∈ tables_1, d.before a0 Z = true) : Jvm.Cond.before (Jvm.Cond.code ({ cls := "java/util/ArrayList", name := "<init>", desc := "()V" } : Jvm.MethodName) jdk_38_method_2_code (1 : Nat) (Option.none : Option Jvm.ClassFile.FieldType)) a0 Z = true := hw _ (List.mem_of_getElem? (i := 33) rfl)
theorem w_31 {a0 : Array Value} {Z : State} (hw : ∀ d ∈ tables_1, d.before a0 Z = true) : Jvm.Cond.before (Jvm.Cond.methodLink "com/example/feedergen/feedergen/core/StreetLinkLastPinLaw" (15 : Nat) ({ cls := "java/util/ArrayList", name := "<init>", desc := "()V" } : Jvm.MethodName)) a0 Z = true := hw _ (List.mem_of_getElem? (i := 31) rfl)
theorem w_32 {a0 : Array Value} {Z : State} (hw : ∀ d ∈ tables_1, d.before a0 Z = true) : Jvm.Cond.before (Jvm.Cond.instanceMethod ({ cls := "java/util/ArrayList", name := "<init>", desc := "()V" } : Jvm.MethodName)) a0 Z = true := hw _ (List.mem_of_getElem? (i := 32) rfl)
theorem d8_0 : decode jdk_38_method_25_code 0 = .ok (.aload_n 0, 1) := by decide +kernel
theorem d8_1 : decode jdk_38_method_25_code 1 = .ok (.dup, 1) := by decide +kernel
theorem d8_2 : decode jdk_38_method_25_code 2 = .ok (.getfield 63, 3) := by decide +kernel
theorem w_58 {a0 : Array Value} {Z : State} (hw : ∀ d ∈ tables_1, d.before a0 Z = true) : Jvm.Cond.before (Jvm.Cond.sameField "java/util/ArrayList" "java/util/AbstractList" "modCount" "I") a0 Z = true := hw _ (List.mem_of_getElem? (i := 58) rfl)
theorem w_57 {a0 : Array Value} {Z : State} (hw : ∀ d ∈ tables_1, d.before a0 Z = true) : Jvm.Cond.before (Jvm.Cond.fieldLink "java/util/ArrayList" (63 : Nat) "java/util/ArrayList" "modCount" "I") a0 Z = true := hw _ (List.mem_of_getElem? (i := 57) rfl)
theorem d8_5 : decode jdk_38_method_25_code 5 = .ok (.iconst 1, 1) := by decide +kernel
theorem d8_6 : decode jdk_38_method_25_code 6 = .ok (.iadd, 1) := by decide +kernel
theorem d8_7 : decode jdk_38_method_25_code 7 = .ok (.putfield 63, 3) := by decide +kernel
theorem d8_10 : decode jdk_38_method_25_code 10 = .ok (.aload_n 0, 1) := by decide +kernel
theorem d8_11 : decode jdk_38_method_25_code 11 = .ok (.aload_n 1, 1) := by decide +kernel
theorem d8_12 : decode jdk_38_method_25_code 12 = .ok (.aload_n 0, 1) := by decide +kernel
theorem d8_13 : decode jdk_38_method_25_code 13 = .ok (.getfield 9, 3) := by decide +kernel
theorem d8_16 : decode jdk_38_method_25_code 16 = .ok (.aload_n 0, 1) := by decide +kernel
theorem d8_17 : decode jdk_38_method_25_code 17 = .ok (.getfield 48, 3) := by decide +kernel
theorem w_59 {a0 : Array Value} {Z : State} (hw : ∀ d ∈ tables_1, d.before a0 Z = true) : Jvm.Cond.before (Jvm.Cond.fieldLink "java/util/ArrayList" (48 : Nat) "java/util/ArrayList" "size" "I") a0 Z = true := hw _ (List.mem_of_getElem? (i := 59) rfl)
theorem d8_20 : decode jdk_38_method_25_code 20 = .ok (.invokevirtual 131, 3) := by decide +kernel
theorem d9_0 : decode jdk_38_method_24_code 0 = .ok (.iload_n 3, 1) := by decide +kernel
theorem d9_1 : decode jdk_38_method_24_code 1 = .ok (.aload_n 2, 1) := by decide +kernel
theorem d9_2 : decode jdk_38_method_24_code 2 = .ok (.arraylength, 1) := by decide +kernel
theorem d9_3 : decode jdk_38_method_24_code 3 = .ok (.if_icmp .ne 8, 3) := by decide +kernel
theorem d9_6 : decode jdk_38_method_24_code 6 = .ok (.aload_n 0, 1) := by decide +kernel
theorem d9_7 : decode jdk_38_method_24_code 7 = .ok (.invokevirtual 129, 3) := by decide +kernel
theorem d10_0 : decode jdk_38_method_7_code 0 = .ok (.aload_n 0, 1) := by decide +kernel
theorem d10_1 : decode jdk_38_method_7_code 1 = .ok (.aload_n 0, 1) := by decide +kernel
theorem d10_2 : decode jdk_38_method_7_code 2 = .ok (.getfield 48, 3) := by decide +kernel
theorem d10_5 : decode jdk_38_method_7_code 5 = .ok (.iconst 1, 1) := by decide +kernel
theorem d10_6 : decode jdk_38_method_7_code 6 = .ok (.iadd, 1) := by decide +kernel
theorem d10_7 : decode jdk_38_method_7_code 7 = .ok (.invokevirtual 69, 3) := by decide +kernel
theorem d11_0 : decode jdk_38_method_6_code 0 = .ok (.aload_n 0, 1) := by decide +kernel
theorem d11_1 : decode jdk_38_method_6_code 1 = .ok (.getfield 9, 3) := by decide +kernel
theorem d11_4 : decode jdk_38_method_6_code 4 = .ok (.arraylength, 1) := by decide +kernel
theorem d11_5 : decode jdk_38_method_6_code 5 = .ok (.istore_n 2, 1) := by decide +kernel
theorem d11_6 : decode jdk_38_method_6_code 6 = .ok (.iload_n 2, 1) := by decide +kernel
theorem d11_7 : decode jdk_38_method_6_code 7 = .ok (.ifCond .gt 13, 3) := by decide +kernel
theorem d11_10 : decode jdk_38_method_6_code 10 = .ok (.aload_n 0, 1) := by decide +kernel
theorem d11_11 : decode jdk_38_method_6_code 11 = .ok (.getfield 9, 3) := by decide +kernel
theorem d11_14 : decode jdk_38_method_6_code 14 = .ok (.getstatic 39, 3) := by decide +kernel
theorem d11_17 : decode jdk_38_method_6_code 17 = .ok (.if_acmp .eq 28, 3) := by decide +kernel
theorem d11_45 : decode jdk_38_method_6_code 45 = .ok (.aload_n 0, 1) := by decide +kernel
theorem d11_46 : decode jdk_38_method_6_code 46 = .ok (.bipush 10, 2) := by decide +kernel
theorem d11_48 : decode jdk_38_method_6_code 48 = .ok (.iload_n 1, 1) := by decide +kernel
theorem d11_49 : decode jdk_38_method_6_code 49 = .ok (.invokestatic 79, 3) := by decide +kernel
theorem d12_0 : decode jdk_29_method_65_code 0 = .ok (.iload_n 0, 1) := by decide +kernel
theorem d12_1 : decode jdk_29_method_65_code 1 = .ok (.iload_n 1, 1) := by decide +kernel
theorem d12_2 : decode jdk_29_method_65_code 2 = .ok (.if_icmp .lt 7, 3) := by decide +kernel
theorem d12_5 : decode jdk_29_method_65_code 5 = .ok (.iload_n 0, 1) := by decide +kernel
theorem d12_6 : decode jdk_29_method_65_code 6 = .ok (.goto 4, 3) := by decide +kernel
theorem d12_10 : decode jdk_29_method_65_code 10 = .ok (.ireturn, 1) := by decide +kernel
abbrev y_6 : MethodName := ⟨"java/lang/Math", "max", "(II)I"⟩
-- java/lang/Math.max(II)I
abbrev Rm7 : Room := { frames := 0, cells := 0, slots := 0, locals := 0 }
def Q7 (Z : State)  (h0 : Heap) (n0 : Nat) (v : Option Value) (h : Heap) (L : List Loc) : Prop := v = some (.int (10 : Int32)) ∧ Fr n0 L ∧ h = h0
theorem ef7  (m : MethodId) : entryFrame m #[(.int (10 : Int32)), (.int (1 : Int32))] 2 = mkF m 0 #[.val (.int (10 : Int32)), .val (.int (1 : Int32))] [] := by first | (simp [entryFrame, mkF, argsToLocals, Value.category]; done) | rfl
theorem rm7 (l : Launch) (Z : State) (a0 : Array Value) (hw : ∀ d ∈ tables_1, d.before a0 Z = true) (ws : List Jvm.Cond)  (h0 : Heap) (n0 : Nat) (Z0 : n0 ≤ h0.size) :
    OwnMet l Z y_6 jdk_29_method_65_code 2 (some .int) ws Rm7 #[(.int (10 : Int32)), (.int (1 : Int32))] h0 (Q7 Z  h0 n0) := by
  refine own_body (Jvm.Free.JP.mathPlain rfl (by decide +kernel)) (ef7) ?_
  intro p e s m below meth c s₁ hx hby hml hown hnm hret hZ X0 e0
  have N0 := Fr.nil n0
  refine ⟨s₁, _, _, _, (some (.int (10 : Int32))), X0, nofun, by decide, by decide, ?_, fun fs hr => ?_⟩
  · show Q7 Z  h0 n0 _ s₁.heap _
    rw [e0]
    exact ⟨rfl, N0, rfl⟩
  · show Steps p.tables e below (s₁.setTop (mkF m 0 #[.val (.int (10 : Int32)), .val (.int (1 : Int32))] [])) _
    refine XS.iloadN X0.here hx rfl (hb hby d12_0) rfl ?_
    refine XS.iloadN X0.here hx rfl (hb hby d12_1) rfl ?_
    refine XS.icmpNo X0.here hx rfl (hb hby d12_2) rfl (flt ((by decide : ¬ ((10 : Int32) < (1 : Int32))) : ¬ ((10 : Int32) < (1 : Int32)))).1 ?_
    refine XS.iloadN X0.here hx rfl (hb hby d12_5) rfl ?_
    refine XS.goto X0.here hx rfl (pc0 := 6) (pc' := 10) rfl (hb hby d12_6) (by decide) (by decide) ?_
    exact retI X0 hx hret (hb hby d12_10) hr
theorem pd_3 : parseMethodDescriptor "(II)I" = some ⟨[.int, .int], some .int⟩ := by decide +kernel
theorem w_78 {a0 : Array Value} {Z : State} (hw : ∀ d ∈ tables_1, d.before a0 Z = true) : Jvm.Cond.before (Jvm.Cond.initialized "java/lang/Math") a0 Z = true := hw _ (List.mem_of_getElem? (i := 78) rfl)
theorem w_79 {a0 : Array Value} {Z : State} (hw : ∀ d ∈ tables_1, d.before a0 Z = true) : Jvm.Cond.before (Jvm.Cond.code ({ cls := "java/lang/Math", name := "max", desc := "(II)I" } : Jvm.MethodName) jdk_29_method_65_code (2 : Nat) (Option.some Jvm.ClassFile.FieldType.int)) a0 Z = true := hw _ (List.mem_of_getElem? (i := 79) rfl)
theorem w_76 {a0 : Array Value} {Z : State} (hw : ∀ d ∈ tables_1, d.before a0 Z = true) : Jvm.Cond.before (Jvm.Cond.methodLink "java/util/ArrayList" (79 : Nat) ({ cls := "java/lang/Math", name := "max", desc := "(II)I" } : Jvm.MethodName)) a0 Z = true := hw _ (List.mem_of_getElem? (i := 76) rfl)
theorem w_77 {a0 : Array Value} {Z : State} (hw : ∀ d ∈ tables_1, d.before a0 Z = true) : Jvm.Cond.before (Jvm.Cond.static ({ cls := "java/lang/Math", name := "max", desc := "(II)I" } : Jvm.MethodName)) a0 Z = true := hw _ (List.mem_of_getElem? (i := 77) rfl)
theorem d11_52 : decode jdk_38_method_6_code 52 = .ok (.anewarray 7, 3) := by decide +kernel
theorem w_81 {a0 : Array Value} {Z : State} (hw : ∀ d ∈ tables_1, d.before a0 Z = true) : Jvm.Cond.before (Jvm.Cond.arrayOver (Jvm.ClassFile.FieldType.object "java/lang/Object")) a0 Z = true := hw _ (List.mem_of_getElem? (i := 81) rfl)
theorem w_80 {a0 : Array Value} {Z : State} (hw : ∀ d ∈ tables_1, d.before a0 Z = true) : Jvm.Cond.before (Jvm.Cond.classLink "java/util/ArrayList" (7 : Nat) "java/lang/Object") a0 Z = true := hw _ (List.mem_of_getElem? (i := 80) rfl)
theorem d11_55 : decode jdk_38_method_6_code 55 = .ok (.dup_x1, 1) := by decide +kernel
theorem d11_56 : decode jdk_38_method_6_code 56 = .ok (.putfield 9, 3) := by decide +kernel
theorem d11_59 : decode jdk_38_method_6_code 59 = .ok (.areturn, 1) := by decide +kernel
abbrev y_7 : MethodName := ⟨"java/util/ArrayList", "grow", "(I)[Ljava/lang/Object;"⟩
-- java/util/ArrayList.grow(I)[Ljava/lang/Object;
abbrev Rm8 : Room := { frames := 1, cells := 1, slots := 10, locals := 14 }
def Q8 (Z : State) (a1 : Addr) (a2 : Addr) (k4 : ClassId) (h0 : Heap) (n0 : Nat) (v : Option Value) (h : Heap) (L : List Loc) : Prop := ∃ b9 : Addr, ∃ k9 : ClassId, v = some (.ref b9) ∧ Fr n0 L ∧ Keep h0 h [a1] ∧ Exa Z h a1 "java/util/ArrayList" ∧ Fld Z h a1 "java/util/AbstractList" "modCount" "I" (.int (1 : Int32)) ∧ Fld Z h a1 "java/util/ArrayList" "elementData" "[Ljava/lang/Object;" (.ref b9) ∧ Fld Z h a1 "java/util/ArrayList" "size" "I" (.int (0 : Int32)) ∧ h0.size ≤ b9 ∧ Exa Z h b9 "[Ljava/lang/Object;" ∧ Ovr Z k9 "java/lang/Object" ∧ Arv Z h b9 k9 (.object "java/lang/Object") (10 : Int32) [.null, .null, .null, .null, .null, .null, .null, .null, .null, .null] .null
theorem ef8 (a1 : Addr) (m : MethodId) : entryFrame m #[(.ref a1), (.int (1 : Int32))] 4 = mkF m 0 #[.val (.ref a1), .val (.int (1 : Int32)), .unset, .unset] [] := by first | (simp [entryFrame, mkF, argsToLocals, Value.category]; done) | rfl
theorem rm8 (l : Launch) (Z : State) (a0 : Array Value) (hw : ∀ d ∈ tables_1, d.before a0 Z = true) (ws : List Jvm.Cond) (a1 : Addr) (a2 : Addr) (k4 : ClassId) (h0 : Heap) (n0 : Nat) (Z0 : n0 ≤ h0.size) (F_elementData_a1 : Fld Z h0 a1 "java/util/ArrayList" "elementData" "[Ljava/lang/Object;" (.ref a2)) (V_a2 : Arv Z h0 a2 k4 (.object "java/lang/Object") (0 : Int32) [] .null) (S_DEFAULTCAPACITY_EMPTY_ELEMENTDATA : Sta Z Z.heap "java/util/ArrayList" "DEFAULTCAPACITY_EMPTY_ELEMENTDATA" "[Ljava/lang/Object;" (.ref a2)) (Od0 : Old Z n0 h0) (E_a1 : Exa Z h0 a1 "java/util/ArrayList") (g_a1 : n0 ≤ a1) (F_modCount_a1 : Fld Z h0 a1 "java/util/AbstractList" "modCount" "I" (.int (1 : Int32))) (F_size_a1 : Fld Z h0 a1 "java/util/ArrayList" "size" "I" (.int (0 : Int32))) :
    OwnMet l Z y_7 jdk_38_method_6_code 4 (some (.array (.object "java/lang/Object"))) ws Rm8 #[(.ref a1), (.int (1 : Int32))] h0 (Q8 Z a1 a2 k4 h0 n0) := by
  refine own_body (plainFor_of_name pn_5) (ef8 a1) ?_
  intro p e s m below meth c s₁ hx hby hml hown hnm hret hZ X0 e0
  have N0 := Fr.nil n0
  obtain ⟨T3, X3, e3, st3⟩ := getF X0 hx hZ hown (host := "") (Or.inl (w_50 hw)) Via.refl e0 F_elementData_a1 (g := (mkF m 1 #[.val (.ref a1), .val (.int (1 : Int32)), .unset, .unset] [(.ref a1)])) rfl rfl (hb hby d11_1)
  obtain ⟨cl5, Ar5, q5, S5, M5, Hs5, G5⟩ := id V_a2
  obtain ⟨T6, X6, e6, st6⟩ := getF X3 hx hZ hown (host := "") (Or.inl (w_50 hw)) Via.refl e3 F_elementData_a1 (g := (mkF m 11 #[.val (.ref a1), .val (.int (1 : Int32)), .val (.int (0 : Int32)), .unset] [(.ref a1)])) rfl rfl (hb hby d11_11)
  obtain ⟨T7, X7, e7, st7⟩ := getS2 X6 hx hZ hown (host := "") (Or.inl (w_49 hw)) Via.refl e6 (S_DEFAULTCAPACITY_EMPTY_ELEMENTDATA.ext Od0.2) (g := (mkF m 14 #[.val (.ref a1), .val (.int (1 : Int32)), .val (.int (0 : Int32)), .unset] [(.ref a2)])) rfl (hb hby d11_14)
  obtain ⟨_, T8, L8, X8, hQ8, st8⟩ := own_callS X7 hx hZ hown (y := y_6) (w_76 hw) (w_77 hw) (w_78 hw) (w_79 hw) (rm7 l Z a0 hw []  h0 n0 Z0) e7 (Ls := #[.val (.ref a1), .val (.int (1 : Int32)), .val (.int (0 : Int32)), .unset]) (by rw [hml]; rfl) (argsL := [(.int (10 : Int32)), (.int (1 : Int32))]) (rest := [(.ref a1)]) (lenOf pd_3 rfl) (hb hby d11_49) (W := 1)
  obtain ⟨rfl, Nq8, e8⟩ := hQ8
  have N8 := Fr.app N0 Nq8
  obtain ⟨T9, h9, k9, X9, e9, E9, A9, B9, O9, st9⟩ := newRE X8 hx hZ hown (w_80 hw) (w_81 hw) e8 (g := (mkF m 52 #[.val (.ref a1), .val (.int (1 : Int32)), .val (.int (0 : Int32)), .unset] [(.int (10 : Int32)), (.ref a1)])) rfl (hb hby d11_52) rfl (by decide) (cap := 10) (by decide) (by decide) (by decide) (by decide) (ad := "[Ljava/lang/Object;") (by decide)
  obtain ⟨b9, g9⟩ : ∃ z, z = h0.size := ⟨_, rfl⟩
  rw [← g9] at A9 B9 st9
  have s0 := E9.1
  have Vn9 : Arv Z h9 b9 k9 (.object "java/lang/Object") (10 : Int32) [.null, .null, .null, .null, .null, .null, .null, .null, .null, .null] .null := (Arv.new A9 (by decide)).pad (pad_rep [] .null 10)
  have Fl10 := (F_elementData_a1.ext E9)
  have Ex11 := (E_a1.ext E9)
  obtain ⟨T12, h12, X12, e12, W12, st12⟩ := putF X9 hx hZ hown (host := "") (Or.inl (w_50 hw)) Via.refl e9 Fl10 Ex11 (Or.inl (w_51 hw)) (w_29 hw) (ty := (.array (.object "java/lang/Object"))) (by decide) rfl rfl (g := (mkF m 56 #[.val (.ref a1), .val (.int (1 : Int32)), .val (.int (0 : Int32)), .unset] [(.ref b9), (.ref a1), (.ref b9)])) rfl rfl (hb hby d11_56)
  have s1 := (Keep.of_wr W12).1
  have N12 := Fr.snoc X12 N8 g_a1
  have Fw12 : Fld Z h12 a1 "java/util/ArrayList" "elementData" "[Ljava/lang/Object;" (.ref b9) := Fl10.same W12
  have Ex13 := (Ex11.wr W12)
  have Fl14 := ((F_modCount_a1.ext E9).other W12 (Or.inr (slot_ne (Or.inl (w_48 hw)) (Or.inl (w_51 hw)) (by decide) (t := .int) (t' := (.array (.object "java/lang/Object"))) (by decide) (by decide))))
  have Fl15 := ((F_size_a1.ext E9).other W12 (Or.inr (slot_ne (Or.inl (w_60 hw)) (Or.inl (w_51 hw)) (by decide) (t := .int) (t' := (.array (.object "java/lang/Object"))) (by decide) (by decide))))
  have sz_b9 : h0.size ≤ b9 := (Nat.le_of_eq g9.symm)
  have Ex16 := (B9.wr W12)
  have ne_a1_b9 := Nat.ne_of_lt (Nat.lt_of_lt_of_le F_size_a1.lt (Nat.le_of_eq g9.symm))
  have Va17 := (Vn9.other W12 (Ne.symm ne_a1_b9))
  have Kp0 : Keep h0 h9 [a1] := (Keep.refl h0 [a1]).ext E9
  have Kp1 : Keep h0 h12 [a1] := Kp0.wr W12 (Or.inl (List.mem_of_getElem? (i := 0) rfl))
  refine ⟨T12, _, _, _, (some (.ref b9)), X12, nofun, by decide, by decide, ?_, fun fs hr => ?_⟩
  · show Q8 Z a1 a2 k4 h0 n0 _ T12.heap _
    rw [e12]
    exact ⟨b9, k9, rfl, N12, Kp1, Ex13, Fl14, Fw12, Fl15, sz_b9, Ex16, O9, Va17⟩
  · show Steps p.tables e below (s₁.setTop (mkF m 0 #[.val (.ref a1), .val (.int (1 : Int32)), .unset, .unset] [])) _
    refine XS.aloadN X0.here hx rfl (hb hby d11_0) rfl rfl ?_
    refine st3 _ ?_
    refine X3.arraylength hx (by rw [e3]; exact Ar5.1) (State.isArrayOf_alike hZ.alike Ar5.2.1) (g := (mkF m 4 #[.val (.ref a1), .val (.int (1 : Int32)), .unset, .unset] [(.ref a2)])) rfl rfl (hb hby d11_4) _ ?_
    show Steps p.tables e below (T3.setTop (mkF m 5 #[.val (.ref a1), .val (.int (1 : Int32)), .unset, .unset] [(.int cl5.slots.size.toInt32)])) _
    rw [len_of S5 M5]
    refine XS.istoreN X3.here hx rfl (hb hby d11_5) rfl (l' := #[.val (.ref a1), .val (.int (1 : Int32)), .val (.int (0 : Int32)), .unset]) rfl ?_
    refine XS.iloadN X3.here hx rfl (hb hby d11_6) rfl ?_
    refine XS.ifNo X3.here hx rfl (hb hby d11_7) rfl ((if0 _ _).trans (flt ((by decide : ¬ ((0 : Int32) < (0 : Int32))) : ¬ ((0 : Int32) < (0 : Int32)))).2.2.1) ?_
    refine XS.aloadN X3.here hx rfl (hb hby d11_10) rfl rfl ?_
    refine st6 _ ?_
    refine st7 _ ?_
    refine Jvm.RoadKit.acmp (g := (mkF m 17 #[.val (.ref a1), .val (.int (1 : Int32)), .val (.int (0 : Int32)), .unset] [(.ref a2), (.ref a2)])) X7 hx rfl rfl rfl (pc0 := 17) (pc' := 45) (same := true) rfl (hb hby d11_17) rfl (decide_eq_true rfl) (by decide) (by decide) ?_
    refine XS.aloadN X7.here hx rfl (hb hby d11_45) rfl rfl ?_
    refine XS.bipush X7.here hx rfl (hb hby d11_46) ?_
    refine XS.iloadN X7.here hx rfl (hb hby d11_48) rfl ?_
    refine st8 _ ?_
    show Steps p.tables e below (T8.setTop (mkF m 52 #[.val (.ref a1), .val (.int (1 : Int32)), .val (.int (0 : Int32)), .unset] [(.int (10 : Int32)), (.ref a1)])) _
    refine st9 _ ?_
    refine XS.dupX1 X9.here hx rfl (hb hby d11_55) rfl rfl rfl ?_
    refine st12 _ ?_
    exact retOut X12 hx hret rfl (Or.inr (Or.inr (Or.inr (Or.inr ⟨rfl, rfl, rfl⟩)))) (hb hby d11_59) hr
theorem pd_4 : parseMethodDescriptor "(I)[Ljava/lang/Object;" = some ⟨[.int], some (.array (.object "java/lang/Object"))⟩ := by decide +kernel
theorem w_75 {a0 : Array Value} {Z : State} (hw : ∀ d ∈ tables_1, d.before a0 Z = true) : Jvm.Cond.before (Jvm.Cond.code ({ cls := "java/util/ArrayList", name := "grow", desc := "(I)[Ljava/lang/Object;" } : Jvm.MethodName) jdk_38_method_6_code (4 : Nat) (Option.some (Jvm.ClassFile.FieldType.array (Jvm.ClassFile.FieldType.object "java/lang/Object")))) a0 Z = true := hw _ (List.mem_of_getElem? (i := 75) rfl)
theorem w_71 {a0 : Array Value} {Z : State} (hw : ∀ d ∈ tables_1, d.before a0 Z = true) : Jvm.Cond.before (Jvm.Cond.methodLink "java/util/ArrayList" (69 : Nat) ({ cls := "java/util/ArrayList", name := "grow", desc := "(I)[Ljava/lang/Object;" } : Jvm.MethodName)) a0 Z = true := hw _ (List.mem_of_getElem? (i := 71) rfl)
theorem w_72 {a0 : Array Value} {Z : State} (hw : ∀ d ∈ tables_1, d.before a0 Z = true) : Jvm.Cond.before (Jvm.Cond.instanceMethod ({ cls := "java/util/ArrayList", name := "grow", desc := "(I)[Ljava/lang/Object;" } : Jvm.MethodName)) a0 Z = true := hw _ (List.mem_of_getElem? (i := 72) rfl)
theorem w_74 {a0 : Array Value} {Z : State} (hw : ∀ d ∈ tables_1, d.before a0 Z = true) : Jvm.Cond.before (Jvm.Cond.selects "java/util/ArrayList" ({ cls := "java/util/ArrayList", name := "grow", desc := "(I)[Ljava/lang/Object;" } : Jvm.MethodName) ({ cls := "java/util/ArrayList", name := "grow", desc := "(I)[Ljava/lang/Object;" } : Jvm.MethodName)) a0 Z = true := hw _ (List.mem_of_getElem? (i := 74) rfl)
theorem w_73 {a0 : Array Value} {Z : State} (hw : ∀ d ∈ tables_1, d.before a0 Z = true) : Jvm.Cond.before (Jvm.Cond.privateMethod ({ cls := "java/util/ArrayList", name := "grow", desc := "(I)[Ljava/lang/Object;" } : Jvm.MethodName)) a0 Z = true := hw _ (List.mem_of_getElem? (i := 73) rfl)
theorem d10_10 : decode jdk_38_method_7_code 10 = .ok (.areturn, 1) := by decide +kernel
abbrev y_8 : MethodName := ⟨"java/util/ArrayList", "grow", "()[Ljava/lang/Object;"⟩
-- java/util/ArrayList.grow()[Ljava/lang/Object;
abbrev Rm9 : Room := { frames := 2, cells := 1, slots := 10, locals := 29 }
def Q9 (Z : State) (a1 : Addr) (a3 : Addr) (k4 : ClassId) (h0 : Heap) (n0 : Nat) (v : Option Value) (h : Heap) (L : List Loc) : Prop := ∃ b5_b9 : Addr, ∃ k5_k9 : ClassId, v = some (.ref b5_b9) ∧ Fr n0 L ∧ Keep h0 h [a1] ∧ Exa Z h a1 "java/util/ArrayList" ∧ Fld Z h a1 "java/util/AbstractList" "modCount" "I" (.int (1 : Int32)) ∧ Fld Z h a1 "java/util/ArrayList" "elementData" "[Ljava/lang/Object;" (.ref b5_b9) ∧ Fld Z h a1 "java/util/ArrayList" "size" "I" (.int (0 : Int32)) ∧ h0.size ≤ b5_b9 ∧ Exa Z h b5_b9 "[Ljava/lang/Object;" ∧ Ovr Z k5_k9 "java/lang/Object" ∧ Arv Z h b5_b9 k5_k9 (.object "java/lang/Object") (10 : Int32) [.null, .null, .null, .null, .null, .null, .null, .null, .null, .null] .null
theorem ef9 (a1 : Addr) (m : MethodId) : entryFrame m #[(.ref a1)] 1 = mkF m 0 #[.val (.ref a1)] [] := by first | (simp [entryFrame, mkF, argsToLocals, Value.category]; done) | rfl
theorem rm9 (l : Launch) (Z : State) (a0 : Array Value) (hw : ∀ d ∈ tables_1, d.before a0 Z = true) (ws : List Jvm.Cond) (a1 : Addr) (a3 : Addr) (k4 : ClassId) (h0 : Heap) (n0 : Nat) (Z0 : n0 ≤ h0.size) (F_size_a1 : Fld Z h0 a1 "java/util/ArrayList" "size" "I" (.int (0 : Int32))) (F_elementData_a1 : Fld Z h0 a1 "java/util/ArrayList" "elementData" "[Ljava/lang/Object;" (.ref a3)) (V_a3 : Arv Z h0 a3 k4 (.object "java/lang/Object") (0 : Int32) [] .null) (S_DEFAULTCAPACITY_EMPTY_ELEMENTDATA : Sta Z Z.heap "java/util/ArrayList" "DEFAULTCAPACITY_EMPTY_ELEMENTDATA" "[Ljava/lang/Object;" (.ref a3)) (Od0 : Old Z n0 h0) (E_a1 : Exa Z h0 a1 "java/util/ArrayList") (g_a1 : n0 ≤ a1) (F_modCount_a1 : Fld Z h0 a1 "java/util/AbstractList" "modCount" "I" (.int (1 : Int32))) :
    OwnMet l Z y_8 jdk_38_method_7_code 1 (some (.array (.object "java/lang/Object"))) ws Rm9 #[(.ref a1)] h0 (Q9 Z a1 a3 k4 h0 n0) := by
  refine own_body (plainFor_of_name pn_5) (ef9 a1) ?_
  intro p e s m below meth c s₁ hx hby hml hown hnm hret hZ X0 e0
  have N0 := Fr.nil n0
  obtain ⟨T2, X2, e2, st2⟩ := getF X0 hx hZ hown (host := "") (Or.inl (w_59 hw)) Via.refl e0 F_size_a1 (g := (mkF m 2 #[.val (.ref a1)] [(.ref a1), (.ref a1)])) rfl rfl (hb hby d10_2)
  obtain ⟨_, T5, L5, X5, hQ5, st5⟩ := own_private X2 hx hZ hown (y := y_7) E_a1 (w_71 hw) (w_72 hw) (mvT hZ (w_74 hw)) (w_73 hw) (w_30 hw) (w_75 hw) (rm8 l Z a0 hw [] a1 a3 k4 h0 n0 Z0 F_elementData_a1 V_a3 S_DEFAULTCAPACITY_EMPTY_ELEMENTDATA Od0 E_a1 g_a1 F_modCount_a1 F_size_a1) e2 (Ls := #[.val (.ref a1)]) (by rw [hml]; rfl) (argsL := [(.int (1 : Int32))]) (rest := []) (lenOf pd_4 rfl) (hb hby d10_7) (W := 0)
  obtain ⟨b5_b9, k5_k9, rfl, Nq5, K5, o5_0, o5_1, o5_2, o5_3, o5_4, o5_5, o5_6, o5_7⟩ := hQ5
  have N5 := Fr.app N0 Nq5
  have s0 := K5.1
  have sz_b5_b9 : h0.size ≤ b5_b9 := o5_4
  have Kp0 : Keep h0 T5.heap [a1] := (Keep.refl h0 [a1]).trans K5 (allS (Or.inl (List.mem_of_getElem? (i := 0) rfl)) all0)
  refine ⟨T5, _, _, _, (some (.ref b5_b9)), X5, nofun, by decide, by decide, ?_, fun fs hr => ?_⟩
  · show Q9 Z a1 a3 k4 h0 n0 _ T5.heap _
    exact ⟨b5_b9, k5_k9, rfl, N5, Kp0, o5_0, o5_1, o5_2, o5_3, sz_b5_b9, o5_5, o5_6, o5_7⟩
  · show Steps p.tables e below (s₁.setTop (mkF m 0 #[.val (.ref a1)] [])) _
    refine XS.aloadN X0.here hx rfl (hb hby d10_0) rfl rfl ?_
    refine XS.aloadN X0.here hx rfl (hb hby d10_1) rfl rfl ?_
    refine st2 _ ?_
    refine XS.iconst X2.here hx rfl (hb hby d10_5) ?_
    refine XS.iadd X2.here hx rfl (hb hby d10_6) rfl ?_
    refine st5 _ ?_
    exact retOut X5 hx hret rfl (Or.inr (Or.inr (Or.inr (Or.inr ⟨rfl, rfl, rfl⟩)))) (hb hby d10_10) hr
theorem pd_5 : parseMethodDescriptor "()[Ljava/lang/Object;" = some ⟨[], some (.array (.object "java/lang/Object"))⟩ := by decide +kernel
theorem w_70 {a0 : Array Value} {Z : State} (hw : ∀ d ∈ tables_1, d.before a0 Z = true) : Jvm.Cond.before (Jvm.Cond.code ({ cls := "java/util/ArrayList", name := "grow", desc := "()[Ljava/lang/Object;" } : Jvm.MethodName) jdk_38_method_7_code (1 : Nat) (Option.some (Jvm.ClassFile.FieldType.array (Jvm.ClassFile.FieldType.object "java/lang/Object")))) a0 Z = true := hw _ (List.mem_of_getElem? (i := 70) rfl)
theorem w_66 {a0 : Array Value} {Z : State} (hw : ∀ d ∈ tables_1, d.before a0 Z = true) : Jvm.Cond.before (Jvm.Cond.methodLink "java/util/ArrayList" (129 : Nat) ({ cls := "java/util/ArrayList", name := "grow", desc := "()[Ljava/lang/Object;" } : Jvm.MethodName)) a0 Z = true := hw _ (List.mem_of_getElem? (i := 66) rfl)
theorem w_67 {a0 : Array Value} {Z : State} (hw : ∀ d ∈ tables_1, d.before a0 Z = true) : Jvm.Cond.before (Jvm.Cond.instanceMethod ({ cls := "java/util/ArrayList", name := "grow", desc := "()[Ljava/lang/Object;" } : Jvm.MethodName)) a0 Z = true := hw _ (List.mem_of_getElem? (i := 67) rfl)
theorem w_69 {a0 : Array Value} {Z : State} (hw : ∀ d ∈ tables_1, d.before a0 Z = true) : Jvm.Cond.before (Jvm.Cond.selects "java/util/ArrayList" ({ cls := "java/util/ArrayList", name := "grow", desc := "()[Ljava/lang/Object;" } : Jvm.MethodName) ({ cls := "java/util/ArrayList", name := "grow", desc := "()[Ljava/lang/Object;" } : Jvm.MethodName)) a0 Z = true := hw _ (List.mem_of_getElem? (i := 69) rfl)
theorem w_68 {a0 : Array Value} {Z : State} (hw : ∀ d ∈ tables_1, d.before a0 Z = true) : Jvm.Cond.before (Jvm.Cond.privateMethod ({ cls := "java/util/ArrayList", name := "grow", desc := "()[Ljava/lang/Object;" } : Jvm.MethodName)) a0 Z = true := hw _ (List.mem_of_getElem? (i := 68) rfl)
theorem d9_10 : decode jdk_38_method_24_code 10 = .ok (.astore_n 2, 1) := by decide +kernel
theorem d9_11 : decode jdk_38_method_24_code 11 = .ok (.aload_n 2, 1) := by decide +kernel
theorem d9_12 : decode jdk_38_method_24_code 12 = .ok (.iload_n 3, 1) := by decide +kernel
theorem d9_13 : decode jdk_38_method_24_code 13 = .ok (.aload_n 1, 1) := by decide +kernel
theorem d9_14 : decode jdk_38_method_24_code 14 = .ok (.aastore, 1) := by decide +kernel
theorem w_82 {a0 : Array Value} {Z : State} (hw : ∀ d ∈ tables_1, d.before a0 Z = true) : Jvm.Cond.before (Jvm.Cond.castable "com/example/feedergen/feedergen/core/GeoPoint" "java/lang/Object") a0 Z = true := hw _ (List.mem_of_getElem? (i := 82) rfl)
theorem d9_15 : decode jdk_38_method_24_code 15 = .ok (.aload_n 0, 1) := by decide +kernel
theorem d9_16 : decode jdk_38_method_24_code 16 = .ok (.iload_n 3, 1) := by decide +kernel
theorem d9_17 : decode jdk_38_method_24_code 17 = .ok (.iconst 1, 1) := by decide +kernel
theorem d9_18 : decode jdk_38_method_24_code 18 = .ok (.iadd, 1) := by decide +kernel
theorem d9_19 : decode jdk_38_method_24_code 19 = .ok (.putfield 48, 3) := by decide +kernel
theorem d9_22 : decode jdk_38_method_24_code 22 = .ok (.return_, 1) := by decide +kernel
abbrev y_9 : MethodName := ⟨"java/util/ArrayList", "add", "(Ljava/lang/Object;[Ljava/lang/Object;I)V"⟩
-- java/util/ArrayList.add(Ljava/lang/Object;[Ljava/lang/Object;I)V
abbrev Rm10 : Room := { frames := 3, cells := 1, slots := 10, locals := 41 }
def Q10 (Z : State) (a1 : Addr) (a2 : Addr) (a3 : Addr) (k4 : ClassId) (h0 : Heap) (n0 : Nat) (v : Option Value) (h : Heap) (L : List Loc) : Prop := ∃ b6_b5_b9 : Addr, ∃ k6_k5_k9 : ClassId, v = none ∧ Fr n0 L ∧ Keep h0 h [a1] ∧ Exa Z h a1 "java/util/ArrayList" ∧ Fld Z h a1 "java/util/AbstractList" "modCount" "I" (.int (1 : Int32)) ∧ Fld Z h a1 "java/util/ArrayList" "elementData" "[Ljava/lang/Object;" (.ref b6_b5_b9) ∧ Fld Z h a1 "java/util/ArrayList" "size" "I" (.int (1 : Int32)) ∧ h0.size ≤ b6_b5_b9 ∧ Exa Z h b6_b5_b9 "[Ljava/lang/Object;" ∧ Ovr Z k6_k5_k9 "java/lang/Object" ∧ Arv Z h b6_b5_b9 k6_k5_k9 (.object "java/lang/Object") (10 : Int32) [(.ref a2), .null, .null, .null, .null, .null, .null, .null, .null, .null] .null
theorem ef10 (a1 : Addr) (a2 : Addr) (a3 : Addr) (m : MethodId) : entryFrame m #[(.ref a1), (.ref a2), (.ref a3), (.int (0 : Int32))] 4 = mkF m 0 #[.val (.ref a1), .val (.ref a2), .val (.ref a3), .val (.int (0 : Int32))] [] := by first | (simp [entryFrame, mkF, argsToLocals, Value.category]; done) | rfl
theorem rm10 (l : Launch) (Z : State) (a0 : Array Value) (hw : ∀ d ∈ tables_1, d.before a0 Z = true) (ws : List Jvm.Cond) (a1 : Addr) (a2 : Addr) (a3 : Addr) (k4 : ClassId) (h0 : Heap) (n0 : Nat) (Z0 : n0 ≤ h0.size) (V_a3 : Arv Z h0 a3 k4 (.object "java/lang/Object") (0 : Int32) [] .null) (F_size_a1 : Fld Z h0 a1 "java/util/ArrayList" "size" "I" (.int (0 : Int32))) (F_elementData_a1 : Fld Z h0 a1 "java/util/ArrayList" "elementData" "[Ljava/lang/Object;" (.ref a3)) (S_DEFAULTCAPACITY_EMPTY_ELEMENTDATA : Sta Z Z.heap "java/util/ArrayList" "DEFAULTCAPACITY_EMPTY_ELEMENTDATA" "[Ljava/lang/Object;" (.ref a3)) (Od0 : Old Z n0 h0) (E_a1 : Exa Z h0 a1 "java/util/ArrayList") (g_a1 : n0 ≤ a1) (F_modCount_a1 : Fld Z h0 a1 "java/util/AbstractList" "modCount" "I" (.int (1 : Int32))) (E_a2 : Exa Z h0 a2 "com/example/feedergen/feedergen/core/GeoPoint") :
    OwnMet l Z y_9 jdk_38_method_24_code 4 none ws Rm10 #[(.ref a1), (.ref a2), (.ref a3), (.int (0 : Int32))] h0 (Q10 Z a1 a2 a3 k4 h0 n0) := by
  refine own_body (plainFor_of_name pn_5) (ef10 a1 a2 a3) ?_
  intro p e s m below meth c s₁ hx hby hml hown hnm hret hZ X0 e0
  have N0 := Fr.nil n0
  obtain ⟨cl5, Ar5, q5, S5, M5, Hs5, G5⟩ := id V_a3
  obtain ⟨_, T6, L6, X6, hQ6, st6⟩ := own_private X0 hx hZ hown (y := y_8) E_a1 (w_66 hw) (w_67 hw) (mvT hZ (w_69 hw)) (w_68 hw) (w_30 hw) (w_70 hw) (rm9 l Z a0 hw [] a1 a3 k4 h0 n0 Z0 F_size_a1 F_elementData_a1 V_a3 S_DEFAULTCAPACITY_EMPTY_ELEMENTDATA Od0 E_a1 g_a1 F_modCount_a1) e0 (Ls := #[.val (.ref a1), .val (.ref a2), .val (.ref a3), .val (.int (0 : Int32))]) (by rw [hml]; rfl) (argsL := []) (rest := []) (lenOf pd_5 rfl) (hb hby d9_7) (W := 0)
  obtain ⟨b6_b5_b9, k6_k5_k9, rfl, Nq6, K6, o6_0, o6_1, o6_2, o6_3, o6_4, o6_5, o6_6, o6_7⟩ := hQ6
  have N6 := Fr.app N0 Nq6
  have s0 := K6.1
  obtain ⟨cl7, Ar7, q7, S7, M7, Hs7, G7⟩ := id o6_7
  have hin8 : ¬ ((0 : Int32) < 0 ∨ cl7.slots.size ≤ ((0 : Int32)).toNatClampNeg) := inb_of S7 ⟨(by decide : ¬ ((0 : Int32) < (0 : Int32))), (by decide : (0 : Int32) < (10 : Int32))⟩
  have Ex9 := (E_a2.keep K6)
  obtain ⟨T10, h10, X10, e10, W10, st10⟩ := stR X6 hx hZ rfl Ar7 (j := (0 : Int32)) hin8 rfl (Sto.ofV Ar7 q7 o6_6 (Ins.of_exa Ex9 (w_82 hw))) (g := (mkF m 14 #[.val (.ref a1), .val (.ref a2), .val (.ref b6_b5_b9), .val (.int (0 : Int32))] [(.ref a2), (.int (0 : Int32)), (.ref b6_b5_b9)])) rfl rfl (hb hby d9_14)
  have s1 := (Keep.of_wr W10).1
  have g_b6_b5_b9 : n0 ≤ b6_b5_b9 := Nat.le_trans Z0 o6_4
  have N10 := Fr.snoc X10 N6 g_b6_b5_b9
  have Vs10 : Arv Z h10 b6_b5_b9 k6_k5_k9 (.object "java/lang/Object") (10 : Int32) [(.ref a2), .null, .null, .null, .null, .null, .null, .null, .null, .null] .null := Arv.set Ar7 q7 S7 M7 Hs7 G7 rfl W10 0 rfl (Nat.le_of_ble_eq_true rfl)
  have ne_a1_b6_b5_b9 := Nat.ne_of_lt (Nat.lt_of_lt_of_le F_size_a1.lt o6_4)
  have Fl11 := (o6_3.other W10 (Or.inl ne_a1_b6_b5_b9))
  have Ex12 := (o6_0.wr W10)
  obtain ⟨T13, h13, X13, e13, W13, st13⟩ := putF X10 hx hZ hown (host := "") (Or.inl (w_59 hw)) Via.refl e10 Fl11 Ex12 (Or.inl (w_60 hw)) (w_29 hw) (ty := .int) (by decide) rfl rfl (g := (mkF m 19 #[.val (.ref a1), .val (.ref a2), .val (.ref b6_b5_b9), .val (.int (0 : Int32))] [(.int (1 : Int32)), (.ref a1)])) rfl rfl (hb hby d9_19)
  have s2 := (Keep.of_wr W13).1
  have N13 := Fr.snoc X13 N10 g_a1
  have Fw13 : Fld Z h13 a1 "java/util/ArrayList" "size" "I" (.int (1 : Int32)) := Fl11.same W13
  have Ex14 := (Ex12.wr W13)
  have Fl15 := ((o6_1.other W10 (Or.inl ne_a1_b6_b5_b9)).other W13 (Or.inr (slot_ne (Or.inl (w_48 hw)) (Or.inl (w_60 hw)) (by decide) (t := .int) (t' := .int) (by decide) (by decide))))
  have Fl16 := ((o6_2.other W10 (Or.inl ne_a1_b6_b5_b9)).other W13 (Or.inr (slot_ne (Or.inl (w_51 hw)) (Or.inl (w_60 hw)) (by decide) (t := (.array (.object "java/lang/Object"))) (t' := .int) (by decide) (by decide))))
  have sz_b6_b5_b9 : h0.size ≤ b6_b5_b9 := o6_4
  have Ex17 := ((o6_5.wr W10).wr W13)
  have Va18 := (Vs10.other W13 (Ne.symm ne_a1_b6_b5_b9))
  have Kp0 : Keep h0 T6.heap [a1] := (Keep.refl h0 [a1]).trans K6 (allS (Or.inl (List.mem_of_getElem? (i := 0) rfl)) all0)
  have Kp1 : Keep h0 h10 [a1] := Kp0.wr W10 (Or.inr sz_b6_b5_b9)
  have Kp2 : Keep h0 h13 [a1] := Kp1.wr W13 (Or.inl (List.mem_of_getElem? (i := 0) rfl))
  refine ⟨T13, _, _, _, none, X13, (fun _ => rfl), by decide, by decide, ?_, fun fs hr => ?_⟩
  · show Q10 Z a1 a2 a3 k4 h0 n0 _ T13.heap _
    rw [e13]
    exact ⟨b6_b5_b9, k6_k5_k9, rfl, N13, Kp2, Ex14, Fl15, Fl16, Fw13, sz_b6_b5_b9, Ex17, o6_6, Va18⟩
  · show Steps p.tables e below (s₁.setTop (mkF m 0 #[.val (.ref a1), .val (.ref a2), .val (.ref a3), .val (.int (0 : Int32))] [])) _
    refine XS.iloadN X0.here hx rfl (hb hby d9_0) rfl ?_
    refine XS.aloadN X0.here hx rfl (hb hby d9_1) rfl rfl ?_
    refine X0.arraylength hx (by rw [e0]; exact Ar5.1) (State.isArrayOf_alike hZ.alike Ar5.2.1) (g := (mkF m 2 #[.val (.ref a1), .val (.ref a2), .val (.ref a3), .val (.int (0 : Int32))] [(.ref a3), (.int (0 : Int32))])) rfl rfl (hb hby d9_2) _ ?_
    show Steps p.tables e below (s₁.setTop (mkF m 3 #[.val (.ref a1), .val (.ref a2), .val (.ref a3), .val (.int (0 : Int32))] [(.int cl5.slots.size.toInt32), (.int (0 : Int32))])) _
    rw [len_of S5 M5]
    refine XS.icmpNo X0.here hx rfl (hb hby d9_3) rfl (teq ((by decide : (0 : Int32) = (0 : Int32)) : (0 : Int32) = (0 : Int32))).2 ?_
    refine XS.aloadN X0.here hx rfl (hb hby d9_6) rfl rfl ?_
    refine st6 _ ?_
    refine XS.astoreN X6.here hx rfl (hb hby d9_10) rfl rfl (l' := #[.val (.ref a1), .val (.ref a2), .val (.ref b6_b5_b9), .val (.int (0 : Int32))]) rfl ?_
    refine XS.aloadN X6.here hx rfl (hb hby d9_11) rfl rfl ?_
    refine XS.iloadN X6.here hx rfl (hb hby d9_12) rfl ?_
    refine XS.aloadN X6.here hx rfl (hb hby d9_13) rfl rfl ?_
    refine st10 _ ?_
    refine XS.aloadN X10.here hx rfl (hb hby d9_15) rfl rfl ?_
    refine XS.iloadN X10.here hx rfl (hb hby d9_16) rfl ?_
    refine XS.iconst X10.here hx rfl (hb hby d9_17) ?_
    show Steps p.tables e below (T10.setTop (mkF m 18 #[.val (.ref a1), .val (.ref a2), .val (.ref b6_b5_b9), .val (.int (0 : Int32))] [(.int (1 : Int32)), (.int (0 : Int32)), (.ref a1)])) _
    refine XS.iadd X10.here hx rfl (hb hby d9_18) rfl ?_
    refine st13 _ ?_
    exact X13.returnOut hx hret (hb hby d9_22) hr
theorem pd_6 : parseMethodDescriptor "(Ljava/lang/Object;[Ljava/lang/Object;I)V" = some ⟨[(.object "java/lang/Object"), (.array (.object "java/lang/Object")), .int], none⟩ := by decide +kernel
theorem w_65 {a0 : Array Value} {Z : State} (hw : ∀ d ∈ tables_1, d.before a0 Z = true) : Jvm.Cond.before (Jvm.Cond.code ({ cls := "java/util/ArrayList", name := "add", desc := "(Ljava/lang/Object;[Ljava/lang/Object;I)V" } : Jvm.MethodName) jdk_38_method_24_code (4 : Nat) (Option.none : Option Jvm.ClassFile.FieldType)) a0 Z = true := hw _ (List.mem_of_getElem? (i := 65) rfl)
theorem w_61 {a0 : Array Value} {Z : State} (hw : ∀ d ∈ tables_1, d.before a0 Z = true) : Jvm.Cond.before (Jvm.Cond.methodLink "java/util/ArrayList" (131 : Nat) ({ cls := "java/util/ArrayList", name := "add", desc := "(Ljava/lang/Object;[Ljava/lang/Object;I)V" } : Jvm.MethodName)) a0 Z = true := hw _ (List.mem_of_getElem? (i := 61) rfl)
theorem w_62 {a0 : Array Value} {Z : State} (hw : ∀ d ∈ tables_1, d.before a0 Z = true) : Jvm.Cond.before (Jvm.Cond.instanceMethod ({ cls := "java/util/ArrayList", name := "add", desc := "(Ljava/lang/Object;[Ljava/lang/Object;I)V" } : Jvm.MethodName)) a0 Z = true := hw _ (List.mem_of_getElem? (i := 62) rfl)
theorem w_64 {a0 : Array Value} {Z : State} (hw : ∀ d ∈ tables_1, d.before a0 Z = true) : Jvm.Cond.before (Jvm.Cond.selects "java/util/ArrayList" ({ cls := "java/util/ArrayList", name := "add", desc := "(Ljava/lang/Object;[Ljava/lang/Object;I)V" } : Jvm.MethodName) ({ cls := "java/util/ArrayList", name := "add", desc := "(Ljava/lang/Object;[Ljava/lang/Object;I)V" } : Jvm.MethodName)) a0 Z = true := hw _ (List.mem_of_getElem? (i := 64) rfl)
theorem w_63 {a0 : Array Value} {Z : State} (hw : ∀ d ∈ tables_1, d.before a0 Z = true) : Jvm.Cond.before (Jvm.Cond.privateMethod ({ cls := "java/util/ArrayList", name := "add", desc := "(Ljava/lang/Object;[Ljava/lang/Object;I)V" } : Jvm.MethodName)) a0 Z = true := hw _ (List.mem_of_getElem? (i := 63) rfl)
theorem d8_23 : decode jdk_38_method_25_code 23 = .ok (.iconst 1, 1) := by decide +kernel
theorem d8_24 : decode jdk_38_method_25_code 24 = .ok (.ireturn, 1) := by decide +kernel
abbrev y_10 : MethodName := ⟨"java/util/ArrayList", "add", "(Ljava/lang/Object;)Z"⟩
-- java/util/ArrayList.add(Ljava/lang/Object;)Z
abbrev Rm11 : Room := { frames := 4, cells := 1, slots := 10, locals := 56 }
def Q11 (Z : State) (a1 : Addr) (a2 : Addr) (a5 : Addr) (k11 : ClassId) (h0 : Heap) (n0 : Nat) (v : Option Value) (h : Heap) (L : List Loc) : Prop := ∃ b14_b6_b5_b9 : Addr, ∃ k14_k6_k5_k9 : ClassId, v = some (.int (1 : Int32)) ∧ Fr n0 L ∧ Keep h0 h [a1] ∧ Exa Z h a1 "java/util/ArrayList" ∧ Fld Z h a1 "java/util/AbstractList" "modCount" "I" (.int (1 : Int32)) ∧ Fld Z h a1 "java/util/ArrayList" "elementData" "[Ljava/lang/Object;" (.ref b14_b6_b5_b9) ∧ Fld Z h a1 "java/util/ArrayList" "size" "I" (.int (1 : Int32)) ∧ h0.size ≤ b14_b6_b5_b9 ∧ Exa Z h b14_b6_b5_b9 "[Ljava/lang/Object;" ∧ Ovr Z k14_k6_k5_k9 "java/lang/Object" ∧ Arv Z h b14_b6_b5_b9 k14_k6_k5_k9 (.object "java/lang/Object") (10 : Int32) [(.ref a2), .null, .null, .null, .null, .null, .null, .null, .null, .null] .null
theorem ef11 (a1 : Addr) (a2 : Addr) (m : MethodId) : entryFrame m #[(.ref a1), (.ref a2)] 2 = mkF m 0 #[.val (.ref a1), .val (.ref a2)] [] := by first | (simp [entryFrame, mkF, argsToLocals, Value.category]; done) | rfl
theorem rm11 (l : Launch) (Z : State) (a0 : Array Value) (hw : ∀ d ∈ tables_1, d.before a0 Z = true) (ws : List Jvm.Cond) (a1 : Addr) (a2 : Addr) (a5 : Addr) (k11 : ClassId) (h0 : Heap) (n0 : Nat) (Z0 : n0 ≤ h0.size) (F_modCount_a1 : Fld Z h0 a1 "java/util/AbstractList" "modCount" "I" (.int (0 : Int32))) (E_a1 : Exa Z h0 a1 "java/util/ArrayList") (g_a1 : n0 ≤ a1) (F_elementData_a1 : Fld Z h0 a1 "java/util/ArrayList" "elementData" "[Ljava/lang/Object;" (.ref a5)) (F_size_a1 : Fld Z h0 a1 "java/util/ArrayList" "size" "I" (.int (0 : Int32))) (V_a5 : Arv Z h0 a5 k11 (.object "java/lang/Object") (0 : Int32) [] .null) (ne_a5_a1 : a5 ≠ a1) (S_DEFAULTCAPACITY_EMPTY_ELEMENTDATA : Sta Z Z.heap "java/util/ArrayList" "DEFAULTCAPACITY_EMPTY_ELEMENTDATA" "[Ljava/lang/Object;" (.ref a5)) (Od0 : Old Z n0 h0) (E_a2 : Exa Z h0 a2 "com/example/feedergen/feedergen/core/GeoPoint") :
    OwnMet l Z y_10 jdk_38_method_25_code 2 (some .boolean) ws Rm11 #[(.ref a1), (.ref a2)] h0 (Q11 Z a1 a2 a5 k11 h0 n0) := by
  refine own_body (plainFor_of_name pn_5) (ef11 a1 a2) ?_
  intro p e s m below meth c s₁ hx hby hml hown hnm hret hZ X0 e0
  have N0 := Fr.nil n0
  obtain ⟨T3, X3, e3, st3⟩ := getF X0 hx hZ hown (host := "") (Or.inl (w_57 hw)) (Via.of (w_58 hw)) e0 F_modCount_a1 (g := (mkF m 2 #[.val (.ref a1), .val (.ref a2)] [(.ref a1), (.ref a1)])) rfl rfl (hb hby d8_2)
  obtain ⟨T4, h4, X4, e4, W4, st4⟩ := putF X3 hx hZ hown (host := "") (Or.inl (w_57 hw)) (Via.of (w_58 hw)) e3 F_modCount_a1 E_a1 (Or.inl (w_48 hw)) (w_29 hw) (ty := .int) (by decide) rfl rfl (g := (mkF m 7 #[.val (.ref a1), .val (.ref a2)] [(.int (1 : Int32)), (.ref a1)])) rfl rfl (hb hby d8_7)
  have s0 := (Keep.of_wr W4).1
  have N4 := Fr.snoc X4 N0 g_a1
  have Fw4 : Fld Z h4 a1 "java/util/AbstractList" "modCount" "I" (.int (1 : Int32)) := F_modCount_a1.same W4
  have Ex6 := (E_a1.wr W4)
  have Fl7 := (F_elementData_a1.other W4 (Or.inr (slot_ne (Or.inl (w_51 hw)) (Or.inl (w_48 hw)) (by decide) (t := (.array (.object "java/lang/Object"))) (t' := .int) (by decide) (by decide))))
  obtain ⟨T8, X8, e8, st8⟩ := getF X4 hx hZ hown (host := "") (Or.inl (w_50 hw)) Via.refl e4 Fl7 (g := (mkF m 13 #[.val (.ref a1), .val (.ref a2)] [(.ref a1), (.ref a2), (.ref a1)])) rfl rfl (hb hby d8_13)
  have Fl9 := (F_size_a1.other W4 (Or.inr (slot_ne (Or.inl (w_60 hw)) (Or.inl (w_48 hw)) (by decide) (t := .int) (t' := .int) (by decide) (by decide))))
  obtain ⟨T10, X10, e10, st10⟩ := getF X8 hx hZ hown (host := "") (Or.inl (w_59 hw)) Via.refl e8 Fl9 (g := (mkF m 17 #[.val (.ref a1), .val (.ref a2)] [(.ref a1), (.ref a5), (.ref a2), (.ref a1)])) rfl rfl (hb hby d8_17)
  have Va12 := (V_a5.other W4 ne_a5_a1)
  have Od1 : Old Z n0 h4 := Od0.wr W4 g_a1
  have Ex13 := (E_a2.wr W4)
  have z1 := Nat.le_trans Z0 s0
  obtain ⟨_, T14, L14, X14, hQ14, st14⟩ := own_private X10 hx hZ hown (y := y_9) Ex6 (w_61 hw) (w_62 hw) (mvT hZ (w_64 hw)) (w_63 hw) (w_30 hw) (w_65 hw) (rm10 l Z a0 hw [] a1 a2 a5 k11 h4 n0 z1 Va12 Fl9 Fl7 S_DEFAULTCAPACITY_EMPTY_ELEMENTDATA Od1 Ex6 g_a1 Fw4 Ex13) e10 (Ls := #[.val (.ref a1), .val (.ref a2)]) (by rw [hml]; rfl) (argsL := [(.ref a2), (.ref a5), (.int (0 : Int32))]) (rest := []) (lenOf pd_6 rfl) (hb hby d8_20) (W := 0)
  obtain ⟨b14_b6_b5_b9, k14_k6_k5_k9, rfl, Nq14, K14, o14_0, o14_1, o14_2, o14_3, o14_4, o14_5, o14_6, o14_7⟩ := hQ14
  have N14 := Fr.app N4 Nq14
  have s1 := K14.1
  have sz_b14_b6_b5_b9 : h0.size ≤ b14_b6_b5_b9 := Nat.le_trans s0 o14_4
  have Kp0 : Keep h0 h4 [a1] := (Keep.refl h0 [a1]).wr W4 (Or.inl (List.mem_of_getElem? (i := 0) rfl))
  have Kp1 : Keep h0 T14.heap [a1] := Kp0.trans K14 (allS (Or.inl (List.mem_of_getElem? (i := 0) rfl)) all0)
  refine ⟨T14, _, _, _, (some (.int (1 : Int32))), X14, nofun, by decide, by decide, ?_, fun fs hr => ?_⟩
  · show Q11 Z a1 a2 a5 k11 h0 n0 _ T14.heap _
    exact ⟨b14_b6_b5_b9, k14_k6_k5_k9, rfl, N14, Kp1, o14_0, o14_1, o14_2, o14_3, sz_b14_b6_b5_b9, o14_5, o14_6, o14_7⟩
  · show Steps p.tables e below (s₁.setTop (mkF m 0 #[.val (.ref a1), .val (.ref a2)] [])) _
    refine XS.aloadN X0.here hx rfl (hb hby d8_0) rfl rfl ?_
    refine XS.dup X0.here hx rfl (hb hby d8_1) rfl rfl ?_
    refine st3 _ ?_
    refine XS.iconst X3.here hx rfl (hb hby d8_5) ?_
    refine XS.iadd X3.here hx rfl (hb hby d8_6) rfl ?_
    refine st4 _ ?_
    refine XS.aloadN X4.here hx rfl (hb hby d8_10) rfl rfl ?_
    refine XS.aloadN X4.here hx rfl (hb hby d8_11) rfl rfl ?_
    refine XS.aloadN X4.here hx rfl (hb hby d8_12) rfl rfl ?_
    refine st8 _ ?_
    refine XS.aloadN X8.here hx rfl (hb hby d8_16) rfl rfl ?_
    refine st10 _ ?_
    show Steps p.tables e below (T10.setTop (mkF m 20 #[.val (.ref a1), .val (.ref a2)] [(.int (0 : Int32)), (.ref a5), (.ref a2), (.ref a1)])) _
    refine st14 _ ?_
    refine XS.iconst X14.here hx rfl (hb hby d8_23) ?_
    exact retN X14 hx (t := .boolean) hret (by simp) (hb hby d8_24) hr
theorem pd_7 : parseMethodDescriptor "(Ljava/lang/Object;)Z" = some ⟨[(.object "java/lang/Object")], some .boolean⟩ := by decide +kernel
theorem w_56 {a0 : Array Value} {Z : State} (hw : ∀ d ∈ tables_1, d.before a0 Z = true) : Jvm.Cond.before (Jvm.Cond.code ({ cls := "java/util/ArrayList", name := "add", desc := "(Ljava/lang/Object;)Z" } : Jvm.MethodName) jdk_38_method_25_code (2 : Nat) (Option.some Jvm.ClassFile.FieldType.boolean)) a0 Z = true := hw _ (List.mem_of_getElem? (i := 56) rfl)
theorem w_52 {a0 : Array Value} {Z : State} (hw : ∀ d ∈ tables_1, d.before a0 Z = true) : Jvm.Cond.before (Jvm.Cond.methodLink "com/example/feedergen/feedergen/core/StreetLinkLastPinLaw" (16 : Nat) ({ cls := "java/util/ArrayList", name := "add", desc := "(Ljava/lang/Object;)Z" } : Jvm.MethodName)) a0 Z = true := hw _ (List.mem_of_getElem? (i := 52) rfl)
theorem w_55 {a0 : Array Value} {Z : State} (hw : ∀ d ∈ tables_1, d.before a0 Z = true) : Jvm.Cond.before (Jvm.Cond.selects "java/util/ArrayList" ({ cls := "java/util/ArrayList", name := "add", desc := "(Ljava/lang/Object;)Z" } : Jvm.MethodName) ({ cls := "java/util/ArrayList", name := "add", desc := "(Ljava/lang/Object;)Z" } : Jvm.MethodName)) a0 Z = true := hw _ (List.mem_of_getElem? (i := 55) rfl)
theorem w_53 {a0 : Array Value} {Z : State} (hw : ∀ d ∈ tables_1, d.before a0 Z = true) : Jvm.Cond.before (Jvm.Cond.declares ({ cls := "java/util/ArrayList", name := "add", desc := "(Ljava/lang/Object;)Z" } : Jvm.MethodName)) a0 Z = true := hw _ (List.mem_of_getElem? (i := 53) rfl)
theorem w_54 {a0 : Array Value} {Z : State} (hw : ∀ d ∈ tables_1, d.before a0 Z = true) : Jvm.Cond.before (Jvm.Cond.instanceMethod ({ cls := "java/util/ArrayList", name := "add", desc := "(Ljava/lang/Object;)Z" } : Jvm.MethodName)) a0 Z = true := hw _ (List.mem_of_getElem? (i := 54) rfl)
-- java/util/ArrayList.add(Ljava/lang/Object;[Ljava/lang/Object;I)V
abbrev Rm12 : Room := { frames := 0, cells := 0, slots := 0, locals := 0 }
def Q12 (Z : State) (a1 : Addr) (a2 : Addr) (a3 : Addr) (k4 : ClassId) (h0 : Heap) (n0 : Nat) (v : Option Value) (h : Heap) (L : List Loc) : Prop := v = none ∧ Fr n0 L ∧ Keep h0 h [a3, a1] ∧ Exa Z h a3 "[Ljava/lang/Object;" ∧ Arv Z h a3 k4 (.object "java/lang/Object") (10 : Int32) [(.ref a2), (.ref a2), .null, .null, .null, .null, .null, .null, .null, .null] .null ∧ Exa Z h a1 "java/util/ArrayList" ∧ Fld Z h a1 "java/util/AbstractList" "modCount" "I" (.int (2 : Int32)) ∧ Fld Z h a1 "java/util/ArrayList" "elementData" "[Ljava/lang/Object;" (.ref a3) ∧ Fld Z h a1 "java/util/ArrayList" "size" "I" (.int (2 : Int32))
theorem ef12 (a1 : Addr) (a2 : Addr) (a3 : Addr) (m : MethodId) : entryFrame m #[(.ref a1), (.ref a2), (.ref a3), (.int (1 : Int32))] 4 = mkF m 0 #[.val (.ref a1), .val (.ref a2), .val (.ref a3), .val (.int (1 : Int32))] [] := by first | (simp [entryFrame, mkF, argsToLocals, Value.category]; done) | rfl
theorem rm12 (l : Launch) (Z : State) (a0 : Array Value) (hw : ∀ d ∈ tables_1, d.before a0 Z = true) (ws : List Jvm.Cond) (a1 : Addr) (a2 : Addr) (a3 : Addr) (k4 : ClassId) (h0 : Heap) (n0 : Nat) (Z0 : n0 ≤ h0.size) (V_a3 : Arv Z h0 a3 k4 (.object "java/lang/Object") (10 : Int32) [(.ref a2), .null, .null, .null, .null, .null, .null, .null, .null, .null] .null) (O_k4 : Ovr Z k4 "java/lang/Object") (E_a2 : Exa Z h0 a2 "com/example/feedergen/feedergen/core/GeoPoint") (g_a3 : n0 ≤ a3) (F_size_a1 : Fld Z h0 a1 "java/util/ArrayList" "size" "I" (.int (1 : Int32))) (ne_a1_a3 : a1 ≠ a3) (E_a1 : Exa Z h0 a1 "java/util/ArrayList") (g_a1 : n0 ≤ a1) (E_a3 : Exa Z h0 a3 "[Ljava/lang/Object;") (F_modCount_a1 : Fld Z h0 a1 "java/util/AbstractList" "modCount" "I" (.int (2 : Int32))) (F_elementData_a1 : Fld Z h0 a1 "java/util/ArrayList" "elementData" "[Ljava/lang/Object;" (.ref a3)) :
    OwnMet l Z y_9 jdk_38_method_24_code 4 none ws Rm12 #[(.ref a1), (.ref a2), (.ref a3), (.int (1 : Int32))] h0 (Q12 Z a1 a2 a3 k4 h0 n0) := by
  refine own_body (plainFor_of_name pn_5) (ef12 a1 a2 a3) ?_
  intro p e s m below meth c s₁ hx hby hml hown hnm hret hZ X0 e0
  have N0 := Fr.nil n0
  obtain ⟨cl5, Ar5, q5, S5, M5, Hs5, G5⟩ := id V_a3
  have hin6 : ¬ ((1 : Int32) < 0 ∨ cl5.slots.size ≤ ((1 : Int32)).toNatClampNeg) := inb_of S5 ⟨(by decide : ¬ ((1 : Int32) < (0 : Int32))), (by decide : (1 : Int32) < (10 : Int32))⟩
  obtain ⟨T7, h7, X7, e7, W7, st7⟩ := stR X0 hx hZ e0 Ar5 (j := (1 : Int32)) hin6 rfl (Sto.ofV Ar5 q5 O_k4 (Ins.of_exa E_a2 (w_82 hw))) (g := (mkF m 14 #[.val (.ref a1), .val (.ref a2), .val (.ref a3), .val (.int (1 : Int32))] [(.ref a2), (.int (1 : Int32)), (.ref a3)])) rfl rfl (hb hby d9_14)
  have s0 := (Keep.of_wr W7).1
  have N7 := Fr.snoc X7 N0 g_a3
  have Vs7 : Arv Z h7 a3 k4 (.object "java/lang/Object") (10 : Int32) [(.ref a2), (.ref a2), .null, .null, .null, .null, .null, .null, .null, .null] .null := Arv.set Ar5 q5 S5 M5 Hs5 G5 rfl W7 1 rfl (Nat.le_of_ble_eq_true rfl)
  have Fl8 := (F_size_a1.other W7 (Or.inl ne_a1_a3))
  have Ex9 := (E_a1.wr W7)
  obtain ⟨T10, h10, X10, e10, W10, st10⟩ := putF X7 hx hZ hown (host := "") (Or.inl (w_59 hw)) Via.refl e7 Fl8 Ex9 (Or.inl (w_60 hw)) (w_29 hw) (ty := .int) (by decide) rfl rfl (g := (mkF m 19 #[.val (.ref a1), .val (.ref a2), .val (.ref a3), .val (.int (1 : Int32))] [(.int (2 : Int32)), (.ref a1)])) rfl rfl (hb hby d9_19)
  have s1 := (Keep.of_wr W10).1
  have N10 := Fr.snoc X10 N7 g_a1
  have Fw10 : Fld Z h10 a1 "java/util/ArrayList" "size" "I" (.int (2 : Int32)) := Fl8.same W10
  have Ex11 := ((E_a3.wr W7).wr W10)
  have Va12 := (Vs7.other W10 (Ne.symm ne_a1_a3))
  have Ex13 := (Ex9.wr W10)
  have Fl14 := ((F_modCount_a1.other W7 (Or.inl ne_a1_a3)).other W10 (Or.inr (slot_ne (Or.inl (w_48 hw)) (Or.inl (w_60 hw)) (by decide) (t := .int) (t' := .int) (by decide) (by decide))))
  have Fl15 := ((F_elementData_a1.other W7 (Or.inl ne_a1_a3)).other W10 (Or.inr (slot_ne (Or.inl (w_51 hw)) (Or.inl (w_60 hw)) (by decide) (t := (.array (.object "java/lang/Object"))) (t' := .int) (by decide) (by decide))))
  have Kp0 : Keep h0 h7 [a3, a1] := (Keep.refl h0 [a3, a1]).wr W7 (Or.inl (List.mem_of_getElem? (i := 0) rfl))
  have Kp1 : Keep h0 h10 [a3, a1] := Kp0.wr W10 (Or.inl (List.mem_of_getElem? (i := 1) rfl))
  refine ⟨T10, _, _, _, none, X10, (fun _ => rfl), by decide, by decide, ?_, fun fs hr => ?_⟩
  · show Q12 Z a1 a2 a3 k4 h0 n0 _ T10.heap _
    rw [e10]
    exact ⟨rfl, N10, Kp1, Ex11, Va12, Ex13, Fl14, Fl15, Fw10⟩
  · show Steps p.tables e below (s₁.setTop (mkF m 0 #[.val (.ref a1), .val (.ref a2), .val (.ref a3), .val (.int (1 : Int32))] [])) _
    refine XS.iloadN X0.here hx rfl (hb hby d9_0) rfl ?_
    refine XS.aloadN X0.here hx rfl (hb hby d9_1) rfl rfl ?_
    refine X0.arraylength hx (by rw [e0]; exact Ar5.1) (State.isArrayOf_alike hZ.alike Ar5.2.1) (g := (mkF m 2 #[.val (.ref a1), .val (.ref a2), .val (.ref a3), .val (.int (1 : Int32))] [(.ref a3), (.int (1 : Int32))])) rfl rfl (hb hby d9_2) _ ?_
    show Steps p.tables e below (s₁.setTop (mkF m 3 #[.val (.ref a1), .val (.ref a2), .val (.ref a3), .val (.int (1 : Int32))] [(.int cl5.slots.size.toInt32), (.int (1 : Int32))])) _
    rw [len_of S5 M5]
    refine XS.icmpYes X0.here hx rfl (pc0 := 3) (pc' := 11) rfl (hb hby d9_3) rfl (feq ((by decide : ¬ ((1 : Int32) = (10 : Int32))) : ¬ ((1 : Int32) = (10 : Int32)))).2 (by decide) (by decide) ?_
    refine XS.aloadN X0.here hx rfl (hb hby d9_11) rfl rfl ?_
    refine XS.iloadN X0.here hx rfl (hb hby d9_12) rfl ?_
    refine XS.aloadN X0.here hx rfl (hb hby d9_13) rfl rfl ?_
    refine st7 _ ?_
    refine XS.aloadN X7.here hx rfl (hb hby d9_15) rfl rfl ?_
    refine XS.iloadN X7.here hx rfl (hb hby d9_16) rfl ?_
    refine XS.iconst X7.here hx rfl (hb hby d9_17) ?_
    refine XS.iadd X7.here hx rfl (hb hby d9_18) rfl ?_
    refine st10 _ ?_
    exact X10.returnOut hx hret (hb hby d9_22) hr
-- java/util/ArrayList.add(Ljava/lang/Object;)Z
abbrev Rm13 : Room := { frames := 1, cells := 0, slots := 0, locals := 15 }
def Q13 (Z : State) (a1 : Addr) (a2 : Addr) (a5 : Addr) (k11 : ClassId) (h0 : Heap) (n0 : Nat) (v : Option Value) (h : Heap) (L : List Loc) : Prop := v = some (.int (1 : Int32)) ∧ Fr n0 L ∧ Keep h0 h [a1, a5] ∧ Exa Z h a1 "java/util/ArrayList" ∧ Fld Z h a1 "java/util/AbstractList" "modCount" "I" (.int (2 : Int32)) ∧ Fld Z h a1 "java/util/ArrayList" "elementData" "[Ljava/lang/Object;" (.ref a5) ∧ Fld Z h a1 "java/util/ArrayList" "size" "I" (.int (2 : Int32)) ∧ Exa Z h a5 "[Ljava/lang/Object;" ∧ Arv Z h a5 k11 (.object "java/lang/Object") (10 : Int32) [(.ref a2), (.ref a2), .null, .null, .null, .null, .null, .null, .null, .null] .null
theorem ef13 (a1 : Addr) (a2 : Addr) (m : MethodId) : entryFrame m #[(.ref a1), (.ref a2)] 2 = mkF m 0 #[.val (.ref a1), .val (.ref a2)] [] := by first | (simp [entryFrame, mkF, argsToLocals, Value.category]; done) | rfl
theorem rm13 (l : Launch) (Z : State) (a0 : Array Value) (hw : ∀ d ∈ tables_1, d.before a0 Z = true) (ws : List Jvm.Cond) (a1 : Addr) (a2 : Addr) (a5 : Addr) (k11 : ClassId) (h0 : Heap) (n0 : Nat) (Z0 : n0 ≤ h0.size) (F_modCount_a1 : Fld Z h0 a1 "java/util/AbstractList" "modCount" "I" (.int (1 : Int32))) (E_a1 : Exa Z h0 a1 "java/util/ArrayList") (g_a1 : n0 ≤ a1) (F_elementData_a1 : Fld Z h0 a1 "java/util/ArrayList" "elementData" "[Ljava/lang/Object;" (.ref a5)) (F_size_a1 : Fld Z h0 a1 "java/util/ArrayList" "size" "I" (.int (1 : Int32))) (V_a5 : Arv Z h0 a5 k11 (.object "java/lang/Object") (10 : Int32) [(.ref a2), .null, .null, .null, .null, .null, .null, .null, .null, .null] .null) (ne_a5_a1 : a5 ≠ a1) (O_k11 : Ovr Z k11 "java/lang/Object") (E_a2 : Exa Z h0 a2 "com/example/feedergen/feedergen/core/GeoPoint") (g_a5 : n0 ≤ a5) (E_a5 : Exa Z h0 a5 "[Ljava/lang/Object;") :
    OwnMet l Z y_10 jdk_38_method_25_code 2 (some .boolean) ws Rm13 #[(.ref a1), (.ref a2)] h0 (Q13 Z a1 a2 a5 k11 h0 n0) := by
  refine own_body (plainFor_of_name pn_5) (ef13 a1 a2) ?_
  intro p e s m below meth c s₁ hx hby hml hown hnm hret hZ X0 e0
  have N0 := Fr.nil n0
  obtain ⟨T3, X3, e3, st3⟩ := getF X0 hx hZ hown (host := "") (Or.inl (w_57 hw)) (Via.of (w_58 hw)) e0 F_modCount_a1 (g := (mkF m 2 #[.val (.ref a1), .val (.ref a2)] [(.ref a1), (.ref a1)])) rfl rfl (hb hby d8_2)
  obtain ⟨T4, h4, X4, e4, W4, st4⟩ := putF X3 hx hZ hown (host := "") (Or.inl (w_57 hw)) (Via.of (w_58 hw)) e3 F_modCount_a1 E_a1 (Or.inl (w_48 hw)) (w_29 hw) (ty := .int) (by decide) rfl rfl (g := (mkF m 7 #[.val (.ref a1), .val (.ref a2)] [(.int (2 : Int32)), (.ref a1)])) rfl rfl (hb hby d8_7)
  have s0 := (Keep.of_wr W4).1
  have N4 := Fr.snoc X4 N0 g_a1
  have Fw4 : Fld Z h4 a1 "java/util/AbstractList" "modCount" "I" (.int (2 : Int32)) := F_modCount_a1.same W4
  have Ex6 := (E_a1.wr W4)
  have Fl7 := (F_elementData_a1.other W4 (Or.inr (slot_ne (Or.inl (w_51 hw)) (Or.inl (w_48 hw)) (by decide) (t := (.array (.object "java/lang/Object"))) (t' := .int) (by decide) (by decide))))
  obtain ⟨T8, X8, e8, st8⟩ := getF X4 hx hZ hown (host := "") (Or.inl (w_50 hw)) Via.refl e4 Fl7 (g := (mkF m 13 #[.val (.ref a1), .val (.ref a2)] [(.ref a1), (.ref a2), (.ref a1)])) rfl rfl (hb hby d8_13)
  have Fl9 := (F_size_a1.other W4 (Or.inr (slot_ne (Or.inl (w_60 hw)) (Or.inl (w_48 hw)) (by decide) (t := .int) (t' := .int) (by decide) (by decide))))
  obtain ⟨T10, X10, e10, st10⟩ := getF X8 hx hZ hown (host := "") (Or.inl (w_59 hw)) Via.refl e8 Fl9 (g := (mkF m 17 #[.val (.ref a1), .val (.ref a2)] [(.ref a1), (.ref a5), (.ref a2), (.ref a1)])) rfl rfl (hb hby d8_17)
  have Va12 := (V_a5.other W4 ne_a5_a1)
  have Ex13 := (E_a2.wr W4)
  have Ex14 := (E_a5.wr W4)
  have z1 := Nat.le_trans Z0 s0
  obtain ⟨_, T15, L15, X15, hQ15, st15⟩ := own_private X10 hx hZ hown (y := y_9) Ex6 (w_61 hw) (w_62 hw) (mvT hZ (w_64 hw)) (w_63 hw) (w_30 hw) (w_65 hw) (rm12 l Z a0 hw [] a1 a2 a5 k11 h4 n0 z1 Va12 O_k11 Ex13 g_a5 Fl9 (Ne.symm ne_a5_a1) Ex6 g_a1 Ex14 Fw4 Fl7) e10 (Ls := #[.val (.ref a1), .val (.ref a2)]) (by rw [hml]; rfl) (argsL := [(.ref a2), (.ref a5), (.int (1 : Int32))]) (rest := []) (lenOf pd_6 rfl) (hb hby d8_20) (W := 0)
  obtain ⟨rfl, Nq15, K15, o15_0, o15_1, o15_2, o15_3, o15_4, o15_5⟩ := hQ15
  have N15 := Fr.app N4 Nq15
  have s1 := K15.1
  have Kp0 : Keep h0 h4 [a1, a5] := (Keep.refl h0 [a1, a5]).wr W4 (Or.inl (List.mem_of_getElem? (i := 0) rfl))
  have Kp1 : Keep h0 T15.heap [a1, a5] := Kp0.trans K15 (allS (Or.inl (List.mem_of_getElem? (i := 1) rfl)) (allS (Or.inl (List.mem_of_getElem? (i := 0) rfl)) all0))
  refine ⟨T15, _, _, _, (some (.int (1 : Int32))), X15, nofun, by decide, by decide, ?_, fun fs hr => ?_⟩
  · show Q13 Z a1 a2 a5 k11 h0 n0 _ T15.heap _
    exact ⟨rfl, N15, Kp1, o15_2, o15_3, o15_4, o15_5, o15_0, o15_1⟩
  · show Steps p.tables e below (s₁.setTop (mkF m 0 #[.val (.ref a1), .val (.ref a2)] [])) _
    refine XS.aloadN X0.here hx rfl (hb hby d8_0) rfl rfl ?_
    refine XS.dup X0.here hx rfl (hb hby d8_1) rfl rfl ?_
    refine st3 _ ?_
    refine XS.iconst X3.here hx rfl (hb hby d8_5) ?_
    refine XS.iadd X3.here hx rfl (hb hby d8_6) rfl ?_
    refine st4 _ ?_
    refine XS.aloadN X4.here hx rfl (hb hby d8_10) rfl rfl ?_
    refine XS.aloadN X4.here hx rfl (hb hby d8_11) rfl rfl ?_
    refine XS.aloadN X4.here hx rfl (hb hby d8_12) rfl rfl ?_
    refine st8 _ ?_
    refine XS.aloadN X8.here hx rfl (hb hby d8_16) rfl rfl ?_
    refine st10 _ ?_
    show Steps p.tables e below (T10.setTop (mkF m 20 #[.val (.ref a1), .val (.ref a2)] [(.int (1 : Int32)), (.ref a5), (.ref a2), (.ref a1)])) _
    refine st15 _ ?_
    refine XS.iconst X15.here hx rfl (hb hby d8_23) ?_
    exact retN X15 hx (t := .boolean) hret (by simp) (hb hby d8_24) hr
theorem w_83 {a0 : Array Value} {Z : State} (hw : ∀ d ∈ tables_1, d.before a0 Z = true) : Jvm.Cond.before (Jvm.Cond.classLink "com/example/feedergen/feedergen/core/StreetLinkLastPinLaw" (20 : Nat) "com/example/feedergen/feedergen/core/StreetWay") a0 Z = true := hw _ (List.mem_of_getElem? (i := 83) rfl)
theorem w_84 {a0 : Array Value} {Z : State} (hw : ∀ d ∈ tables_1, d.before a0 Z = true) : Jvm.Cond.before (Jvm.Cond.instantiable "com/example/feedergen/feedergen/core/StreetWay" (6 : Nat)) a0 Z = true := hw _ (List.mem_of_getElem? (i := 84) rfl)
theorem w_85 {a0 : Array Value} {Z : State} (hw : ∀ d ∈ tables_1, d.before a0 Z = true) : Jvm.Cond.before (Jvm.Cond.initialized "com/example/feedergen/feedergen/core/StreetWay") a0 Z = true := hw _ (List.mem_of_getElem? (i := 85) rfl)
theorem w_100 {a0 : Array Value} {Z : State} (hw : ∀ d ∈ tables_1, d.before a0 Z = true) : Jvm.Cond.before (Jvm.Cond.laysFinal "com/example/feedergen/feedergen/core/StreetWay" "com/example/feedergen/feedergen/core/StreetWay" "id" "J") a0 Z = true := hw _ (List.mem_of_getElem? (i := 100) rfl)
theorem w_102 {a0 : Array Value} {Z : State} (hw : ∀ d ∈ tables_1, d.before a0 Z = true) : Jvm.Cond.before (Jvm.Cond.laysFinal "com/example/feedergen/feedergen/core/StreetWay" "com/example/feedergen/feedergen/core/StreetWay" "name" "Ljava/lang/String;") a0 Z = true := hw _ (List.mem_of_getElem? (i := 102) rfl)
theorem w_104 {a0 : Array Value} {Z : State} (hw : ∀ d ∈ tables_1, d.before a0 Z = true) : Jvm.Cond.before (Jvm.Cond.laysFinal "com/example/feedergen/feedergen/core/StreetWay" "com/example/feedergen/feedergen/core/StreetWay" "streetClass" "Lcom/example/feedergen/feedergen/core/StreetClass;") a0 Z = true := hw _ (List.mem_of_getElem? (i := 104) rfl)
theorem w_106 {a0 : Array Value} {Z : State} (hw : ∀ d ∈ tables_1, d.before a0 Z = true) : Jvm.Cond.before (Jvm.Cond.laysFinal "com/example/feedergen/feedergen/core/StreetWay" "com/example/feedergen/feedergen/core/StreetWay" "oneway" "Z") a0 Z = true := hw _ (List.mem_of_getElem? (i := 106) rfl)
theorem w_108 {a0 : Array Value} {Z : State} (hw : ∀ d ∈ tables_1, d.before a0 Z = true) : Jvm.Cond.before (Jvm.Cond.laysFinal "com/example/feedergen/feedergen/core/StreetWay" "com/example/feedergen/feedergen/core/StreetWay" "travel" "Lcom/example/feedergen/feedergen/core/TravelDirection;") a0 Z = true := hw _ (List.mem_of_getElem? (i := 108) rfl)
theorem w_110 {a0 : Array Value} {Z : State} (hw : ∀ d ∈ tables_1, d.before a0 Z = true) : Jvm.Cond.before (Jvm.Cond.laysFinal "com/example/feedergen/feedergen/core/StreetWay" "com/example/feedergen/feedergen/core/StreetWay" "nodes" "[J") a0 Z = true := hw _ (List.mem_of_getElem? (i := 110) rfl)
theorem d13_0 : decode prog_35_method_1_code 0 = .ok (.aload_n 0, 1) := by decide +kernel
theorem d13_1 : decode prog_35_method_1_code 1 = .ok (.invokespecial 1, 3) := by decide +kernel
theorem w_89 {a0 : Array Value} {Z : State} (hw : ∀ d ∈ tables_1, d.before a0 Z = true) : Jvm.Cond.before (Jvm.Cond.methodLink "com/example/feedergen/feedergen/core/StreetWay" (1 : Nat) ({ cls := "java/lang/Record", name := "<init>", desc := "()V" } : Jvm.MethodName)) a0 Z = true := hw _ (List.mem_of_getElem? (i := 89) rfl)
theorem d13_4 : decode prog_35_method_1_code 4 = .ok (.aload 7, 2) := by decide +kernel
theorem d13_6 : decode prog_35_method_1_code 6 = .ok (.arraylength, 1) := by decide +kernel
theorem d13_7 : decode prog_35_method_1_code 7 = .ok (.iconst 2, 1) := by decide +kernel
theorem d13_8 : decode prog_35_method_1_code 8 = .ok (.if_icmp .ge 17, 3) := by decide +kernel
theorem d13_25 : decode prog_35_method_1_code 25 = .ok (.aload 7, 2) := by decide +kernel
theorem d13_27 : decode prog_35_method_1_code 27 = .ok (.invokevirtual 16, 3) := by decide +kernel
theorem w_90 {a0 : Array Value} {Z : State} (hw : ∀ d ∈ tables_1, d.before a0 Z = true) : Jvm.Cond.before (Jvm.Cond.methodLink "com/example/feedergen/feedergen/core/StreetWay" (16 : Nat) ({ cls := "[J", name := "clone", desc := "()Ljava/lang/Object;" } : Jvm.MethodName)) a0 Z = true := hw _ (List.mem_of_getElem? (i := 90) rfl)
theorem w_91 {a0 : Array Value} {Z : State} (hw : ∀ d ∈ tables_1, d.before a0 Z = true) : Jvm.Cond.before (Jvm.Cond.sameMethod "[J" "java/lang/Object" "clone" "()Ljava/lang/Object;") a0 Z = true := hw _ (List.mem_of_getElem? (i := 91) rfl)
theorem w_95 {a0 : Array Value} {Z : State} (hw : ∀ d ∈ tables_1, d.before a0 Z = true) : Jvm.Cond.before (Jvm.Cond.native ({ cls := "java/lang/Object", name := "clone", desc := "()Ljava/lang/Object;" } : Jvm.MethodName)) a0 Z = true := hw _ (List.mem_of_getElem? (i := 95) rfl)
theorem w_93 {a0 : Array Value} {Z : State} (hw : ∀ d ∈ tables_1, d.before a0 Z = true) : Jvm.Cond.before (Jvm.Cond.instanceMethod ({ cls := "java/lang/Object", name := "clone", desc := "()Ljava/lang/Object;" } : Jvm.MethodName)) a0 Z = true := hw _ (List.mem_of_getElem? (i := 93) rfl)
theorem w_94 {a0 : Array Value} {Z : State} (hw : ∀ d ∈ tables_1, d.before a0 Z = true) : Jvm.Cond.before (Jvm.Cond.selects "[J" ({ cls := "[J", name := "clone", desc := "()Ljava/lang/Object;" } : Jvm.MethodName) ({ cls := "java/lang/Object", name := "clone", desc := "()Ljava/lang/Object;" } : Jvm.MethodName)) a0 Z = true := hw _ (List.mem_of_getElem? (i := 94) rfl)
theorem w_96 {a0 : Array Value} {Z : State} (hw : ∀ d ∈ tables_1, d.before a0 Z = true) : Jvm.Cond.before (Jvm.Cond.castable "[J" "java/lang/Cloneable") a0 Z = true := hw _ (List.mem_of_getElem? (i := 96) rfl)
theorem d13_30 : decode prog_35_method_1_code 30 = .ok (.checkcast 17, 3) := by decide +kernel
theorem w_97 {a0 : Array Value} {Z : State} (hw : ∀ d ∈ tables_1, d.before a0 Z = true) : Jvm.Cond.before (Jvm.Cond.classLink "com/example/feedergen/feedergen/core/StreetWay" (17 : Nat) "[J") a0 Z = true := hw _ (List.mem_of_getElem? (i := 97) rfl)
theorem d13_33 : decode prog_35_method_1_code 33 = .ok (.astore 7, 2) := by decide +kernel
theorem d13_35 : decode prog_35_method_1_code 35 = .ok (.aload_n 0, 1) := by decide +kernel
theorem d13_36 : decode prog_35_method_1_code 36 = .ok (.lload_n 1, 1) := by decide +kernel
theorem d13_37 : decode prog_35_method_1_code 37 = .ok (.putfield 22, 3) := by decide +kernel
theorem w_99 {a0 : Array Value} {Z : State} (hw : ∀ d ∈ tables_1, d.before a0 Z = true) : Jvm.Cond.before (Jvm.Cond.fieldLink "com/example/feedergen/feedergen/core/StreetWay" (22 : Nat) "com/example/feedergen/feedergen/core/StreetWay" "id" "J") a0 Z = true := hw _ (List.mem_of_getElem? (i := 99) rfl)
theorem d13_40 : decode prog_35_method_1_code 40 = .ok (.aload_n 0, 1) := by decide +kernel
theorem d13_41 : decode prog_35_method_1_code 41 = .ok (.aload_n 3, 1) := by decide +kernel
theorem d13_42 : decode prog_35_method_1_code 42 = .ok (.putfield 28, 3) := by decide +kernel
theorem w_101 {a0 : Array Value} {Z : State} (hw : ∀ d ∈ tables_1, d.before a0 Z = true) : Jvm.Cond.before (Jvm.Cond.fieldLink "com/example/feedergen/feedergen/core/StreetWay" (28 : Nat) "com/example/feedergen/feedergen/core/StreetWay" "name" "Ljava/lang/String;") a0 Z = true := hw _ (List.mem_of_getElem? (i := 101) rfl)
theorem d13_45 : decode prog_35_method_1_code 45 = .ok (.aload_n 0, 1) := by decide +kernel
theorem d13_46 : decode prog_35_method_1_code 46 = .ok (.aload 4, 2) := by decide +kernel
theorem d13_48 : decode prog_35_method_1_code 48 = .ok (.putfield 32, 3) := by decide +kernel
theorem w_103 {a0 : Array Value} {Z : State} (hw : ∀ d ∈ tables_1, d.before a0 Z = true) : Jvm.Cond.before (Jvm.Cond.fieldLink "com/example/feedergen/feedergen/core/StreetWay" (32 : Nat) "com/example/feedergen/feedergen/core/StreetWay" "streetClass" "Lcom/example/feedergen/feedergen/core/StreetClass;") a0 Z = true := hw _ (List.mem_of_getElem? (i := 103) rfl)
theorem d13_51 : decode prog_35_method_1_code 51 = .ok (.aload_n 0, 1) := by decide +kernel
theorem d13_52 : decode prog_35_method_1_code 52 = .ok (.iload 5, 2) := by decide +kernel
theorem d13_54 : decode prog_35_method_1_code 54 = .ok (.putfield 36, 3) := by decide +kernel
theorem w_105 {a0 : Array Value} {Z : State} (hw : ∀ d ∈ tables_1, d.before a0 Z = true) : Jvm.Cond.before (Jvm.Cond.fieldLink "com/example/feedergen/feedergen/core/StreetWay" (36 : Nat) "com/example/feedergen/feedergen/core/StreetWay" "oneway" "Z") a0 Z = true := hw _ (List.mem_of_getElem? (i := 105) rfl)
theorem d13_57 : decode prog_35_method_1_code 57 = .ok (.aload_n 0, 1) := by decide +kernel
theorem d13_58 : decode prog_35_method_1_code 58 = .ok (.aload 6, 2) := by decide +kernel
theorem d13_60 : decode prog_35_method_1_code 60 = .ok (.putfield 40, 3) := by decide +kernel
theorem w_107 {a0 : Array Value} {Z : State} (hw : ∀ d ∈ tables_1, d.before a0 Z = true) : Jvm.Cond.before (Jvm.Cond.fieldLink "com/example/feedergen/feedergen/core/StreetWay" (40 : Nat) "com/example/feedergen/feedergen/core/StreetWay" "travel" "Lcom/example/feedergen/feedergen/core/TravelDirection;") a0 Z = true := hw _ (List.mem_of_getElem? (i := 107) rfl)
theorem d13_63 : decode prog_35_method_1_code 63 = .ok (.aload_n 0, 1) := by decide +kernel
theorem d13_64 : decode prog_35_method_1_code 64 = .ok (.aload 7, 2) := by decide +kernel
theorem d13_66 : decode prog_35_method_1_code 66 = .ok (.putfield 44, 3) := by decide +kernel
theorem w_109 {a0 : Array Value} {Z : State} (hw : ∀ d ∈ tables_1, d.before a0 Z = true) : Jvm.Cond.before (Jvm.Cond.fieldLink "com/example/feedergen/feedergen/core/StreetWay" (44 : Nat) "com/example/feedergen/feedergen/core/StreetWay" "nodes" "[J") a0 Z = true := hw _ (List.mem_of_getElem? (i := 109) rfl)
theorem d13_69 : decode prog_35_method_1_code 69 = .ok (.return_, 1) := by decide +kernel
abbrev y_11 : MethodName := ⟨"com/example/feedergen/feedergen/core/StreetWay", "<init>", "(JLjava/lang/String;Lcom/example/feedergen/feedergen/core/StreetClass;ZLcom/example/feedergen/feedergen/core/TravelDirection;[J)V"⟩
theorem pn_6 : plainName "com/example/feedergen/feedergen/core/StreetWay" = true := by first | (simp [plainName, overriddenIn]; done) | decide +kernel
-- com/example/feedergen/feedergen/core/StreetWay.<init>(JLjava/lang/String;Lcom/example/feedergen/feedergen/core/StreetClass;ZLcom/example/feedergen/feedergen/core/TravelDirection;[J)V
abbrev Rm14 : Room := { frames := 2, cells := 1, slots := 2, locals := 24 }
def Q14 (Z : State) (a1 : Addr) (q2 : Int64) (a3 : Addr) (q5 : Int64) (k6 : ClassId) (h0 : Heap) (n0 : Nat) (v : Option Value) (h : Heap) (L : List Loc) : Prop := ∃ b8 : Addr, v = none ∧ Fr n0 L ∧ Keep h0 h [a1] ∧ Exa Z h a1 "com/example/feedergen/feedergen/core/StreetWay" ∧ Fld Z h a1 "com/example/feedergen/feedergen/core/StreetWay" "id" "J" (.long q2) ∧ Fld Z h a1 "com/example/feedergen/feedergen/core/StreetWay" "name" "Ljava/lang/String;" .null ∧ Fld Z h a1 "com/example/feedergen/feedergen/core/StreetWay" "nodes" "[J" (.ref b8) ∧ Fld Z h a1 "com/example/feedergen/feedergen/core/StreetWay" "oneway" "Z" (.int (0 : Int32)) ∧ Fld Z h a1 "com/example/feedergen/feedergen/core/StreetWay" "streetClass" "Lcom/example/feedergen/feedergen/core/StreetClass;" .null ∧ Fld Z h a1 "com/example/feedergen/feedergen/core/StreetWay" "travel" "Lcom/example/feedergen/feedergen/core/TravelDirection;" .null ∧ h0.size ≤ b8 ∧ Exa Z h b8 "[J" ∧ Arv Z h b8 k6 .long (2 : Int32) [(.long q2), (.long q5)] (.long (0 : Int64))
theorem ef14 (a1 : Addr) (q2 : Int64) (a3 : Addr) (m : MethodId) : entryFrame m #[(.ref a1), (.long q2), .null, .null, (.int (0 : Int32)), .null, (.ref a3)] 8 = mkF m 0 #[.val (.ref a1), .val (.long q2), .second, .val .null, .val .null, .val (.int (0 : Int32)), .val .null, .val (.ref a3)] [] := by first | (simp [entryFrame, mkF, argsToLocals, Value.category]; done) | rfl
theorem rm14 (l : Launch) (Z : State) (a0 : Array Value) (hw : ∀ d ∈ tables_1, d.before a0 Z = true) (ws : List Jvm.Cond) (a1 : Addr) (q2 : Int64) (a3 : Addr) (q5 : Int64) (k6 : ClassId) (h0 : Heap) (n0 : Nat) (Z0 : n0 ≤ h0.size) (V_a3 : Arv Z h0 a3 k6 .long (2 : Int32) [(.long q2), (.long q5)] (.long (0 : Int64))) (E_a3 : Exa Z h0 a3 "[J") (F_id_a1 : Fld Z h0 a1 "com/example/feedergen/feedergen/core/StreetWay" "id" "J" (.long (0 : Int64))) (E_a1 : Exa Z h0 a1 "com/example/feedergen/feedergen/core/StreetWay") (g_a1 : n0 ≤ a1) (F_name_a1 : Fld Z h0 a1 "com/example/feedergen/feedergen/core/StreetWay" "name" "Ljava/lang/String;" .null) (F_streetClass_a1 : Fld Z h0 a1 "com/example/feedergen/feedergen/core/StreetWay" "streetClass" "Lcom/example/feedergen/feedergen/core/StreetClass;" .null) (F_oneway_a1 : Fld Z h0 a1 "com/example/feedergen/feedergen/core/StreetWay" "oneway" "Z" (.int (0 : Int32))) (F_travel_a1 : Fld Z h0 a1 "com/example/feedergen/feedergen/core/StreetWay" "travel" "Lcom/example/feedergen/feedergen/core/TravelDirection;" .null) (F_nodes_a1 : Fld Z h0 a1 "com/example/feedergen/feedergen/core/StreetWay" "nodes" "[J" .null) :
    OwnMet l Z y_11 prog_35_method_1_code 8 none ws Rm14 #[(.ref a1), (.long q2), .null, .null, (.int (0 : Int32)), .null, (.ref a3)] h0 (Q14 Z a1 q2 a3 q5 k6 h0 n0) := by
  refine own_body (plainFor_of_name pn_6) (ef14 a1 q2 a3) ?_
  intro p e s m below meth c s₁ hx hby hml hown hnm hret hZ X0 e0
  have N0 := Fr.nil n0
  obtain ⟨_, T4, L4, X4, hQ4, st4⟩ := own_special X0 hx hZ hown (y := y_0) (a := a1) (w_89 hw) (w_9 hw) (w_11 hw) (w_12 hw) (rm1 l Z a0 hw [] a1 h0 n0 Z0) e0 (Ls := #[.val (.ref a1), .val (.long q2), .second, .val .null, .val .null, .val (.int (0 : Int32)), .val .null, .val (.ref a3)]) (by rw [hml]; rfl) (argsL := []) (rest := []) (lenOf pd_0 rfl) (hb hby d13_1) (W := 0)
  obtain ⟨rfl, Nq4, e4⟩ := hQ4
  have N4 := Fr.app N0 Nq4
  obtain ⟨cl7, Ar7, q7, S7, M7, Hs7, G7⟩ := id V_a3
  obtain ⟨T8, h8, X8, e8, E8, V8, B8, st8⟩ := cloneH X4 hx hZ hown (w_90 hw) (w_91 hw) (w_95 hw) (w_93 hw) (w_94 hw) (w_96 hw) e4 (Arv.arh V_a3) E_a3 (g := (mkF m 27 #[.val (.ref a1), .val (.long q2), .second, .val .null, .val .null, .val (.int (0 : Int32)), .val .null, .val (.ref a3)] [(.ref a3)])) rfl (by rw [hml]; rfl) rfl (hb hby d13_27) (by decide) (W := 0) (cap := 2) (by show 2 * 0 + _ ≤ _; exact Nat.le_of_eq rfl) (by decide) (by decide) (by decide) (by decide)
  obtain ⟨b8, g8⟩ : ∃ z, z = h0.size := ⟨_, rfl⟩
  rw [← g8] at V8 B8 st8
  have s0 := E8.1
  have Vn8 : Arv Z h8 b8 k6 .long (2 : Int32) [(.long q2), (.long q5)] (.long (0 : Int64)) := own_arv_of_arh V8
  obtain ⟨T9, X9, e9, st9⟩ := castY X8 hx hZ hown (w_97 hw) e8 (Ins.self B8) (g := (mkF m 30 #[.val (.ref a1), .val (.long q2), .second, .val .null, .val .null, .val (.int (0 : Int32)), .val .null, .val (.ref a3)] [(.ref b8)])) rfl rfl (hb hby d13_30)
  have Fl10 := (F_id_a1.ext E8)
  have Ex11 := (E_a1.ext E8)
  obtain ⟨T12, h12, X12, e12, W12, st12⟩ := putF X9 hx hZ hown (host := "") (Or.inl (w_99 hw)) Via.refl e9 Fl10 Ex11 (Or.inr ⟨(w_100 hw), rfl, hnm⟩) (w_84 hw) (ty := .long) (by decide) rfl rfl (g := (mkF m 37 #[.val (.ref a1), .val (.long q2), .second, .val .null, .val .null, .val (.int (0 : Int32)), .val .null, .val (.ref b8)] [(.long q2), (.ref a1)])) rfl rfl (hb hby d13_37)
  have s1 := (Keep.of_wr W12).1
  have N12 := Fr.snoc X12 N4 g_a1
  have Fw12 : Fld Z h12 a1 "com/example/feedergen/feedergen/core/StreetWay" "id" "J" (.long q2) := Fl10.same W12
  have Ex13 := (Ex11.wr W12)
  have Fl14 := ((F_name_a1.ext E8).other W12 (Or.inr (slot_ne (Or.inr (w_102 hw)) (Or.inr (w_100 hw)) (by decide) (t := (.object "java/lang/String")) (t' := .long) (by decide) (by decide))))
  obtain ⟨T15, h15, X15, e15, W15, st15⟩ := putF X12 hx hZ hown (host := "") (Or.inl (w_101 hw)) Via.refl e12 Fl14 Ex13 (Or.inr ⟨(w_102 hw), rfl, hnm⟩) (w_84 hw) (ty := (.object "java/lang/String")) (by decide) rfl rfl (g := (mkF m 42 #[.val (.ref a1), .val (.long q2), .second, .val .null, .val .null, .val (.int (0 : Int32)), .val .null, .val (.ref b8)] [.null, (.ref a1)])) rfl rfl (hb hby d13_42)
  have s2 := (Keep.of_wr W15).1
  have N15 := Fr.snoc X15 N12 g_a1
  have Fw15 : Fld Z h15 a1 "com/example/feedergen/feedergen/core/StreetWay" "name" "Ljava/lang/String;" .null := Fl14.same W15
  have Ex16 := (Ex13.wr W15)
  have Fl17 := (((F_streetClass_a1.ext E8).other W12 (Or.inr (slot_ne (Or.inr (w_104 hw)) (Or.inr (w_100 hw)) (by decide) (t := (.object "com/example/feedergen/feedergen/core/StreetClass")) (t' := .long) (by decide) (by decide)))).other W15 (Or.inr (slot_ne (Or.inr (w_104 hw)) (Or.inr (w_102 hw)) (by decide) (t := (.object "com/example/feedergen/feedergen/core/StreetClass")) (t' := (.object "java/lang/String")) (by decide) (by decide))))
  obtain ⟨T18, h18, X18, e18, W18, st18⟩ := putF X15 hx hZ hown (host := "") (Or.inl (w_103 hw)) Via.refl e15 Fl17 Ex16 (Or.inr ⟨(w_104 hw), rfl, hnm⟩) (w_84 hw) (ty := (.object "com/example/feedergen/feedergen/core/StreetClass")) (by decide) rfl rfl (g := (mkF m 48 #[.val (.ref a1), .val (.long q2), .second, .val .null, .val .null, .val (.int (0 : Int32)), .val .null, .val (.ref b8)] [.null, (.ref a1)])) rfl rfl (hb hby d13_48)
  have s3 := (Keep.of_wr W18).1
  have N18 := Fr.snoc X18 N15 g_a1
  have Fw18 : Fld Z h18 a1 "com/example/feedergen/feedergen/core/StreetWay" "streetClass" "Lcom/example/feedergen/feedergen/core/StreetClass;" .null := Fl17.same W18
  have Ex19 := (Ex16.wr W18)
  have Fl20 := ((((F_oneway_a1.ext E8).other W12 (Or.inr (slot_ne (Or.inr (w_106 hw)) (Or.inr (w_100 hw)) (by decide) (t := .boolean) (t' := .long) (by decide) (by decide)))).other W15 (Or.inr (slot_ne (Or.inr (w_106 hw)) (Or.inr (w_102 hw)) (by decide) (t := .boolean) (t' := (.object "java/lang/String")) (by decide) (by decide)))).other W18 (Or.inr (slot_ne (Or.inr (w_106 hw)) (Or.inr (w_104 hw)) (by decide) (t := .boolean) (t' := (.object "com/example/feedergen/feedergen/core/StreetClass")) (by decide) (by decide))))
  obtain ⟨T21, h21, X21, e21, W21, st21⟩ := putFN X18 hx hZ hown (w_105 hw) Via.refl e18 Fl20 Ex19 (Or.inr ⟨(w_106 hw), rfl, hnm⟩) (w_84 hw) (ty := .boolean) (v' := (.int (nar .boolean (0 : Int32)))) (by decide) rfl (fits_nar_bool _) (g := (mkF m 54 #[.val (.ref a1), .val (.long q2), .second, .val .null, .val .null, .val (.int (0 : Int32)), .val .null, .val (.ref b8)] [(.int (0 : Int32)), (.ref a1)])) rfl rfl (hb hby d13_54)
  have s4 := (Keep.of_wr W21).1
  have N21 := Fr.snoc X21 N18 g_a1
  have Fw21 : Fld Z h21 a1 "com/example/feedergen/feedergen/core/StreetWay" "oneway" "Z" (.int (0 : Int32)) := Fl20.same W21
  have Ex22 := (Ex19.wr W21)
  have Fl23 := (((((F_travel_a1.ext E8).other W12 (Or.inr (slot_ne (Or.inr (w_108 hw)) (Or.inr (w_100 hw)) (by decide) (t := (.object "com/example/feedergen/feedergen/core/TravelDirection")) (t' := .long) (by decide) (by decide)))).other W15 (Or.inr (slot_ne (Or.inr (w_108 hw)) (Or.inr (w_102 hw)) (by decide) (t := (.object "com/example/feedergen/feedergen/core/TravelDirection")) (t' := (.object "java/lang/String")) (by decide) (by decide)))).other W18 (Or.inr (slot_ne (Or.inr (w_108 hw)) (Or.inr (w_104 hw)) (by decide) (t := (.object "com/example/feedergen/feedergen/core/TravelDirection")) (t' := (.object "com/example/feedergen/feedergen/core/StreetClass")) (by decide) (by decide)))).other W21 (Or.inr (slot_ne (Or.inr (w_108 hw)) (Or.inr (w_106 hw)) (by decide) (t := (.object "com/example/feedergen/feedergen/core/TravelDirection")) (t' := .boolean) (by decide) (by decide))))
  obtain ⟨T24, h24, X24, e24, W24, st24⟩ := putF X21 hx hZ hown (host := "") (Or.inl (w_107 hw)) Via.refl e21 Fl23 Ex22 (Or.inr ⟨(w_108 hw), rfl, hnm⟩) (w_84 hw) (ty := (.object "com/example/feedergen/feedergen/core/TravelDirection")) (by decide) rfl rfl (g := (mkF m 60 #[.val (.ref a1), .val (.long q2), .second, .val .null, .val .null, .val (.int (0 : Int32)), .val .null, .val (.ref b8)] [.null, (.ref a1)])) rfl rfl (hb hby d13_60)
  have s5 := (Keep.of_wr W24).1
  have N24 := Fr.snoc X24 N21 g_a1
  have Fw24 : Fld Z h24 a1 "com/example/feedergen/feedergen/core/StreetWay" "travel" "Lcom/example/feedergen/feedergen/core/TravelDirection;" .null := Fl23.same W24
  have Ex25 := (Ex22.wr W24)
  have Fl26 := ((((((F_nodes_a1.ext E8).other W12 (Or.inr (slot_ne (Or.inr (w_110 hw)) (Or.inr (w_100 hw)) (by decide) (t := (.array .long)) (t' := .long) (by decide) (by decide)))).other W15 (Or.inr (slot_ne (Or.inr (w_110 hw)) (Or.inr (w_102 hw)) (by decide) (t := (.array .long)) (t' := (.object "java/lang/String")) (by decide) (by decide)))).other W18 (Or.inr (slot_ne (Or.inr (w_110 hw)) (Or.inr (w_104 hw)) (by decide) (t := (.array .long)) (t' := (.object "com/example/feedergen/feedergen/core/StreetClass")) (by decide) (by decide)))).other W21 (Or.inr (slot_ne (Or.inr (w_110 hw)) (Or.inr (w_106 hw)) (by decide) (t := (.array .long)) (t' := .boolean) (by decide) (by decide)))).other W24 (Or.inr (slot_ne (Or.inr (w_110 hw)) (Or.inr (w_108 hw)) (by decide) (t := (.array .long)) (t' := (.object "com/example/feedergen/feedergen/core/TravelDirection")) (by decide) (by decide))))
  obtain ⟨T27, h27, X27, e27, W27, st27⟩ := putF X24 hx hZ hown (host := "") (Or.inl (w_109 hw)) Via.refl e24 Fl26 Ex25 (Or.inr ⟨(w_110 hw), rfl, hnm⟩) (w_84 hw) (ty := (.array .long)) (by decide) rfl rfl (g := (mkF m 66 #[.val (.ref a1), .val (.long q2), .second, .val .null, .val .null, .val (.int (0 : Int32)), .val .null, .val (.ref b8)] [(.ref b8), (.ref a1)])) rfl rfl (hb hby d13_66)
  have s6 := (Keep.of_wr W27).1
  have N27 := Fr.snoc X27 N24 g_a1
  have Fw27 : Fld Z h27 a1 "com/example/feedergen/feedergen/core/StreetWay" "nodes" "[J" (.ref b8) := Fl26.same W27
  have Ex28 := (Ex25.wr W27)
  have Fl29 := (((((Fw12.other W15 (Or.inr (slot_ne (Or.inr (w_100 hw)) (Or.inr (w_102 hw)) (by decide) (t := .long) (t' := (.object "java/lang/String")) (by decide) (by decide)))).other W18 (Or.inr (slot_ne (Or.inr (w_100 hw)) (Or.inr (w_104 hw)) (by decide) (t := .long) (t' := (.object "com/example/feedergen/feedergen/core/StreetClass")) (by decide) (by decide)))).other W21 (Or.inr (slot_ne (Or.inr (w_100 hw)) (Or.inr (w_106 hw)) (by decide) (t := .long) (t' := .boolean) (by decide) (by decide)))).other W24 (Or.inr (slot_ne (Or.inr (w_100 hw)) (Or.inr (w_108 hw)) (by decide) (t := .long) (t' := (.object "com/example/feedergen/feedergen/core/TravelDirection")) (by decide) (by decide)))).other W27 (Or.inr (slot_ne (Or.inr (w_100 hw)) (Or.inr (w_110 hw)) (by decide) (t := .long) (t' := (.array .long)) (by decide) (by decide))))
  have Fl30 := ((((Fw15.other W18 (Or.inr (slot_ne (Or.inr (w_102 hw)) (Or.inr (w_104 hw)) (by decide) (t := (.object "java/lang/String")) (t' := (.object "com/example/feedergen/feedergen/core/StreetClass")) (by decide) (by decide)))).other W21 (Or.inr (slot_ne (Or.inr (w_102 hw)) (Or.inr (w_106 hw)) (by decide) (t := (.object "java/lang/String")) (t' := .boolean) (by decide) (by decide)))).other W24 (Or.inr (slot_ne (Or.inr (w_102 hw)) (Or.inr (w_108 hw)) (by decide) (t := (.object "java/lang/String")) (t' := (.object "com/example/feedergen/feedergen/core/TravelDirection")) (by decide) (by decide)))).other W27 (Or.inr (slot_ne (Or.inr (w_102 hw)) (Or.inr (w_110 hw)) (by decide) (t := (.object "java/lang/String")) (t' := (.array .long)) (by decide) (by decide))))
  have Fl31 := ((Fw21.other W24 (Or.inr (slot_ne (Or.inr (w_106 hw)) (Or.inr (w_108 hw)) (by decide) (t := .boolean) (t' := (.object "com/example/feedergen/feedergen/core/TravelDirection")) (by decide) (by decide)))).other W27 (Or.inr (slot_ne (Or.inr (w_106 hw)) (Or.inr (w_110 hw)) (by decide) (t := .boolean) (t' := (.array .long)) (by decide) (by decide))))
  have Fl32 := (((Fw18.other W21 (Or.inr (slot_ne (Or.inr (w_104 hw)) (Or.inr (w_106 hw)) (by decide) (t := (.object "com/example/feedergen/feedergen/core/StreetClass")) (t' := .boolean) (by decide) (by decide)))).other W24 (Or.inr (slot_ne (Or.inr (w_104 hw)) (Or.inr (w_108 hw)) (by decide) (t := (.object "com/example/feedergen/feedergen/core/StreetClass")) (t' := (.object "com/example/feedergen/feedergen/core/TravelDirection")) (by decide) (by decide)))).other W27 (Or.inr (slot_ne (Or.inr (w_104 hw)) (Or.inr (w_110 hw)) (by decide) (t := (.object "com/example/feedergen/feedergen/core/StreetClass")) (t' := (.array .long)) (by decide) (by decide))))
  have Fl33 := (Fw24.other W27 (Or.inr (slot_ne (Or.inr (w_108 hw)) (Or.inr (w_110 hw)) (by decide) (t := (.object "com/example/feedergen/feedergen/core/TravelDirection")) (t' := (.array .long)) (by decide) (by decide))))
  have sz_b8 : h0.size ≤ b8 := (Nat.le_of_eq g8.symm)
  have Ex34 := ((((((B8.wr W12).wr W15).wr W18).wr W21).wr W24).wr W27)
  have ne_a1_b8 := Nat.ne_of_lt (Nat.lt_of_lt_of_le F_travel_a1.lt (Nat.le_of_eq g8.symm))
  have Va35 := ((((((Vn8.other W12 (Ne.symm ne_a1_b8)).other W15 (Ne.symm ne_a1_b8)).other W18 (Ne.symm ne_a1_b8)).other W21 (Ne.symm ne_a1_b8)).other W24 (Ne.symm ne_a1_b8)).other W27 (Ne.symm ne_a1_b8))
  have Kp0 : Keep h0 h8 [a1] := (Keep.refl h0 [a1]).ext E8
  have Kp1 : Keep h0 h12 [a1] := Kp0.wr W12 (Or.inl (List.mem_of_getElem? (i := 0) rfl))
  have Kp2 : Keep h0 h15 [a1] := Kp1.wr W15 (Or.inl (List.mem_of_getElem? (i := 0) rfl))
  have Kp3 : Keep h0 h18 [a1] := Kp2.wr W18 (Or.inl (List.mem_of_getElem? (i := 0) rfl))
  have Kp4 : Keep h0 h21 [a1] := Kp3.wr W21 (Or.inl (List.mem_of_getElem? (i := 0) rfl))
  have Kp5 : Keep h0 h24 [a1] := Kp4.wr W24 (Or.inl (List.mem_of_getElem? (i := 0) rfl))
  have Kp6 : Keep h0 h27 [a1] := Kp5.wr W27 (Or.inl (List.mem_of_getElem? (i := 0) rfl))
  refine ⟨T27, _, _, _, none, X27, (fun _ => rfl), by decide, by decide, ?_, fun fs hr => ?_⟩
  · show Q14 Z a1 q2 a3 q5 k6 h0 n0 _ T27.heap _
    rw [e27]
    exact ⟨b8, rfl, N27, Kp6, Ex28, Fl29, Fl30, Fw27, Fl31, Fl32, Fl33, sz_b8, Ex34, Va35⟩
  · show Steps p.tables e below (s₁.setTop (mkF m 0 #[.val (.ref a1), .val (.long q2), .second, .val .null, .val .null, .val (.int (0 : Int32)), .val .null, .val (.ref a3)] [])) _
    refine XS.aloadN X0.here hx rfl (hb hby d13_0) rfl rfl ?_
    refine st4 _ ?_
    refine XS.aload X4.here hx rfl (hb hby d13_4) rfl rfl ?_
    refine X4.arraylength hx (by rw [e4]; exact Ar7.1) (State.isArrayOf_alike hZ.alike Ar7.2.1) (g := (mkF m 6 #[.val (.ref a1), .val (.long q2), .second, .val .null, .val .null, .val (.int (0 : Int32)), .val .null, .val (.ref a3)] [(.ref a3)])) rfl rfl (hb hby d13_6) _ ?_
    show Steps p.tables e below (T4.setTop (mkF m 7 #[.val (.ref a1), .val (.long q2), .second, .val .null, .val .null, .val (.int (0 : Int32)), .val .null, .val (.ref a3)] [(.int cl7.slots.size.toInt32)])) _
    rw [len_of S7 M7]
    refine XS.iconst X4.here hx rfl (hb hby d13_7) ?_
    refine XS.icmpYes X4.here hx rfl (pc0 := 8) (pc' := 25) rfl (hb hby d13_8) rfl (flt ((by decide : ¬ ((2 : Int32) < (2 : Int32))) : ¬ ((2 : Int32) < (2 : Int32)))).2.1 (by decide) (by decide) ?_
    refine XS.aload X4.here hx rfl (hb hby d13_25) rfl rfl ?_
    refine st8 _ ?_
    refine st9 _ ?_
    refine XS.astore X9.here hx rfl (hb hby d13_33) rfl rfl (l' := #[.val (.ref a1), .val (.long q2), .second, .val .null, .val .null, .val (.int (0 : Int32)), .val .null, .val (.ref b8)]) rfl ?_
    refine XS.aloadN X9.here hx rfl (hb hby d13_35) rfl rfl ?_
    refine XS.lloadN X9.here hx rfl (hb hby d13_36) rfl ?_
    refine st12 _ ?_
    refine XS.aloadN X12.here hx rfl (hb hby d13_40) rfl rfl ?_
    refine XS.aloadN X12.here hx rfl (hb hby d13_41) rfl rfl ?_
    show Steps p.tables e below (T12.setTop (mkF m 42 #[.val (.ref a1), .val (.long q2), .second, .val .null, .val .null, .val (.int (0 : Int32)), .val .null, .val (.ref b8)] [.null, (.ref a1)])) _
    refine st15 _ ?_
    refine XS.aloadN X15.here hx rfl (hb hby d13_45) rfl rfl ?_
    refine XS.aload X15.here hx rfl (hb hby d13_46) rfl rfl ?_
    refine st18 _ ?_
    refine XS.aloadN X18.here hx rfl (hb hby d13_51) rfl rfl ?_
    refine XS.iload X18.here hx rfl (hb hby d13_52) rfl ?_
    refine st21 _ ?_
    refine XS.aloadN X21.here hx rfl (hb hby d13_57) rfl rfl ?_
    refine XS.aload X21.here hx rfl (hb hby d13_58) rfl rfl ?_
    refine st24 _ ?_
    refine XS.aloadN X24.here hx rfl (hb hby d13_63) rfl rfl ?_
    refine XS.aload X24.here hx rfl (hb hby d13_64) rfl rfl ?_
    show Steps p.tables e below (T24.setTop (mkF m 66 #[.val (.ref a1), .val (.long q2), .second, .val .null, .val .null, .val (.int (0 : Int32)), .val .null, .val (.ref b8)] [(.ref b8), (.ref a1)])) _
    refine st27 _ ?_
    exact X27.returnOut hx hret (hb hby d13_69) hr
theorem pd_8 : parseMethodDescriptor "(JLjava/lang/String;Lcom/example/feedergen/feedergen/core/StreetClass;ZLcom/example/feedergen/feedergen/core/TravelDirection;[J)V" = some ⟨[.long, (.object "java/lang/String"), (.object "com/example/feedergen/feedergen/core/StreetClass"), .boolean, (.object "com/example/feedergen/feedergen/core/TravelDirection"), (.array .long)], none⟩ := by decide +kernel
theorem w_88 {a0 : Array Value} {Z : State} (hw : ∀ d ∈ tables_1, d.before a0 Z = true) : Jvm.Cond.before (Jvm.Cond.code ({ cls := "com/example/feedergen/feedergen/core/StreetWay", name := "<init>", desc := "(JLjava/lang/String;Lcom/example/feedergen/feedergen/core/StreetClass;ZLcom/example/feedergen/feedergen/core/TravelDirection;[J)V" } : Jvm.MethodName) prog_35_method_1_code (8 : Nat) (Option.none : Option Jvm.ClassFile.FieldType)) a0 Z = true := hw _ (List.mem_of_getElem? (i := 88) rfl)
theorem w_86 {a0 : Array Value} {Z : State} (hw : ∀ d ∈ tables_1, d.before a0 Z = true) : Jvm.Cond.before (Jvm.Cond.methodLink "com/example/feedergen/feedergen/core/StreetLinkLastPinLaw" (22 : Nat) ({ cls := "com/example/feedergen/feedergen/core/StreetWay", name := "<init>", desc := "(JLjava/lang/String;Lcom/example/feedergen/feedergen/core/StreetClass;ZLcom/example/feedergen/feedergen/core/TravelDirection;[J)V" } : Jvm.MethodName)) a0 Z = true := hw _ (List.mem_of_getElem? (i := 86) rfl)
theorem w_87 {a0 : Array Value} {Z : State} (hw : ∀ d ∈ tables_1, d.before a0 Z = true) : Jvm.Cond.before (Jvm.Cond.instanceMethod ({ cls := "com/example/feedergen/feedergen/core/StreetWay", name := "<init>", desc := "(JLjava/lang/String;Lcom/example/feedergen/feedergen/core/StreetClass;ZLcom/example/feedergen/feedergen/core/TravelDirection;[J)V" } : Jvm.MethodName)) a0 Z = true := hw _ (List.mem_of_getElem? (i := 87) rfl)
theorem w_111 {a0 : Array Value} {Z : State} (hw : ∀ d ∈ tables_1, d.before a0 Z = true) : Jvm.Cond.before (Jvm.Cond.classLink "com/example/feedergen/feedergen/core/StreetLinkLastPinLaw" (25 : Nat) "com/example/feedergen/feedergen/core/StreetLink") a0 Z = true := hw _ (List.mem_of_getElem? (i := 111) rfl)
theorem w_112 {a0 : Array Value} {Z : State} (hw : ∀ d ∈ tables_1, d.before a0 Z = true) : Jvm.Cond.before (Jvm.Cond.instantiable "com/example/feedergen/feedergen/core/StreetLink" (3 : Nat)) a0 Z = true := hw _ (List.mem_of_getElem? (i := 112) rfl)
theorem w_113 {a0 : Array Value} {Z : State} (hw : ∀ d ∈ tables_1, d.before a0 Z = true) : Jvm.Cond.before (Jvm.Cond.initialized "com/example/feedergen/feedergen/core/StreetLink") a0 Z = true := hw _ (List.mem_of_getElem? (i := 113) rfl)
theorem w_215 {a0 : Array Value} {Z : State} (hw : ∀ d ∈ tables_1, d.before a0 Z = true) : Jvm.Cond.before (Jvm.Cond.laysFinal "com/example/feedergen/feedergen/core/StreetLink" "com/example/feedergen/feedergen/core/StreetLink" "way" "Lcom/example/feedergen/feedergen/core/StreetWay;") a0 Z = true := hw _ (List.mem_of_getElem? (i := 215) rfl)
theorem w_217 {a0 : Array Value} {Z : State} (hw : ∀ d ∈ tables_1, d.before a0 Z = true) : Jvm.Cond.before (Jvm.Cond.laysFinal "com/example/feedergen/feedergen/core/StreetLink" "com/example/feedergen/feedergen/core/StreetLink" "nodes" "[J") a0 Z = true := hw _ (List.mem_of_getElem? (i := 217) rfl)
theorem w_219 {a0 : Array Value} {Z : State} (hw : ∀ d ∈ tables_1, d.before a0 Z = true) : Jvm.Cond.before (Jvm.Cond.laysFinal "com/example/feedergen/feedergen/core/StreetLink" "com/example/feedergen/feedergen/core/StreetLink" "points" "Ljava/util/List;") a0 Z = true := hw _ (List.mem_of_getElem? (i := 219) rfl)
theorem d14_0 : decode prog_31_method_1_code 0 = .ok (.aload_n 0, 1) := by decide +kernel
theorem d14_1 : decode prog_31_method_1_code 1 = .ok (.invokespecial 1, 3) := by decide +kernel
theorem w_117 {a0 : Array Value} {Z : State} (hw : ∀ d ∈ tables_1, d.before a0 Z = true) : Jvm.Cond.before (Jvm.Cond.methodLink "com/example/feedergen/feedergen/core/StreetLink" (1 : Nat) ({ cls := "java/lang/Record", name := "<init>", desc := "()V" } : Jvm.MethodName)) a0 Z = true := hw _ (List.mem_of_getElem? (i := 117) rfl)
theorem d14_4 : decode prog_31_method_1_code 4 = .ok (.aload_n 2, 1) := by decide +kernel
theorem d14_5 : decode prog_31_method_1_code 5 = .ok (.arraylength, 1) := by decide +kernel
theorem d14_6 : decode prog_31_method_1_code 6 = .ok (.iconst 2, 1) := by decide +kernel
theorem d14_7 : decode prog_31_method_1_code 7 = .ok (.if_icmp .lt 14, 3) := by decide +kernel
theorem d14_10 : decode prog_31_method_1_code 10 = .ok (.aload_n 3, 1) := by decide +kernel
theorem d14_11 : decode prog_31_method_1_code 11 = .ok (.invokeinterface 7 1, 5) := by decide +kernel
theorem d15_0 : decode jdk_38_method_8_code 0 = .ok (.aload_n 0, 1) := by decide +kernel
theorem d15_1 : decode jdk_38_method_8_code 1 = .ok (.getfield 48, 3) := by decide +kernel
theorem d15_4 : decode jdk_38_method_8_code 4 = .ok (.ireturn, 1) := by decide +kernel
abbrev y_12 : MethodName := ⟨"java/util/ArrayList", "size", "()I"⟩
-- java/util/ArrayList.size()I
abbrev Rm15 : Room := { frames := 0, cells := 0, slots := 0, locals := 0 }
def Q15 (Z : State) (a1 : Addr) (h0 : Heap) (n0 : Nat) (v : Option Value) (h : Heap) (L : List Loc) : Prop := v = some (.int (2 : Int32)) ∧ Fr n0 L ∧ h = h0
theorem ef15 (a1 : Addr) (m : MethodId) : entryFrame m #[(.ref a1)] 1 = mkF m 0 #[.val (.ref a1)] [] := by first | (simp [entryFrame, mkF, argsToLocals, Value.category]; done) | rfl
theorem rm15 (l : Launch) (Z : State) (a0 : Array Value) (hw : ∀ d ∈ tables_1, d.before a0 Z = true) (ws : List Jvm.Cond) (a1 : Addr) (h0 : Heap) (n0 : Nat) (Z0 : n0 ≤ h0.size) (F_size_a1 : Fld Z h0 a1 "java/util/ArrayList" "size" "I" (.int (2 : Int32))) :
    OwnMet l Z y_12 jdk_38_method_8_code 1 (some .int) ws Rm15 #[(.ref a1)] h0 (Q15 Z a1 h0 n0) := by
  refine own_body (plainFor_of_name pn_5) (ef15 a1) ?_
  intro p e s m below meth c s₁ hx hby hml hown hnm hret hZ X0 e0
  have N0 := Fr.nil n0
  obtain ⟨T2, X2, e2, st2⟩ := getF X0 hx hZ hown (host := "") (Or.inl (w_59 hw)) Via.refl e0 F_size_a1 (g := (mkF m 1 #[.val (.ref a1)] [(.ref a1)])) rfl rfl (hb hby d15_1)
  refine ⟨T2, _, _, _, (some (.int (2 : Int32))), X2, nofun, by decide, by decide, ?_, fun fs hr => ?_⟩
  · show Q15 Z a1 h0 n0 _ T2.heap _
    rw [e2]
    exact ⟨rfl, N0, rfl⟩
  · show Steps p.tables e below (s₁.setTop (mkF m 0 #[.val (.ref a1)] [])) _
    refine XS.aloadN X0.here hx rfl (hb hby d15_0) rfl rfl ?_
    refine st2 _ ?_
    exact retI X2 hx hret (hb hby d15_4) hr
theorem pd_9 : parseMethodDescriptor "()I" = some ⟨[], some .int⟩ := by decide +kernel
theorem w_126 {a0 : Array Value} {Z : State} (hw : ∀ d ∈ tables_1, d.before a0 Z = true) : Jvm.Cond.before (Jvm.Cond.code ({ cls := "java/util/ArrayList", name := "size", desc := "()I" } : Jvm.MethodName) jdk_38_method_8_code (1 : Nat) (Option.some Jvm.ClassFile.FieldType.int)) a0 Z = true := hw _ (List.mem_of_getElem? (i := 126) rfl)
theorem w_118 {a0 : Array Value} {Z : State} (hw : ∀ d ∈ tables_1, d.before a0 Z = true) : Jvm.Cond.before (Jvm.Cond.methodLink "com/example/feedergen/feedergen/core/StreetLink" (7 : Nat) ({ cls := "java/util/List", name := "size", desc := "()I" } : Jvm.MethodName)) a0 Z = true := hw _ (List.mem_of_getElem? (i := 118) rfl)
theorem w_121 {a0 : Array Value} {Z : State} (hw : ∀ d ∈ tables_1, d.before a0 Z = true) : Jvm.Cond.before (Jvm.Cond.selects "java/util/ArrayList" ({ cls := "java/util/List", name := "size", desc := "()I" } : Jvm.MethodName) ({ cls := "java/util/ArrayList", name := "size", desc := "()I" } : Jvm.MethodName)) a0 Z = true := hw _ (List.mem_of_getElem? (i := 121) rfl)
abbrev y_13 : MethodName := ⟨"java/util/List", "size", "()I"⟩
theorem w_119 {a0 : Array Value} {Z : State} (hw : ∀ d ∈ tables_1, d.before a0 Z = true) : Jvm.Cond.before (Jvm.Cond.declares ({ cls := "java/util/List", name := "size", desc := "()I" } : Jvm.MethodName)) a0 Z = true := hw _ (List.mem_of_getElem? (i := 119) rfl)
theorem w_120 {a0 : Array Value} {Z : State} (hw : ∀ d ∈ tables_1, d.before a0 Z = true) : Jvm.Cond.before (Jvm.Cond.interfaceMethod "java/util/List" "java/util/List" "size" "()I") a0 Z = true := hw _ (List.mem_of_getElem? (i := 120) rfl)
theorem w_122 {a0 : Array Value} {Z : State} (hw : ∀ d ∈ tables_1, d.before a0 Z = true) : Jvm.Cond.before (Jvm.Cond.instanceMethod ({ cls := "java/util/ArrayList", name := "size", desc := "()I" } : Jvm.MethodName)) a0 Z = true := hw _ (List.mem_of_getElem? (i := 122) rfl)
theorem w_123 {a0 : Array Value} {Z : State} (hw : ∀ d ∈ tables_1, d.before a0 Z = true) : Jvm.Cond.before (Jvm.Cond.publicMethod ({ cls := "java/util/ArrayList", name := "size", desc := "()I" } : Jvm.MethodName)) a0 Z = true := hw _ (List.mem_of_getElem? (i := 123) rfl)
theorem w_124 {a0 : Array Value} {Z : State} (hw : ∀ d ∈ tables_1, d.before a0 Z = true) : Jvm.Cond.before (Jvm.Cond.unhidden "java/util/ArrayList" "size" "()I") a0 Z = true := hw _ (List.mem_of_getElem? (i := 124) rfl)
theorem w_125 {a0 : Array Value} {Z : State} (hw : ∀ d ∈ tables_1, d.before a0 Z = true) : Jvm.Cond.before (Jvm.Cond.castable "java/util/ArrayList" "java/util/List") a0 Z = true := hw _ (List.mem_of_getElem? (i := 125) rfl)
theorem d14_16 : decode prog_31_method_1_code 16 = .ok (.aload_n 2, 1) := by decide +kernel
theorem d14_17 : decode prog_31_method_1_code 17 = .ok (.arraylength, 1) := by decide +kernel
theorem d14_18 : decode prog_31_method_1_code 18 = .ok (.if_icmp .eq 28, 3) := by decide +kernel
theorem d14_46 : decode prog_31_method_1_code 46 = .ok (.aload_n 2, 1) := by decide +kernel
theorem d14_47 : decode prog_31_method_1_code 47 = .ok (.invokevirtual 28, 3) := by decide +kernel
theorem w_127 {a0 : Array Value} {Z : State} (hw : ∀ d ∈ tables_1, d.before a0 Z = true) : Jvm.Cond.before (Jvm.Cond.methodLink "com/example/feedergen/feedergen/core/StreetLink" (28 : Nat) ({ cls := "[J", name := "clone", desc := "()Ljava/lang/Object;" } : Jvm.MethodName)) a0 Z = true := hw _ (List.mem_of_getElem? (i := 127) rfl)
theorem d14_50 : decode prog_31_method_1_code 50 = .ok (.checkcast 29, 3) := by decide +kernel
theorem w_128 {a0 : Array Value} {Z : State} (hw : ∀ d ∈ tables_1, d.before a0 Z = true) : Jvm.Cond.before (Jvm.Cond.classLink "com/example/feedergen/feedergen/core/StreetLink" (29 : Nat) "[J") a0 Z = true := hw _ (List.mem_of_getElem? (i := 128) rfl)
theorem d14_53 : decode prog_31_method_1_code 53 = .ok (.astore_n 2, 1) := by decide +kernel
theorem d14_54 : decode prog_31_method_1_code 54 = .ok (.aload_n 3, 1) := by decide +kernel
theorem d14_55 : decode prog_31_method_1_code 55 = .ok (.invokestatic 34, 3) := by decide +kernel
theorem d16_0 : decode jdk_40_method_48_code 0 = .ok (.aload_n 0, 1) := by decide +kernel
theorem d16_1 : decode jdk_40_method_48_code 1 = .ok (.invokestatic 112, 3) := by decide +kernel
theorem d17_0 : decode jdk_56_method_3_code 0 = .ok (.aload_n 0, 1) := by decide +kernel
theorem d17_1 : decode jdk_56_method_3_code 1 = .ok (.instanceof 10, 3) := by decide +kernel
theorem w_137 {a0 : Array Value} {Z : State} (hw : ∀ d ∈ tables_1, d.before a0 Z = true) : Jvm.Cond.before (Jvm.Cond.classLink "java/util/ImmutableCollections" (10 : Nat) "java/util/ImmutableCollections$List12") a0 Z = true := hw _ (List.mem_of_getElem? (i := 137) rfl)
theorem w_186 {a0 : Array Value} {Z : State} (hw : ∀ d ∈ tables_1, d.before a0 Z = true) : Jvm.Cond.before (Jvm.Cond.instantiable "java/util/ImmutableCollections$List12" (2 : Nat)) a0 Z = true := hw _ (List.mem_of_getElem? (i := 186) rfl)
theorem w_141 {a0 : Array Value} {Z : State} (hw : ∀ d ∈ tables_1, d.before a0 Z = true) : Jvm.Cond.before (Jvm.Cond.noSuperclass "java/lang/Object") a0 Z = true := hw _ (List.mem_of_getElem? (i := 141) rfl)
theorem w_140 {a0 : Array Value} {Z : State} (hw : ∀ d ∈ tables_1, d.before a0 Z = true) : Jvm.Cond.before (Jvm.Cond.superclass "java/util/AbstractCollection" "java/lang/Object") a0 Z = true := hw _ (List.mem_of_getElem? (i := 140) rfl)
theorem w_139 {a0 : Array Value} {Z : State} (hw : ∀ d ∈ tables_1, d.before a0 Z = true) : Jvm.Cond.before (Jvm.Cond.superclass "java/util/AbstractList" "java/util/AbstractCollection") a0 Z = true := hw _ (List.mem_of_getElem? (i := 139) rfl)
theorem w_138 {a0 : Array Value} {Z : State} (hw : ∀ d ∈ tables_1, d.before a0 Z = true) : Jvm.Cond.before (Jvm.Cond.superclass "java/util/ArrayList" "java/util/AbstractList") a0 Z = true := hw _ (List.mem_of_getElem? (i := 138) rfl)
theorem d17_4 : decode jdk_56_method_3_code 4 = .ok (.ifCond .ne 22, 3) := by decide +kernel
theorem d17_7 : decode jdk_56_method_3_code 7 = .ok (.aload_n 0, 1) := by decide +kernel
theorem d17_8 : decode jdk_56_method_3_code 8 = .ok (.instanceof 12, 3) := by decide +kernel
theorem w_142 {a0 : Array Value} {Z : State} (hw : ∀ d ∈ tables_1, d.before a0 Z = true) : Jvm.Cond.before (Jvm.Cond.classLink "java/util/ImmutableCollections" (12 : Nat) "java/util/ImmutableCollections$ListN") a0 Z = true := hw _ (List.mem_of_getElem? (i := 142) rfl)
theorem w_231 {a0 : Array Value} {Z : State} (hw : ∀ d ∈ tables_1, d.before a0 Z = true) : Jvm.Cond.before (Jvm.Cond.instantiable "java/util/ImmutableCollections$ListN" (2 : Nat)) a0 Z = true := hw _ (List.mem_of_getElem? (i := 231) rfl)
theorem d17_11 : decode jdk_56_method_3_code 11 = .ok (.ifCond .eq 20, 3) := by decide +kernel
theorem d17_31 : decode jdk_56_method_3_code 31 = .ok (.aload_n 0, 1) := by decide +kernel
theorem d17_32 : decode jdk_56_method_3_code 32 = .ok (.invokeinterface 20 1, 5) := by decide +kernel
theorem d18_0 : decode jdk_38_method_9_code 0 = .ok (.aload_n 0, 1) := by decide +kernel
theorem d18_1 : decode jdk_38_method_9_code 1 = .ok (.getfield 48, 3) := by decide +kernel
theorem d18_4 : decode jdk_38_method_9_code 4 = .ok (.ifCond .ne 7, 3) := by decide +kernel
theorem d18_11 : decode jdk_38_method_9_code 11 = .ok (.iconst 0, 1) := by decide +kernel
theorem d18_12 : decode jdk_38_method_9_code 12 = .ok (.ireturn, 1) := by decide +kernel
abbrev y_14 : MethodName := ⟨"java/util/ArrayList", "isEmpty", "()Z"⟩
-- java/util/ArrayList.isEmpty()Z
abbrev Rm16 : Room := { frames := 0, cells := 0, slots := 0, locals := 0 }
def Q16 (Z : State) (a1 : Addr) (h0 : Heap) (n0 : Nat) (v : Option Value) (h : Heap) (L : List Loc) : Prop := v = some (.int (0 : Int32)) ∧ Fr n0 L ∧ h = h0
theorem ef16 (a1 : Addr) (m : MethodId) : entryFrame m #[(.ref a1)] 1 = mkF m 0 #[.val (.ref a1)] [] := by first | (simp [entryFrame, mkF, argsToLocals, Value.category]; done) | rfl
theorem rm16 (l : Launch) (Z : State) (a0 : Array Value) (hw : ∀ d ∈ tables_1, d.before a0 Z = true) (ws : List Jvm.Cond) (a1 : Addr) (h0 : Heap) (n0 : Nat) (Z0 : n0 ≤ h0.size) (F_size_a1 : Fld Z h0 a1 "java/util/ArrayList" "size" "I" (.int (2 : Int32))) :
    OwnMet l Z y_14 jdk_38_method_9_code 1 (some .boolean) ws Rm16 #[(.ref a1)] h0 (Q16 Z a1 h0 n0) := by
  refine own_body (plainFor_of_name pn_5) (ef16 a1) ?_
  intro p e s m below meth c s₁ hx hby hml hown hnm hret hZ X0 e0
  have N0 := Fr.nil n0
  obtain ⟨T2, X2, e2, st2⟩ := getF X0 hx hZ hown (host := "") (Or.inl (w_59 hw)) Via.refl e0 F_size_a1 (g := (mkF m 1 #[.val (.ref a1)] [(.ref a1)])) rfl rfl (hb hby d18_1)
  refine ⟨T2, _, _, _, (some (.int (0 : Int32))), X2, nofun, by decide, by decide, ?_, fun fs hr => ?_⟩
  · show Q16 Z a1 h0 n0 _ T2.heap _
    rw [e2]
    exact ⟨rfl, N0, rfl⟩
  · show Steps p.tables e below (s₁.setTop (mkF m 0 #[.val (.ref a1)] [])) _
    refine XS.aloadN X0.here hx rfl (hb hby d18_0) rfl rfl ?_
    refine st2 _ ?_
    refine XS.ifYes X2.here hx rfl (pc0 := 4) (pc' := 11) rfl (hb hby d18_4) rfl ((if0 _ _).trans (feq ((by decide : ¬ ((2 : Int32) = (0 : Int32))) : ¬ ((2 : Int32) = (0 : Int32)))).2) (by decide) (by decide) ?_
    refine XS.iconst X2.here hx rfl (hb hby d18_11) ?_
    exact retN X2 hx (t := .boolean) hret (by simp) (hb hby d18_12) hr
theorem pd_10 : parseMethodDescriptor "()Z" = some ⟨[], some .boolean⟩ := by decide +kernel
theorem w_151 {a0 : Array Value} {Z : State} (hw : ∀ d ∈ tables_1, d.before a0 Z = true) : Jvm.Cond.before (Jvm.Cond.code ({ cls := "java/util/ArrayList", name := "isEmpty", desc := "()Z" } : Jvm.MethodName) jdk_38_method_9_code (1 : Nat) (Option.some Jvm.ClassFile.FieldType.boolean)) a0 Z = true := hw _ (List.mem_of_getElem? (i := 151) rfl)
theorem w_143 {a0 : Array Value} {Z : State} (hw : ∀ d ∈ tables_1, d.before a0 Z = true) : Jvm.Cond.before (Jvm.Cond.methodLink "java/util/ImmutableCollections" (20 : Nat) ({ cls := "java/util/Collection", name := "isEmpty", desc := "()Z" } : Jvm.MethodName)) a0 Z = true := hw _ (List.mem_of_getElem? (i := 143) rfl)
theorem w_146 {a0 : Array Value} {Z : State} (hw : ∀ d ∈ tables_1, d.before a0 Z = true) : Jvm.Cond.before (Jvm.Cond.selects "java/util/ArrayList" ({ cls := "java/util/Collection", name := "isEmpty", desc := "()Z" } : Jvm.MethodName) ({ cls := "java/util/ArrayList", name := "isEmpty", desc := "()Z" } : Jvm.MethodName)) a0 Z = true := hw _ (List.mem_of_getElem? (i := 146) rfl)
abbrev y_15 : MethodName := ⟨"java/util/Collection", "isEmpty", "()Z"⟩
theorem w_144 {a0 : Array Value} {Z : State} (hw : ∀ d ∈ tables_1, d.before a0 Z = true) : Jvm.Cond.before (Jvm.Cond.declares ({ cls := "java/util/Collection", name := "isEmpty", desc := "()Z" } : Jvm.MethodName)) a0 Z = true := hw _ (List.mem_of_getElem? (i := 144) rfl)
theorem w_145 {a0 : Array Value} {Z : State} (hw : ∀ d ∈ tables_1, d.before a0 Z = true) : Jvm.Cond.before (Jvm.Cond.interfaceMethod "java/util/Collection" "java/util/Collection" "isEmpty" "()Z") a0 Z = true := hw _ (List.mem_of_getElem? (i := 145) rfl)
theorem w_147 {a0 : Array Value} {Z : State} (hw : ∀ d ∈ tables_1, d.before a0 Z = true) : Jvm.Cond.before (Jvm.Cond.instanceMethod ({ cls := "java/util/ArrayList", name := "isEmpty", desc := "()Z" } : Jvm.MethodName)) a0 Z = true := hw _ (List.mem_of_getElem? (i := 147) rfl)
theorem w_148 {a0 : Array Value} {Z : State} (hw : ∀ d ∈ tables_1, d.before a0 Z = true) : Jvm.Cond.before (Jvm.Cond.publicMethod ({ cls := "java/util/ArrayList", name := "isEmpty", desc := "()Z" } : Jvm.MethodName)) a0 Z = true := hw _ (List.mem_of_getElem? (i := 148) rfl)
theorem w_149 {a0 : Array Value} {Z : State} (hw : ∀ d ∈ tables_1, d.before a0 Z = true) : Jvm.Cond.before (Jvm.Cond.unhidden "java/util/ArrayList" "isEmpty" "()Z") a0 Z = true := hw _ (List.mem_of_getElem? (i := 149) rfl)
theorem w_150 {a0 : Array Value} {Z : State} (hw : ∀ d ∈ tables_1, d.before a0 Z = true) : Jvm.Cond.before (Jvm.Cond.castable "java/util/ArrayList" "java/util/Collection") a0 Z = true := hw _ (List.mem_of_getElem? (i := 150) rfl)
theorem d17_37 : decode jdk_56_method_3_code 37 = .ok (.ifCond .eq 7, 3) := by decide +kernel
theorem d17_44 : decode jdk_56_method_3_code 44 = .ok (.aload_n 0, 1) := by decide +kernel
theorem d17_45 : decode jdk_56_method_3_code 45 = .ok (.invokeinterface 30 1, 5) := by decide +kernel
theorem d19_0 : decode jdk_38_method_16_code 0 = .ok (.aload_n 0, 1) := by decide +kernel
theorem d19_1 : decode jdk_38_method_16_code 1 = .ok (.getfield 9, 3) := by decide +kernel
theorem d19_4 : decode jdk_38_method_16_code 4 = .ok (.aload_n 0, 1) := by decide +kernel
theorem d19_5 : decode jdk_38_method_16_code 5 = .ok (.getfield 48, 3) := by decide +kernel
theorem d19_8 : decode jdk_38_method_16_code 8 = .ok (.invokestatic 66, 3) := by decide +kernel
theorem d20_0 : decode jdk_65_method_119_code 0 = .ok (.aload_n 0, 1) := by decide +kernel
theorem d20_1 : decode jdk_65_method_119_code 1 = .ok (.iload_n 1, 1) := by decide +kernel
theorem d20_2 : decode jdk_65_method_119_code 2 = .ok (.aload_n 0, 1) := by decide +kernel
theorem d20_3 : decode jdk_65_method_119_code 3 = .ok (.invokevirtual 86, 3) := by decide +kernel
theorem w_164 {a0 : Array Value} {Z : State} (hw : ∀ d ∈ tables_1, d.before a0 Z = true) : Jvm.Cond.before (Jvm.Cond.methodLink "java/util/Arrays" (86 : Nat) ({ cls := "java/lang/Object", name := "getClass", desc := "()Ljava/lang/Class;" } : Jvm.MethodName)) a0 Z = true := hw _ (List.mem_of_getElem? (i := 164) rfl)
theorem w_165 {a0 : Array Value} {Z : State} (hw : ∀ d ∈ tables_1, d.before a0 Z = true) : Jvm.Cond.before (Jvm.Cond.declares ({ cls := "java/lang/Object", name := "getClass", desc := "()Ljava/lang/Class;" } : Jvm.MethodName)) a0 Z = true := hw _ (List.mem_of_getElem? (i := 165) rfl)
theorem w_167 {a0 : Array Value} {Z : State} (hw : ∀ d ∈ tables_1, d.before a0 Z = true) : Jvm.Cond.before (Jvm.Cond.selects "[Ljava/lang/Object;" ({ cls := "java/lang/Object", name := "getClass", desc := "()Ljava/lang/Class;" } : Jvm.MethodName) ({ cls := "java/lang/Object", name := "getClass", desc := "()Ljava/lang/Class;" } : Jvm.MethodName)) a0 Z = true := hw _ (List.mem_of_getElem? (i := 167) rfl)
theorem w_166 {a0 : Array Value} {Z : State} (hw : ∀ d ∈ tables_1, d.before a0 Z = true) : Jvm.Cond.before (Jvm.Cond.instanceMethod ({ cls := "java/lang/Object", name := "getClass", desc := "()Ljava/lang/Class;" } : Jvm.MethodName)) a0 Z = true := hw _ (List.mem_of_getElem? (i := 166) rfl)
theorem w_168 {a0 : Array Value} {Z : State} (hw : ∀ d ∈ tables_1, d.before a0 Z = true) : Jvm.Cond.before (Jvm.Cond.native ({ cls := "java/lang/Object", name := "getClass", desc := "()Ljava/lang/Class;" } : Jvm.MethodName)) a0 Z = true := hw _ (List.mem_of_getElem? (i := 168) rfl)
theorem d20_6 : decode jdk_65_method_119_code 6 = .ok (.invokestatic 300, 3) := by decide +kernel
theorem d21_0 : decode jdk_65_method_120_code 0 = .ok (.aload_n 2, 1) := by decide +kernel
theorem d21_1 : decode jdk_65_method_120_code 1 = .ok (.ldc 110, 2) := by decide +kernel
theorem w_173 {a0 : Array Value} {Z : State} (hw : ∀ d ∈ tables_1, d.before a0 Z = true) : Jvm.Cond.before (Jvm.Cond.classLink "java/util/Arrays" (110 : Nat) "[Ljava/lang/Object;") a0 Z = true := hw _ (List.mem_of_getElem? (i := 173) rfl)
theorem d21_3 : decode jdk_65_method_120_code 3 = .ok (.if_acmp .ne 10, 3) := by decide +kernel
theorem d21_6 : decode jdk_65_method_120_code 6 = .ok (.iload_n 1, 1) := by decide +kernel
theorem d21_7 : decode jdk_65_method_120_code 7 = .ok (.anewarray 2, 3) := by decide +kernel
theorem w_174 {a0 : Array Value} {Z : State} (hw : ∀ d ∈ tables_1, d.before a0 Z = true) : Jvm.Cond.before (Jvm.Cond.classLink "java/util/Arrays" (2 : Nat) "java/lang/Object") a0 Z = true := hw _ (List.mem_of_getElem? (i := 174) rfl)
theorem d21_10 : decode jdk_65_method_120_code 10 = .ok (.goto 14, 3) := by decide +kernel
theorem d21_24 : decode jdk_65_method_120_code 24 = .ok (.astore_n 3, 1) := by decide +kernel
theorem d21_25 : decode jdk_65_method_120_code 25 = .ok (.aload_n 0, 1) := by decide +kernel
theorem d21_26 : decode jdk_65_method_120_code 26 = .ok (.iconst 0, 1) := by decide +kernel
theorem d21_27 : decode jdk_65_method_120_code 27 = .ok (.aload_n 3, 1) := by decide +kernel
theorem d21_28 : decode jdk_65_method_120_code 28 = .ok (.iconst 0, 1) := by decide +kernel
theorem d21_29 : decode jdk_65_method_120_code 29 = .ok (.aload_n 0, 1) := by decide +kernel
theorem d21_30 : decode jdk_65_method_120_code 30 = .ok (.arraylength, 1) := by decide +kernel
theorem d21_31 : decode jdk_65_method_120_code 31 = .ok (.iload_n 1, 1) := by decide +kernel
theorem d21_32 : decode jdk_65_method_120_code 32 = .ok (.invokestatic 304, 3) := by decide +kernel
theorem d22_0 : decode jdk_29_method_69_code 0 = .ok (.iload_n 0, 1) := by decide +kernel
theorem d22_1 : decode jdk_29_method_69_code 1 = .ok (.iload_n 1, 1) := by decide +kernel
theorem d22_2 : decode jdk_29_method_69_code 2 = .ok (.if_icmp .gt 7, 3) := by decide +kernel
theorem d22_9 : decode jdk_29_method_69_code 9 = .ok (.iload_n 1, 1) := by decide +kernel
theorem d22_10 : decode jdk_29_method_69_code 10 = .ok (.ireturn, 1) := by decide +kernel
abbrev y_16 : MethodName := ⟨"java/lang/Math", "min", "(II)I"⟩
-- java/lang/Math.min(II)I
abbrev Rm17 : Room := { frames := 0, cells := 0, slots := 0, locals := 0 }
def Q17 (Z : State)  (h0 : Heap) (n0 : Nat) (v : Option Value) (h : Heap) (L : List Loc) : Prop := v = some (.int (2 : Int32)) ∧ Fr n0 L ∧ h = h0
theorem ef17  (m : MethodId) : entryFrame m #[(.int (10 : Int32)), (.int (2 : Int32))] 2 = mkF m 0 #[.val (.int (10 : Int32)), .val (.int (2 : Int32))] [] := by first | (simp [entryFrame, mkF, argsToLocals, Value.category]; done) | rfl
theorem rm17 (l : Launch) (Z : State) (a0 : Array Value) (hw : ∀ d ∈ tables_1, d.before a0 Z = true) (ws : List Jvm.Cond)  (h0 : Heap) (n0 : Nat) (Z0 : n0 ≤ h0.size) :
    OwnMet l Z y_16 jdk_29_method_69_code 2 (some .int) ws Rm17 #[(.int (10 : Int32)), (.int (2 : Int32))] h0 (Q17 Z  h0 n0) := by
  refine own_body (Jvm.Free.JP.mathPlain rfl (by decide +kernel)) (ef17) ?_
  intro p e s m below meth c s₁ hx hby hml hown hnm hret hZ X0 e0
  have N0 := Fr.nil n0
  refine ⟨s₁, _, _, _, (some (.int (2 : Int32))), X0, nofun, by decide, by decide, ?_, fun fs hr => ?_⟩
  · show Q17 Z  h0 n0 _ s₁.heap _
    rw [e0]
    exact ⟨rfl, N0, rfl⟩
  · show Steps p.tables e below (s₁.setTop (mkF m 0 #[.val (.int (10 : Int32)), .val (.int (2 : Int32))] [])) _
    refine XS.iloadN X0.here hx rfl (hb hby d22_0) rfl ?_
    refine XS.iloadN X0.here hx rfl (hb hby d22_1) rfl ?_
    refine XS.icmpYes X0.here hx rfl (pc0 := 2) (pc' := 9) rfl (hb hby d22_2) rfl (tlt ((by decide : (2 : Int32) < (10 : Int32)) : (2 : Int32) < (10 : Int32))).2.2.1 (by decide) (by decide) ?_
    refine XS.iloadN X0.here hx rfl (hb hby d22_9) rfl ?_
    exact retI X0 hx hret (hb hby d22_10) hr
theorem w_177 {a0 : Array Value} {Z : State} (hw : ∀ d ∈ tables_1, d.before a0 Z = true) : Jvm.Cond.before (Jvm.Cond.code ({ cls := "java/lang/Math", name := "min", desc := "(II)I" } : Jvm.MethodName) jdk_29_method_69_code (2 : Nat) (Option.some Jvm.ClassFile.FieldType.int)) a0 Z = true := hw _ (List.mem_of_getElem? (i := 177) rfl)
theorem w_175 {a0 : Array Value} {Z : State} (hw : ∀ d ∈ tables_1, d.before a0 Z = true) : Jvm.Cond.before (Jvm.Cond.methodLink "java/util/Arrays" (304 : Nat) ({ cls := "java/lang/Math", name := "min", desc := "(II)I" } : Jvm.MethodName)) a0 Z = true := hw _ (List.mem_of_getElem? (i := 175) rfl)
theorem w_176 {a0 : Array Value} {Z : State} (hw : ∀ d ∈ tables_1, d.before a0 Z = true) : Jvm.Cond.before (Jvm.Cond.static ({ cls := "java/lang/Math", name := "min", desc := "(II)I" } : Jvm.MethodName)) a0 Z = true := hw _ (List.mem_of_getElem? (i := 176) rfl)
theorem d21_35 : decode jdk_65_method_120_code 35 = .ok (.invokestatic 150, 3) := by decide +kernel
theorem w_178 {a0 : Array Value} {Z : State} (hw : ∀ d ∈ tables_1, d.before a0 Z = true) : Jvm.Cond.before (Jvm.Cond.methodLink "java/util/Arrays" (150 : Nat) ({ cls := "java/lang/System", name := "arraycopy", desc := "(Ljava/lang/Object;ILjava/lang/Object;II)V" } : Jvm.MethodName)) a0 Z = true := hw _ (List.mem_of_getElem? (i := 178) rfl)
theorem w_181 {a0 : Array Value} {Z : State} (hw : ∀ d ∈ tables_1, d.before a0 Z = true) : Jvm.Cond.before (Jvm.Cond.native ({ cls := "java/lang/System", name := "arraycopy", desc := "(Ljava/lang/Object;ILjava/lang/Object;II)V" } : Jvm.MethodName)) a0 Z = true := hw _ (List.mem_of_getElem? (i := 181) rfl)
theorem w_179 {a0 : Array Value} {Z : State} (hw : ∀ d ∈ tables_1, d.before a0 Z = true) : Jvm.Cond.before (Jvm.Cond.static ({ cls := "java/lang/System", name := "arraycopy", desc := "(Ljava/lang/Object;ILjava/lang/Object;II)V" } : Jvm.MethodName)) a0 Z = true := hw _ (List.mem_of_getElem? (i := 179) rfl)
theorem w_180 {a0 : Array Value} {Z : State} (hw : ∀ d ∈ tables_1, d.before a0 Z = true) : Jvm.Cond.before (Jvm.Cond.initialized "java/lang/System") a0 Z = true := hw _ (List.mem_of_getElem? (i := 180) rfl)
theorem d21_38 : decode jdk_65_method_120_code 38 = .ok (.aload_n 3, 1) := by decide +kernel
theorem d21_39 : decode jdk_65_method_120_code 39 = .ok (.areturn, 1) := by decide +kernel
abbrev y_17 : MethodName := ⟨"java/util/Arrays", "copyOf", "([Ljava/lang/Object;ILjava/lang/Class;)[Ljava/lang/Object;"⟩
theorem pn_7 : plainName "java/util/Arrays" = true := by first | (simp [plainName, overriddenIn]; done) | decide +kernel
-- java/util/Arrays.copyOf([Ljava/lang/Object;ILjava/lang/Class;)[Ljava/lang/Object;
abbrev Rm18 : Room := { frames := 1, cells := 1, slots := 2, locals := 18 }
def Q18 (Z : State) (a1 : Addr) (a2 : Addr) (a5 : Addr) (k6 : ClassId) (h0 : Heap) (n0 : Nat) (v : Option Value) (h : Heap) (L : List Loc) : Prop := ∃ b4 : Addr, ∃ k4 : ClassId, v = some (.ref b4) ∧ Fr n0 L ∧ Keep h0 h [] ∧ h0.size ≤ b4 ∧ Exa Z h b4 "[Ljava/lang/Object;" ∧ Ovr Z k4 "java/lang/Object" ∧ Arv Z h b4 k4 (.object "java/lang/Object") (2 : Int32) [(.ref a5), (.ref a5)] .null
theorem ef18 (a1 : Addr) (a2 : Addr) (m : MethodId) : entryFrame m #[(.ref a1), (.int (2 : Int32)), (.ref a2)] 4 = mkF m 0 #[.val (.ref a1), .val (.int (2 : Int32)), .val (.ref a2), .unset] [] := by first | (simp [entryFrame, mkF, argsToLocals, Value.category]; done) | rfl
theorem rm18 (l : Launch) (Z : State) (a0 : Array Value) (hw : ∀ d ∈ tables_1, d.before a0 Z = true) (ws : List Jvm.Cond) (a1 : Addr) (a2 : Addr) (a5 : Addr) (k6 : ClassId) (h0 : Heap) (n0 : Nat) (Z0 : n0 ≤ h0.size) (M_1 : OwnMir Z "[Ljava/lang/Object;" a2) (V_a1 : Arv Z h0 a1 k6 (.object "java/lang/Object") (10 : Int32) [(.ref a5), (.ref a5), .null, .null, .null, .null, .null, .null, .null, .null] .null) (E_a5 : Exa Z h0 a5 "com/example/feedergen/feedergen/core/GeoPoint") :
    OwnMet l Z y_17 jdk_65_method_120_code 4 (some (.array (.object "java/lang/Object"))) ws Rm18 #[(.ref a1), (.int (2 : Int32)), (.ref a2)] h0 (Q18 Z a1 a2 a5 k6 h0 n0) := by
  refine own_body (plainFor_of_name pn_7) (ef18 a1 a2) ?_
  intro p e s m below meth c s₁ hx hby hml hown hnm hret hZ X0 e0
  have N0 := Fr.nil n0
  obtain ⟨T3, X3, e3, st3⟩ := own_ldcM X0 hx hZ hown (w_173 hw) M_1 e0 (g := (mkF m 1 #[.val (.ref a1), .val (.int (2 : Int32)), .val (.ref a2), .unset] [(.ref a2)])) rfl (hb hby d21_1)
  obtain ⟨T4, h4, k4, X4, e4, E4, A4, B4, O4, st4⟩ := newRE X3 hx hZ hown (w_174 hw) (w_81 hw) e3 (g := (mkF m 7 #[.val (.ref a1), .val (.int (2 : Int32)), .val (.ref a2), .unset] [(.int (2 : Int32))])) rfl (hb hby d21_7) rfl (by decide) (cap := 2) (by decide) (by decide) (by decide) (by decide) (ad := "[Ljava/lang/Object;") (by decide)
  obtain ⟨b4, g4⟩ : ∃ z, z = h0.size := ⟨_, rfl⟩
  rw [← g4] at A4 B4 st4
  have s0 := E4.1
  have Vn4 : Arv Z h4 b4 k4 (.object "java/lang/Object") (2 : Int32) [.null, .null] .null := (Arv.new A4 (by decide)).pad (pad_rep [] .null 2)
  have Va7 := (V_a1.ext E4)
  obtain ⟨cl8, Ar8, q8, S8, M8, Hs8, G8⟩ := id Va7
  have z1 := Nat.le_trans Z0 s0
  obtain ⟨_, T9, L9, X9, hQ9, st9⟩ := own_callS X4 hx hZ hown (y := y_16) (w_175 hw) (w_176 hw) (w_78 hw) (w_177 hw) (rm17 l Z a0 hw []  h4 n0 z1) e4 (Ls := #[.val (.ref a1), .val (.int (2 : Int32)), .val (.ref a2), .val (.ref b4)]) (by rw [hml]; rfl) (argsL := [(.int (10 : Int32)), (.int (2 : Int32))]) (rest := [(.int (0 : Int32)), (.ref b4), (.int (0 : Int32)), (.ref a1)]) (lenOf pd_3 rfl) (hb hby d21_32) (W := 4)
  obtain ⟨rfl, Nq9, e9⟩ := hQ9
  have N9 := Fr.app N0 Nq9
  obtain ⟨cl10, Ar10, q10, S10, M10, Hs10, G10⟩ := id Vn4
  have Ex11 := (E_a5.ext E4)
  have g_b4 : n0 ≤ b4 := Nat.le_trans Z0 (Nat.le_of_eq g4.symm)
  obtain ⟨T12, h12, L12, X12, e12, N12, K12, V12, st12⟩ := cpA X9 hx hZ hown (w_178 hw) (w_181 hw) (w_179 hw) (w_180 hw) e9 Va7 Vn4 (us := [(.ref a5), (.ref a5)]) (Or.inr ⟨rfl, rfl, ⟨(Sto.ofV Ar10 q10 O4 (Ins.of_exa Ex11 (w_82 hw))), ⟨(Sto.ofV Ar10 q10 O4 (Ins.of_exa Ex11 (w_82 hw))), trivial⟩⟩⟩) (by decide) (by decide) (by decide) (by decide) (by decide) (by rfl) (by decide) N9 g_b4 (g := (mkF m 35 #[.val (.ref a1), .val (.int (2 : Int32)), .val (.ref a2), .val (.ref b4)] [(.int (2 : Int32)), (.int (0 : Int32)), (.ref b4), (.int (0 : Int32)), (.ref a1)])) rfl (by rw [hml]; rfl) rfl (hb hby d21_35) (by decide) (W := 0) (by show 2 * 0 + _ ≤ _; exact Nat.le_of_eq rfl) (by decide)
  have s1 := K12.1
  have Vc12 : Arv Z h12 b4 k4 (.object "java/lang/Object") (2 : Int32) [(.ref a5), (.ref a5)] .null := V12
  have sz_b4 : h0.size ≤ b4 := (Nat.le_of_eq g4.symm)
  have Ex13 := (B4.keep K12)
  have Kp0 : Keep h0 h4 [] := (Keep.refl h0 []).ext E4
  have Kp1 : Keep h0 h12 [] := Kp0.trans K12 (allS (Or.inr sz_b4) all0)
  refine ⟨T12, _, _, _, (some (.ref b4)), X12, nofun, by decide, by decide, ?_, fun fs hr => ?_⟩
  · show Q18 Z a1 a2 a5 k6 h0 n0 _ T12.heap _
    rw [e12]
    exact ⟨b4, k4, rfl, N12, Kp1, sz_b4, Ex13, O4, Vc12⟩
  · show Steps p.tables e below (s₁.setTop (mkF m 0 #[.val (.ref a1), .val (.int (2 : Int32)), .val (.ref a2), .unset] [])) _
    refine XS.aloadN X0.here hx rfl (hb hby d21_0) rfl rfl ?_
    refine st3 _ ?_
    refine Jvm.RoadKit.acmp (g := (mkF m 3 #[.val (.ref a1), .val (.int (2 : Int32)), .val (.ref a2), .unset] [(.ref a2), (.ref a2)])) X3 hx rfl rfl rfl (pc0 := 3) (pc' := 6) (same := true) rfl (hb hby d21_3) rfl (decide_eq_true rfl) (by decide) (by decide) ?_
    refine XS.iloadN X3.here hx rfl (hb hby d21_6) rfl ?_
    refine st4 _ ?_
    refine XS.goto X4.here hx rfl (pc0 := 10) (pc' := 24) rfl (hb hby d21_10) (by decide) (by decide) ?_
    refine XS.astoreN X4.here hx rfl (hb hby d21_24) rfl rfl (l' := #[.val (.ref a1), .val (.int (2 : Int32)), .val (.ref a2), .val (.ref b4)]) rfl ?_
    refine XS.aloadN X4.here hx rfl (hb hby d21_25) rfl rfl ?_
    refine XS.iconst X4.here hx rfl (hb hby d21_26) ?_
    refine XS.aloadN X4.here hx rfl (hb hby d21_27) rfl rfl ?_
    refine XS.iconst X4.here hx rfl (hb hby d21_28) ?_
    refine XS.aloadN X4.here hx rfl (hb hby d21_29) rfl rfl ?_
    show Steps p.tables e below (T4.setTop (mkF m 30 #[.val (.ref a1), .val (.int (2 : Int32)), .val (.ref a2), .val (.ref b4)] [(.ref a1), (.int (0 : Int32)), (.ref b4), (.int (0 : Int32)), (.ref a1)])) _
    refine X4.arraylength hx (by rw [e4]; exact Ar8.1) (State.isArrayOf_alike hZ.alike Ar8.2.1) (g := (mkF m 30 #[.val (.ref a1), .val (.int (2 : Int32)), .val (.ref a2), .val (.ref b4)] [(.ref a1), (.int (0 : Int32)), (.ref b4), (.int (0 : Int32)), (.ref a1)])) rfl rfl (hb hby d21_30) _ ?_
    show Steps p.tables e below (T4.setTop (mkF m 31 #[.val (.ref a1), .val (.int (2 : Int32)), .val (.ref a2), .val (.ref b4)] [(.int cl8.slots.size.toInt32), (.int (0 : Int32)), (.ref b4), (.int (0 : Int32)), (.ref a1)])) _
    rw [len_of S8 M8]
    refine XS.iloadN X4.here hx rfl (hb hby d21_31) rfl ?_
    refine st9 _ ?_
    refine st12 _ ?_
    refine XS.aloadN X12.here hx rfl (hb hby d21_38) rfl rfl ?_
    exact retOut X12 hx hret rfl (Or.inr (Or.inr (Or.inr (Or.inr ⟨rfl, rfl, rfl⟩)))) (hb hby d21_39) hr
theorem pd_11 : parseMethodDescriptor "([Ljava/lang/Object;ILjava/lang/Class;)[Ljava/lang/Object;" = some ⟨[(.array (.object "java/lang/Object")), .int, (.object "java/lang/Class")], some (.array (.object "java/lang/Object"))⟩ := by decide +kernel
theorem w_162 {a0 : Array Value} {Z : State} (hw : ∀ d ∈ tables_1, d.before a0 Z = true) : Jvm.Cond.before (Jvm.Cond.initialized "java/util/Arrays") a0 Z = true := hw _ (List.mem_of_getElem? (i := 162) rfl)
theorem w_172 {a0 : Array Value} {Z : State} (hw : ∀ d ∈ tables_1, d.before a0 Z = true) : Jvm.Cond.before (Jvm.Cond.code ({ cls := "java/util/Arrays", name := "copyOf", desc := "([Ljava/lang/Object;ILjava/lang/Class;)[Ljava/lang/Object;" } : Jvm.MethodName) jdk_65_method_120_code (4 : Nat) (Option.some (Jvm.ClassFile.FieldType.array (Jvm.ClassFile.FieldType.object "java/lang/Object")))) a0 Z = true := hw _ (List.mem_of_getElem? (i := 172) rfl)
theorem w_170 {a0 : Array Value} {Z : State} (hw : ∀ d ∈ tables_1, d.before a0 Z = true) : Jvm.Cond.before (Jvm.Cond.methodLink "java/util/Arrays" (300 : Nat) ({ cls := "java/util/Arrays", name := "copyOf", desc := "([Ljava/lang/Object;ILjava/lang/Class;)[Ljava/lang/Object;" } : Jvm.MethodName)) a0 Z = true := hw _ (List.mem_of_getElem? (i := 170) rfl)
theorem w_171 {a0 : Array Value} {Z : State} (hw : ∀ d ∈ tables_1, d.before a0 Z = true) : Jvm.Cond.before (Jvm.Cond.static ({ cls := "java/util/Arrays", name := "copyOf", desc := "([Ljava/lang/Object;ILjava/lang/Class;)[Ljava/lang/Object;" } : Jvm.MethodName)) a0 Z = true := hw _ (List.mem_of_getElem? (i := 171) rfl)
theorem d20_9 : decode jdk_65_method_119_code 9 = .ok (.areturn, 1) := by decide +kernel
abbrev y_18 : MethodName := ⟨"java/util/Arrays", "copyOf", "([Ljava/lang/Object;I)[Ljava/lang/Object;"⟩
-- java/util/Arrays.copyOf([Ljava/lang/Object;I)[Ljava/lang/Object;
abbrev Rm19 : Room := { frames := 2, cells := 1, slots := 2, locals := 33 }
def Q19 (Z : State) (a1 : Addr) (a2 : Addr) (a4 : Addr) (k5 : ClassId) (h0 : Heap) (n0 : Nat) (v : Option Value) (h : Heap) (L : List Loc) : Prop := ∃ b6_b4 : Addr, ∃ k6_k4 : ClassId, v = some (.ref b6_b4) ∧ Fr n0 L ∧ Keep h0 h [] ∧ h0.size ≤ b6_b4 ∧ Exa Z h b6_b4 "[Ljava/lang/Object;" ∧ Ovr Z k6_k4 "java/lang/Object" ∧ Arv Z h b6_b4 k6_k4 (.object "java/lang/Object") (2 : Int32) [(.ref a4), (.ref a4)] .null
theorem ef19 (a1 : Addr) (m : MethodId) : entryFrame m #[(.ref a1), (.int (2 : Int32))] 2 = mkF m 0 #[.val (.ref a1), .val (.int (2 : Int32))] [] := by first | (simp [entryFrame, mkF, argsToLocals, Value.category]; done) | rfl
theorem rm19 (l : Launch) (Z : State) (a0 : Array Value) (hw : ∀ d ∈ tables_1, d.before a0 Z = true) (ws : List Jvm.Cond) (a1 : Addr) (a2 : Addr) (a4 : Addr) (k5 : ClassId) (h0 : Heap) (n0 : Nat) (Z0 : n0 ≤ h0.size) (E_a1 : Exa Z h0 a1 "[Ljava/lang/Object;") (M_1 : OwnMir Z "[Ljava/lang/Object;" a2) (V_a1 : Arv Z h0 a1 k5 (.object "java/lang/Object") (10 : Int32) [(.ref a4), (.ref a4), .null, .null, .null, .null, .null, .null, .null, .null] .null) (E_a4 : Exa Z h0 a4 "com/example/feedergen/feedergen/core/GeoPoint") :
    OwnMet l Z y_18 jdk_65_method_119_code 2 (some (.array (.object "java/lang/Object"))) ws Rm19 #[(.ref a1), (.int (2 : Int32))] h0 (Q19 Z a1 a2 a4 k5 h0 n0) := by
  refine own_body (plainFor_of_name pn_7) (ef19 a1) ?_
  intro p e s m below meth c s₁ hx hby hml hown hnm hret hZ X0 e0
  have N0 := Fr.nil n0
  obtain ⟨T3, X3, e3, st3⟩ := own_gcls X0 hx hZ hown (w_164 hw) (w_165 hw) (w_141 hw) (w_167 hw) (w_166 hw) (w_168 hw) e0 E_a1 M_1 (g := (mkF m 3 #[.val (.ref a1), .val (.int (2 : Int32))] [(.ref a1), (.int (2 : Int32)), (.ref a1)])) rfl (by rw [hml]; rfl) rfl (hb hby d20_3) (by decide) (W := 2) (by show 2 * 0 + _ ≤ _; exact Nat.le_of_eq rfl) (by decide)
  obtain ⟨_, T6, L6, X6, hQ6, st6⟩ := own_callS X3 hx hZ hown (y := y_17) (w_170 hw) (w_171 hw) (w_162 hw) (w_172 hw) (rm18 l Z a0 hw [] a1 a2 a4 k5 h0 n0 Z0 M_1 V_a1 E_a4) e3 (Ls := #[.val (.ref a1), .val (.int (2 : Int32))]) (by rw [hml]; rfl) (argsL := [(.ref a1), (.int (2 : Int32)), (.ref a2)]) (rest := []) (lenOf pd_11 rfl) (hb hby d20_6) (W := 0)
  obtain ⟨b6_b4, k6_k4, rfl, Nq6, K6, o6_0, o6_1, o6_2, o6_3⟩ := hQ6
  have N6 := Fr.app N0 Nq6
  have s0 := K6.1
  have sz_b6_b4 : h0.size ≤ b6_b4 := o6_0
  have Kp0 : Keep h0 T6.heap [] := (Keep.refl h0 []).trans K6 all0
  refine ⟨T6, _, _, _, (some (.ref b6_b4)), X6, nofun, by decide, by decide, ?_, fun fs hr => ?_⟩
  · show Q19 Z a1 a2 a4 k5 h0 n0 _ T6.heap _
    exact ⟨b6_b4, k6_k4, rfl, N6, Kp0, sz_b6_b4, o6_1, o6_2, o6_3⟩
  · show Steps p.tables e below (s₁.setTop (mkF m 0 #[.val (.ref a1), .val (.int (2 : Int32))] [])) _
    refine XS.aloadN X0.here hx rfl (hb hby d20_0) rfl rfl ?_
    refine XS.iloadN X0.here hx rfl (hb hby d20_1) rfl ?_
    refine XS.aloadN X0.here hx rfl (hb hby d20_2) rfl rfl ?_
    refine st3 _ ?_
    refine st6 _ ?_
    exact retOut X6 hx hret rfl (Or.inr (Or.inr (Or.inr (Or.inr ⟨rfl, rfl, rfl⟩)))) (hb hby d20_9) hr
theorem pd_12 : parseMethodDescriptor "([Ljava/lang/Object;I)[Ljava/lang/Object;" = some ⟨[(.array (.object "java/lang/Object")), .int], some (.array (.object "java/lang/Object"))⟩ := by decide +kernel
theorem w_163 {a0 : Array Value} {Z : State} (hw : ∀ d ∈ tables_1, d.before a0 Z = true) : Jvm.Cond.before (Jvm.Cond.code ({ cls := "java/util/Arrays", name := "copyOf", desc := "([Ljava/lang/Object;I)[Ljava/lang/Object;" } : Jvm.MethodName) jdk_65_method_119_code (2 : Nat) (Option.some (Jvm.ClassFile.FieldType.array (Jvm.ClassFile.FieldType.object "java/lang/Object")))) a0 Z = true := hw _ (List.mem_of_getElem? (i := 163) rfl)
theorem w_160 {a0 : Array Value} {Z : State} (hw : ∀ d ∈ tables_1, d.before a0 Z = true) : Jvm.Cond.before (Jvm.Cond.methodLink "java/util/ArrayList" (66 : Nat) ({ cls := "java/util/Arrays", name := "copyOf", desc := "([Ljava/lang/Object;I)[Ljava/lang/Object;" } : Jvm.MethodName)) a0 Z = true := hw _ (List.mem_of_getElem? (i := 160) rfl)
theorem w_161 {a0 : Array Value} {Z : State} (hw : ∀ d ∈ tables_1, d.before a0 Z = true) : Jvm.Cond.before (Jvm.Cond.static ({ cls := "java/util/Arrays", name := "copyOf", desc := "([Ljava/lang/Object;I)[Ljava/lang/Object;" } : Jvm.MethodName)) a0 Z = true := hw _ (List.mem_of_getElem? (i := 161) rfl)
theorem d19_11 : decode jdk_38_method_16_code 11 = .ok (.areturn, 1) := by decide +kernel
abbrev y_19 : MethodName := ⟨"java/util/ArrayList", "toArray", "()[Ljava/lang/Object;"⟩
-- java/util/ArrayList.toArray()[Ljava/lang/Object;
abbrev Rm20 : Room := { frames := 3, cells := 1, slots := 2, locals := 46 }
def Q20 (Z : State) (a1 : Addr) (a2 : Addr) (a5 : Addr) (a6 : Addr) (k7 : ClassId) (h0 : Heap) (n0 : Nat) (v : Option Value) (h : Heap) (L : List Loc) : Prop := ∃ b8_b6_b4 : Addr, ∃ k8_k6_k4 : ClassId, v = some (.ref b8_b6_b4) ∧ Fr n0 L ∧ Keep h0 h [] ∧ h0.size ≤ b8_b6_b4 ∧ Exa Z h b8_b6_b4 "[Ljava/lang/Object;" ∧ Ovr Z k8_k6_k4 "java/lang/Object" ∧ Arv Z h b8_b6_b4 k8_k6_k4 (.object "java/lang/Object") (2 : Int32) [(.ref a6), (.ref a6)] .null
theorem ef20 (a1 : Addr) (m : MethodId) : entryFrame m #[(.ref a1)] 1 = mkF m 0 #[.val (.ref a1)] [] := by first | (simp [entryFrame, mkF, argsToLocals, Value.category]; done) | rfl
theorem rm20 (l : Launch) (Z : State) (a0 : Array Value) (hw : ∀ d ∈ tables_1, d.before a0 Z = true) (ws : List Jvm.Cond) (a1 : Addr) (a2 : Addr) (a5 : Addr) (a6 : Addr) (k7 : ClassId) (h0 : Heap) (n0 : Nat) (Z0 : n0 ≤ h0.size) (F_elementData_a1 : Fld Z h0 a1 "java/util/ArrayList" "elementData" "[Ljava/lang/Object;" (.ref a2)) (F_size_a1 : Fld Z h0 a1 "java/util/ArrayList" "size" "I" (.int (2 : Int32))) (E_a2 : Exa Z h0 a2 "[Ljava/lang/Object;") (M_1 : OwnMir Z "[Ljava/lang/Object;" a5) (V_a2 : Arv Z h0 a2 k7 (.object "java/lang/Object") (10 : Int32) [(.ref a6), (.ref a6), .null, .null, .null, .null, .null, .null, .null, .null] .null) (E_a6 : Exa Z h0 a6 "com/example/feedergen/feedergen/core/GeoPoint") :
    OwnMet l Z y_19 jdk_38_method_16_code 1 (some (.array (.object "java/lang/Object"))) ws Rm20 #[(.ref a1)] h0 (Q20 Z a1 a2 a5 a6 k7 h0 n0) := by
  refine own_body (plainFor_of_name pn_5) (ef20 a1) ?_
  intro p e s m below meth c s₁ hx hby hml hown hnm hret hZ X0 e0
  have N0 := Fr.nil n0
  obtain ⟨T3, X3, e3, st3⟩ := getF X0 hx hZ hown (host := "") (Or.inl (w_50 hw)) Via.refl e0 F_elementData_a1 (g := (mkF m 1 #[.val (.ref a1)] [(.ref a1)])) rfl rfl (hb hby d19_1)
  obtain ⟨T4, X4, e4, st4⟩ := getF X3 hx hZ hown (host := "") (Or.inl (w_59 hw)) Via.refl e3 F_size_a1 (g := (mkF m 5 #[.val (.ref a1)] [(.ref a1), (.ref a2)])) rfl rfl (hb hby d19_5)
  obtain ⟨_, T8, L8, X8, hQ8, st8⟩ := own_callS X4 hx hZ hown (y := y_18) (w_160 hw) (w_161 hw) (w_162 hw) (w_163 hw) (rm19 l Z a0 hw [] a2 a5 a6 k7 h0 n0 Z0 E_a2 M_1 V_a2 E_a6) e4 (Ls := #[.val (.ref a1)]) (by rw [hml]; rfl) (argsL := [(.ref a2), (.int (2 : Int32))]) (rest := []) (lenOf pd_12 rfl) (hb hby d19_8) (W := 0)
  obtain ⟨b8_b6_b4, k8_k6_k4, rfl, Nq8, K8, o8_0, o8_1, o8_2, o8_3⟩ := hQ8
  have N8 := Fr.app N0 Nq8
  have s0 := K8.1
  have sz_b8_b6_b4 : h0.size ≤ b8_b6_b4 := o8_0
  have Kp0 : Keep h0 T8.heap [] := (Keep.refl h0 []).trans K8 all0
  refine ⟨T8, _, _, _, (some (.ref b8_b6_b4)), X8, nofun, by decide, by decide, ?_, fun fs hr => ?_⟩
  · show Q20 Z a1 a2 a5 a6 k7 h0 n0 _ T8.heap _
    exact ⟨b8_b6_b4, k8_k6_k4, rfl, N8, Kp0, sz_b8_b6_b4, o8_1, o8_2, o8_3⟩
  · show Steps p.tables e below (s₁.setTop (mkF m 0 #[.val (.ref a1)] [])) _
    refine XS.aloadN X0.here hx rfl (hb hby d19_0) rfl rfl ?_
    refine st3 _ ?_
    refine XS.aloadN X3.here hx rfl (hb hby d19_4) rfl rfl ?_
    refine st4 _ ?_
    refine st8 _ ?_
    exact retOut X8 hx hret rfl (Or.inr (Or.inr (Or.inr (Or.inr ⟨rfl, rfl, rfl⟩)))) (hb hby d19_11) hr
theorem w_159 {a0 : Array Value} {Z : State} (hw : ∀ d ∈ tables_1, d.before a0 Z = true) : Jvm.Cond.before (Jvm.Cond.code ({ cls := "java/util/ArrayList", name := "toArray", desc := "()[Ljava/lang/Object;" } : Jvm.MethodName) jdk_38_method_16_code (1 : Nat) (Option.some (Jvm.ClassFile.FieldType.array (Jvm.ClassFile.FieldType.object "java/lang/Object")))) a0 Z = true := hw _ (List.mem_of_getElem? (i := 159) rfl)
theorem w_152 {a0 : Array Value} {Z : State} (hw : ∀ d ∈ tables_1, d.before a0 Z = true) : Jvm.Cond.before (Jvm.Cond.methodLink "java/util/ImmutableCollections" (30 : Nat) ({ cls := "java/util/Collection", name := "toArray", desc := "()[Ljava/lang/Object;" } : Jvm.MethodName)) a0 Z = true := hw _ (List.mem_of_getElem? (i := 152) rfl)
theorem w_155 {a0 : Array Value} {Z : State} (hw : ∀ d ∈ tables_1, d.before a0 Z = true) : Jvm.Cond.before (Jvm.Cond.selects "java/util/ArrayList" ({ cls := "java/util/Collection", name := "toArray", desc := "()[Ljava/lang/Object;" } : Jvm.MethodName) ({ cls := "java/util/ArrayList", name := "toArray", desc := "()[Ljava/lang/Object;" } : Jvm.MethodName)) a0 Z = true := hw _ (List.mem_of_getElem? (i := 155) rfl)
abbrev y_20 : MethodName := ⟨"java/util/Collection", "toArray", "()[Ljava/lang/Object;"⟩
theorem w_153 {a0 : Array Value} {Z : State} (hw : ∀ d ∈ tables_1, d.before a0 Z = true) : Jvm.Cond.before (Jvm.Cond.declares ({ cls := "java/util/Collection", name := "toArray", desc := "()[Ljava/lang/Object;" } : Jvm.MethodName)) a0 Z = true := hw _ (List.mem_of_getElem? (i := 153) rfl)
theorem w_154 {a0 : Array Value} {Z : State} (hw : ∀ d ∈ tables_1, d.before a0 Z = true) : Jvm.Cond.before (Jvm.Cond.interfaceMethod "java/util/Collection" "java/util/Collection" "toArray" "()[Ljava/lang/Object;") a0 Z = true := hw _ (List.mem_of_getElem? (i := 154) rfl)
theorem w_156 {a0 : Array Value} {Z : State} (hw : ∀ d ∈ tables_1, d.before a0 Z = true) : Jvm.Cond.before (Jvm.Cond.instanceMethod ({ cls := "java/util/ArrayList", name := "toArray", desc := "()[Ljava/lang/Object;" } : Jvm.MethodName)) a0 Z = true := hw _ (List.mem_of_getElem? (i := 156) rfl)
theorem w_157 {a0 : Array Value} {Z : State} (hw : ∀ d ∈ tables_1, d.before a0 Z = true) : Jvm.Cond.before (Jvm.Cond.publicMethod ({ cls := "java/util/ArrayList", name := "toArray", desc := "()[Ljava/lang/Object;" } : Jvm.MethodName)) a0 Z = true := hw _ (List.mem_of_getElem? (i := 157) rfl)
theorem w_158 {a0 : Array Value} {Z : State} (hw : ∀ d ∈ tables_1, d.before a0 Z = true) : Jvm.Cond.before (Jvm.Cond.unhidden "java/util/ArrayList" "toArray" "()[Ljava/lang/Object;") a0 Z = true := hw _ (List.mem_of_getElem? (i := 158) rfl)
theorem d17_50 : decode jdk_56_method_3_code 50 = .ok (.invokestatic 34, 3) := by decide +kernel
theorem d23_0 : decode jdk_40_method_47_code 0 = .ok (.aload_n 0, 1) := by decide +kernel
theorem d23_1 : decode jdk_40_method_47_code 1 = .ok (.arraylength, 1) := by decide +kernel
theorem d23_2 : decode jdk_40_method_47_code 2 = .ok (.tableswitch 57 0 2 #[26, 32, 43], 26) := by decide +kernel
theorem d23_45 : decode jdk_40_method_47_code 45 = .ok (.new 96, 3) := by decide +kernel
theorem w_185 {a0 : Array Value} {Z : State} (hw : ∀ d ∈ tables_1, d.before a0 Z = true) : Jvm.Cond.before (Jvm.Cond.classLink "java/util/List" (96 : Nat) "java/util/ImmutableCollections$List12") a0 Z = true := hw _ (List.mem_of_getElem? (i := 185) rfl)
theorem w_187 {a0 : Array Value} {Z : State} (hw : ∀ d ∈ tables_1, d.before a0 Z = true) : Jvm.Cond.before (Jvm.Cond.initialized "java/util/ImmutableCollections$List12") a0 Z = true := hw _ (List.mem_of_getElem? (i := 187) rfl)
theorem w_211 {a0 : Array Value} {Z : State} (hw : ∀ d ∈ tables_1, d.before a0 Z = true) : Jvm.Cond.before (Jvm.Cond.laysFinal "java/util/ImmutableCollections$List12" "java/util/ImmutableCollections$List12" "e0" "Ljava/lang/Object;") a0 Z = true := hw _ (List.mem_of_getElem? (i := 211) rfl)
theorem w_213 {a0 : Array Value} {Z : State} (hw : ∀ d ∈ tables_1, d.before a0 Z = true) : Jvm.Cond.before (Jvm.Cond.laysFinal "java/util/ImmutableCollections$List12" "java/util/ImmutableCollections$List12" "e1" "Ljava/lang/Object;") a0 Z = true := hw _ (List.mem_of_getElem? (i := 213) rfl)
theorem d23_48 : decode jdk_40_method_47_code 48 = .ok (.dup, 1) := by decide +kernel
theorem d23_49 : decode jdk_40_method_47_code 49 = .ok (.aload_n 0, 1) := by decide +kernel
theorem d23_50 : decode jdk_40_method_47_code 50 = .ok (.iconst 0, 1) := by decide +kernel
theorem d23_51 : decode jdk_40_method_47_code 51 = .ok (.aaload, 1) := by decide +kernel
theorem d23_52 : decode jdk_40_method_47_code 52 = .ok (.aload_n 0, 1) := by decide +kernel
theorem d23_53 : decode jdk_40_method_47_code 53 = .ok (.iconst 1, 1) := by decide +kernel
theorem d23_54 : decode jdk_40_method_47_code 54 = .ok (.aaload, 1) := by decide +kernel
theorem d23_55 : decode jdk_40_method_47_code 55 = .ok (.invokespecial 100, 3) := by decide +kernel
theorem d24_0 : decode jdk_44_method_2_code 0 = .ok (.aload_n 0, 1) := by decide +kernel
theorem d24_1 : decode jdk_44_method_2_code 1 = .ok (.invokespecial 1, 3) := by decide +kernel
theorem d25_0 : decode jdk_46_method_1_code 0 = .ok (.aload_n 0, 1) := by decide +kernel
theorem d25_1 : decode jdk_46_method_1_code 1 = .ok (.invokespecial 1, 3) := by decide +kernel
theorem d26_0 : decode jdk_47_method_1_code 0 = .ok (.aload_n 0, 1) := by decide +kernel
theorem d26_1 : decode jdk_47_method_1_code 1 = .ok (.invokespecial 1, 3) := by decide +kernel
theorem w_204 {a0 : Array Value} {Z : State} (hw : ∀ d ∈ tables_1, d.before a0 Z = true) : Jvm.Cond.before (Jvm.Cond.methodLink "java/util/ImmutableCollections$AbstractImmutableCollection" (1 : Nat) ({ cls := "java/util/AbstractCollection", name := "<init>", desc := "()V" } : Jvm.MethodName)) a0 Z = true := hw _ (List.mem_of_getElem? (i := 204) rfl)
theorem d26_4 : decode jdk_47_method_1_code 4 = .ok (.return_, 1) := by decide +kernel
abbrev y_21 : MethodName := ⟨"java/util/ImmutableCollections$AbstractImmutableCollection", "<init>", "()V"⟩
theorem pn_8 : plainName "java/util/ImmutableCollections$AbstractImmutableCollection" = true := by first | (simp [plainName, overriddenIn]; done) | decide +kernel
-- java/util/ImmutableCollections$AbstractImmutableCollection.<init>()V
abbrev Rm21 : Room := { frames := 2, cells := 0, slots := 0, locals := 24 }
def Q21 (Z : State) (a1 : Addr) (h0 : Heap) (n0 : Nat) (v : Option Value) (h : Heap) (L : List Loc) : Prop := v = none ∧ Fr n0 L ∧ h = h0
theorem ef21 (a1 : Addr) (m : MethodId) : entryFrame m #[(.ref a1)] 1 = mkF m 0 #[.val (.ref a1)] [] := by first | (simp [entryFrame, mkF, argsToLocals, Value.category]; done) | rfl
theorem rm21 (l : Launch) (Z : State) (a0 : Array Value) (hw : ∀ d ∈ tables_1, d.before a0 Z = true) (ws : List Jvm.Cond) (a1 : Addr) (h0 : Heap) (n0 : Nat) (Z0 : n0 ≤ h0.size) :
    OwnMet l Z y_21 jdk_47_method_1_code 1 none ws Rm21 #[(.ref a1)] h0 (Q21 Z a1 h0 n0) := by
  refine own_body (plainFor_of_name pn_8) (ef21 a1) ?_
  intro p e s m below meth c s₁ hx hby hml hown hnm hret hZ X0 e0
  have N0 := Fr.nil n0
  obtain ⟨_, T2, L2, X2, hQ2, st2⟩ := own_special X0 hx hZ hown (y := y_3) (a := a1) (w_204 hw) (w_41 hw) (w_44 hw) (w_45 hw) (rm4 l Z a0 hw [] a1 h0 n0 Z0) e0 (Ls := #[.val (.ref a1)]) (by rw [hml]; rfl) (argsL := []) (rest := []) (lenOf pd_0 rfl) (hb hby d26_1) (W := 0)
  obtain ⟨rfl, Nq2, e2⟩ := hQ2
  have N2 := Fr.app N0 Nq2
  refine ⟨T2, _, _, _, none, X2, (fun _ => rfl), by decide, by decide, ?_, fun fs hr => ?_⟩
  · show Q21 Z a1 h0 n0 _ T2.heap _
    rw [e2]
    exact ⟨rfl, N2, rfl⟩
  · show Steps p.tables e below (s₁.setTop (mkF m 0 #[.val (.ref a1)] [])) _
    refine XS.aloadN X0.here hx rfl (hb hby d26_0) rfl rfl ?_
    refine st2 _ ?_
    exact X2.returnOut hx hret (hb hby d26_4) hr
theorem w_202 {a0 : Array Value} {Z : State} (hw : ∀ d ∈ tables_1, d.before a0 Z = true) : Jvm.Cond.before (Jvm.Cond.initialized "java/util/ImmutableCollections$AbstractImmutableCollection") a0 Z = true := hw _ (List.mem_of_getElem? (i := 202) rfl)
theorem w_203 {a0 : Array Value} {Z : State} (hw : ∀ d ∈ tables_1, d.before a0 Z = true) : Jvm.Cond.before (Jvm.Cond.code ({ cls := "java/util/ImmutableCollections$AbstractImmutableCollection", name := "<init>", desc := "()V" } : Jvm.MethodName) jdk_47_method_1_code (1 : Nat) (Option.none : Option Jvm.ClassFile.FieldType)) a0 Z = true := hw _ (List.mem_of_getElem? (i := 203) rfl)
theorem w_198 {a0 : Array Value} {Z : State} (hw : ∀ d ∈ tables_1, d.before a0 Z = true) : Jvm.Cond.before (Jvm.Cond.methodLink "java/util/ImmutableCollections$AbstractImmutableList" (1 : Nat) ({ cls := "java/util/ImmutableCollections$AbstractImmutableCollection", name := "<init>", desc := "()V" } : Jvm.MethodName)) a0 Z = true := hw _ (List.mem_of_getElem? (i := 198) rfl)
theorem w_199 {a0 : Array Value} {Z : State} (hw : ∀ d ∈ tables_1, d.before a0 Z = true) : Jvm.Cond.before (Jvm.Cond.instanceMethod ({ cls := "java/util/ImmutableCollections$AbstractImmutableCollection", name := "<init>", desc := "()V" } : Jvm.MethodName)) a0 Z = true := hw _ (List.mem_of_getElem? (i := 199) rfl)
theorem d25_4 : decode jdk_46_method_1_code 4 = .ok (.return_, 1) := by decide +kernel
abbrev y_22 : MethodName := ⟨"java/util/ImmutableCollections$AbstractImmutableList", "<init>", "()V"⟩
theorem pn_9 : plainName "java/util/ImmutableCollections$AbstractImmutableList" = true := by first | (simp [plainName, overriddenIn]; done) | decide +kernel
-- java/util/ImmutableCollections$AbstractImmutableList.<init>()V
abbrev Rm22 : Room := { frames := 3, cells := 0, slots := 0, locals := 36 }
def Q22 (Z : State) (a1 : Addr) (h0 : Heap) (n0 : Nat) (v : Option Value) (h : Heap) (L : List Loc) : Prop := v = none ∧ Fr n0 L ∧ h = h0
theorem ef22 (a1 : Addr) (m : MethodId) : entryFrame m #[(.ref a1)] 1 = mkF m 0 #[.val (.ref a1)] [] := by first | (simp [entryFrame, mkF, argsToLocals, Value.category]; done) | rfl
theorem rm22 (l : Launch) (Z : State) (a0 : Array Value) (hw : ∀ d ∈ tables_1, d.before a0 Z = true) (ws : List Jvm.Cond) (a1 : Addr) (h0 : Heap) (n0 : Nat) (Z0 : n0 ≤ h0.size) :
    OwnMet l Z y_22 jdk_46_method_1_code 1 none ws Rm22 #[(.ref a1)] h0 (Q22 Z a1 h0 n0) := by
  refine own_body (plainFor_of_name pn_9) (ef22 a1) ?_
  intro p e s m below meth c s₁ hx hby hml hown hnm hret hZ X0 e0
  have N0 := Fr.nil n0
  obtain ⟨_, T2, L2, X2, hQ2, st2⟩ := own_special X0 hx hZ hown (y := y_21) (a := a1) (w_198 hw) (w_199 hw) (w_202 hw) (w_203 hw) (rm21 l Z a0 hw [] a1 h0 n0 Z0) e0 (Ls := #[.val (.ref a1)]) (by rw [hml]; rfl) (argsL := []) (rest := []) (lenOf pd_0 rfl) (hb hby d25_1) (W := 0)
  obtain ⟨rfl, Nq2, e2⟩ := hQ2
  have N2 := Fr.app N0 Nq2
  refine ⟨T2, _, _, _, none, X2, (fun _ => rfl), by decide, by decide, ?_, fun fs hr => ?_⟩
  · show Q22 Z a1 h0 n0 _ T2.heap _
    rw [e2]
    exact ⟨rfl, N2, rfl⟩
  · show Steps p.tables e below (s₁.setTop (mkF m 0 #[.val (.ref a1)] [])) _
    refine XS.aloadN X0.here hx rfl (hb hby d25_0) rfl rfl ?_
    refine st2 _ ?_
    exact X2.returnOut hx hret (hb hby d25_4) hr
theorem w_196 {a0 : Array Value} {Z : State} (hw : ∀ d ∈ tables_1, d.before a0 Z = true) : Jvm.Cond.before (Jvm.Cond.initialized "java/util/ImmutableCollections$AbstractImmutableList") a0 Z = true := hw _ (List.mem_of_getElem? (i := 196) rfl)
theorem w_197 {a0 : Array Value} {Z : State} (hw : ∀ d ∈ tables_1, d.before a0 Z = true) : Jvm.Cond.before (Jvm.Cond.code ({ cls := "java/util/ImmutableCollections$AbstractImmutableList", name := "<init>", desc := "()V" } : Jvm.MethodName) jdk_46_method_1_code (1 : Nat) (Option.none : Option Jvm.ClassFile.FieldType)) a0 Z = true := hw _ (List.mem_of_getElem? (i := 197) rfl)
theorem w_192 {a0 : Array Value} {Z : State} (hw : ∀ d ∈ tables_1, d.before a0 Z = true) : Jvm.Cond.before (Jvm.Cond.methodLink "java/util/ImmutableCollections$List12" (1 : Nat) ({ cls := "java/util/ImmutableCollections$AbstractImmutableList", name := "<init>", desc := "()V" } : Jvm.MethodName)) a0 Z = true := hw _ (List.mem_of_getElem? (i := 192) rfl)
theorem w_193 {a0 : Array Value} {Z : State} (hw : ∀ d ∈ tables_1, d.before a0 Z = true) : Jvm.Cond.before (Jvm.Cond.instanceMethod ({ cls := "java/util/ImmutableCollections$AbstractImmutableList", name := "<init>", desc := "()V" } : Jvm.MethodName)) a0 Z = true := hw _ (List.mem_of_getElem? (i := 193) rfl)
theorem d24_4 : decode jdk_44_method_2_code 4 = .ok (.aload_n 0, 1) := by decide +kernel
theorem d24_5 : decode jdk_44_method_2_code 5 = .ok (.aload_n 1, 1) := by decide +kernel
theorem d24_6 : decode jdk_44_method_2_code 6 = .ok (.invokestatic 7, 3) := by decide +kernel
theorem d27_0 : decode jdk_31_method_10_code 0 = .ok (.aload_n 0, 1) := by decide +kernel
theorem d27_1 : decode jdk_31_method_10_code 1 = .ok (.ifnonnull 11, 3) := by decide +kernel
theorem d27_12 : decode jdk_31_method_10_code 12 = .ok (.aload_n 0, 1) := by decide +kernel
theorem d27_13 : decode jdk_31_method_10_code 13 = .ok (.areturn, 1) := by decide +kernel
abbrev y_23 : MethodName := ⟨"java/util/Objects", "requireNonNull", "(Ljava/lang/Object;)Ljava/lang/Object;"⟩
theorem pn_10 : plainName "java/util/Objects" = true := by first | (simp [plainName, overriddenIn]; done) | decide +kernel
-- java/util/Objects.requireNonNull(Ljava/lang/Object;)Ljava/lang/Object;
abbrev Rm23 : Room := { frames := 0, cells := 0, slots := 0, locals := 0 }
def Q23 (Z : State) (a1 : Addr) (h0 : Heap) (n0 : Nat) (v : Option Value) (h : Heap) (L : List Loc) : Prop := v = some (.ref a1) ∧ Fr n0 L ∧ h = h0
theorem ef23 (a1 : Addr) (m : MethodId) : entryFrame m #[(.ref a1)] 1 = mkF m 0 #[.val (.ref a1)] [] := by first | (simp [entryFrame, mkF, argsToLocals, Value.category]; done) | rfl
theorem rm23 (l : Launch) (Z : State) (a0 : Array Value) (hw : ∀ d ∈ tables_1, d.before a0 Z = true) (ws : List Jvm.Cond) (a1 : Addr) (h0 : Heap) (n0 : Nat) (Z0 : n0 ≤ h0.size) :
    OwnMet l Z y_23 jdk_31_method_10_code 1 (some (.object "java/lang/Object")) ws Rm23 #[(.ref a1)] h0 (Q23 Z a1 h0 n0) := by
  refine own_body (plainFor_of_name pn_10) (ef23 a1) ?_
  intro p e s m below meth c s₁ hx hby hml hown hnm hret hZ X0 e0
  have N0 := Fr.nil n0
  refine ⟨s₁, _, _, _, (some (.ref a1)), X0, nofun, by decide, by decide, ?_, fun fs hr => ?_⟩
  · show Q23 Z a1 h0 n0 _ s₁.heap _
    rw [e0]
    exact ⟨rfl, N0, rfl⟩
  · show Steps p.tables e below (s₁.setTop (mkF m 0 #[.val (.ref a1)] [])) _
    refine XS.aloadN X0.here hx rfl (hb hby d27_0) rfl rfl ?_
    refine XS.ifnonnullYes X0.here hx rfl (pc0 := 1) (pc' := 12) rfl (hb hby d27_1) rfl (by decide) (by decide) ?_
    refine XS.aloadN X0.here hx rfl (hb hby d27_12) rfl rfl ?_
    exact retOut X0 hx hret rfl (Or.inr (Or.inr (Or.inr (Or.inr ⟨rfl, rfl, rfl⟩)))) (hb hby d27_13) hr
theorem pd_13 : parseMethodDescriptor "(Ljava/lang/Object;)Ljava/lang/Object;" = some ⟨[(.object "java/lang/Object")], some (.object "java/lang/Object")⟩ := by decide +kernel
theorem w_208 {a0 : Array Value} {Z : State} (hw : ∀ d ∈ tables_1, d.before a0 Z = true) : Jvm.Cond.before (Jvm.Cond.initialized "java/util/Objects") a0 Z = true := hw _ (List.mem_of_getElem? (i := 208) rfl)
theorem w_209 {a0 : Array Value} {Z : State} (hw : ∀ d ∈ tables_1, d.before a0 Z = true) : Jvm.Cond.before (Jvm.Cond.code ({ cls := "java/util/Objects", name := "requireNonNull", desc := "(Ljava/lang/Object;)Ljava/lang/Object;" } : Jvm.MethodName) jdk_31_method_10_code (1 : Nat) (Option.some (Jvm.ClassFile.FieldType.object "java/lang/Object"))) a0 Z = true := hw _ (List.mem_of_getElem? (i := 209) rfl)
theorem w_206 {a0 : Array Value} {Z : State} (hw : ∀ d ∈ tables_1, d.before a0 Z = true) : Jvm.Cond.before (Jvm.Cond.methodLink "java/util/ImmutableCollections$List12" (7 : Nat) ({ cls := "java/util/Objects", name := "requireNonNull", desc := "(Ljava/lang/Object;)Ljava/lang/Object;" } : Jvm.MethodName)) a0 Z = true := hw _ (List.mem_of_getElem? (i := 206) rfl)
theorem w_207 {a0 : Array Value} {Z : State} (hw : ∀ d ∈ tables_1, d.before a0 Z = true) : Jvm.Cond.before (Jvm.Cond.static ({ cls := "java/util/Objects", name := "requireNonNull", desc := "(Ljava/lang/Object;)Ljava/lang/Object;" } : Jvm.MethodName)) a0 Z = true := hw _ (List.mem_of_getElem? (i := 207) rfl)
theorem d24_9 : decode jdk_44_method_2_code 9 = .ok (.putfield 13, 3) := by decide +kernel
theorem w_210 {a0 : Array Value} {Z : State} (hw : ∀ d ∈ tables_1, d.before a0 Z = true) : Jvm.Cond.before (Jvm.Cond.fieldLink "java/util/ImmutableCollections$List12" (13 : Nat) "java/util/ImmutableCollections$List12" "e0" "Ljava/lang/Object;") a0 Z = true := hw _ (List.mem_of_getElem? (i := 210) rfl)
theorem d24_12 : decode jdk_44_method_2_code 12 = .ok (.aload_n 0, 1) := by decide +kernel
theorem d24_13 : decode jdk_44_method_2_code 13 = .ok (.aload_n 2, 1) := by decide +kernel
theorem d24_14 : decode jdk_44_method_2_code 14 = .ok (.invokestatic 7, 3) := by decide +kernel
theorem d24_17 : decode jdk_44_method_2_code 17 = .ok (.putfield 24, 3) := by decide +kernel
theorem w_212 {a0 : Array Value} {Z : State} (hw : ∀ d ∈ tables_1, d.before a0 Z = true) : Jvm.Cond.before (Jvm.Cond.fieldLink "java/util/ImmutableCollections$List12" (24 : Nat) "java/util/ImmutableCollections$List12" "e1" "Ljava/lang/Object;") a0 Z = true := hw _ (List.mem_of_getElem? (i := 212) rfl)
theorem d24_20 : decode jdk_44_method_2_code 20 = .ok (.return_, 1) := by decide +kernel
abbrev y_24 : MethodName := ⟨"java/util/ImmutableCollections$List12", "<init>", "(Ljava/lang/Object;Ljava/lang/Object;)V"⟩
theorem pn_11 : plainName "java/util/ImmutableCollections$List12" = true := by first | (simp [plainName, overriddenIn]; done) | decide +kernel
-- java/util/ImmutableCollections$List12.<init>(Ljava/lang/Object;Ljava/lang/Object;)V
abbrev Rm24 : Room := { frames := 4, cells := 0, slots := 0, locals := 48 }
def Q24 (Z : State) (a1 : Addr) (a2 : Addr) (h0 : Heap) (n0 : Nat) (v : Option Value) (h : Heap) (L : List Loc) : Prop := v = none ∧ Fr n0 L ∧ Keep h0 h [a1] ∧ Exa Z h a1 "java/util/ImmutableCollections$List12" ∧ Fld Z h a1 "java/util/ImmutableCollections$List12" "e0" "Ljava/lang/Object;" (.ref a2) ∧ Fld Z h a1 "java/util/ImmutableCollections$List12" "e1" "Ljava/lang/Object;" (.ref a2)
theorem ef24 (a1 : Addr) (a2 : Addr) (m : MethodId) : entryFrame m #[(.ref a1), (.ref a2), (.ref a2)] 3 = mkF m 0 #[.val (.ref a1), .val (.ref a2), .val (.ref a2)] [] := by first | (simp [entryFrame, mkF, argsToLocals, Value.category]; done) | rfl
theorem rm24 (l : Launch) (Z : State) (a0 : Array Value) (hw : ∀ d ∈ tables_1, d.before a0 Z = true) (ws : List Jvm.Cond) (a1 : Addr) (a2 : Addr) (h0 : Heap) (n0 : Nat) (Z0 : n0 ≤ h0.size) (F_e0_a1 : Fld Z h0 a1 "java/util/ImmutableCollections$List12" "e0" "Ljava/lang/Object;" .null) (E_a1 : Exa Z h0 a1 "java/util/ImmutableCollections$List12") (g_a1 : n0 ≤ a1) (F_e1_a1 : Fld Z h0 a1 "java/util/ImmutableCollections$List12" "e1" "Ljava/lang/Object;" .null) :
    OwnMet l Z y_24 jdk_44_method_2_code 3 none ws Rm24 #[(.ref a1), (.ref a2), (.ref a2)] h0 (Q24 Z a1 a2 h0 n0) := by
  refine own_body (plainFor_of_name pn_11) (ef24 a1 a2) ?_
  intro p e s m below meth c s₁ hx hby hml hown hnm hret hZ X0 e0
  have N0 := Fr.nil n0
  obtain ⟨_, T3, L3, X3, hQ3, st3⟩ := own_special X0 hx hZ hown (y := y_22) (a := a1) (w_192 hw) (w_193 hw) (w_196 hw) (w_197 hw) (rm22 l Z a0 hw [] a1 h0 n0 Z0) e0 (Ls := #[.val (.ref a1), .val (.ref a2), .val (.ref a2)]) (by rw [hml]; rfl) (argsL := []) (rest := []) (lenOf pd_0 rfl) (hb hby d24_1) (W := 0)
  obtain ⟨rfl, Nq3, e3⟩ := hQ3
  have N3 := Fr.app N0 Nq3
  obtain ⟨_, T4, L4, X4, hQ4, st4⟩ := own_callS X3 hx hZ hown (y := y_23) (w_206 hw) (w_207 hw) (w_208 hw) (w_209 hw) (rm23 l Z a0 hw [] a2 h0 n0 Z0) e3 (Ls := #[.val (.ref a1), .val (.ref a2), .val (.ref a2)]) (by rw [hml]; rfl) (argsL := [(.ref a2)]) (rest := [(.ref a1)]) (lenOf pd_13 rfl) (hb hby d24_6) (W := 1)
  obtain ⟨rfl, Nq4, e4⟩ := hQ4
  have N4 := Fr.app N3 Nq4
  obtain ⟨T5, h5, X5, e5, W5, st5⟩ := putF X4 hx hZ hown (host := "") (Or.inl (w_210 hw)) Via.refl e4 F_e0_a1 E_a1 (Or.inr ⟨(w_211 hw), rfl, hnm⟩) (w_186 hw) (ty := (.object "java/lang/Object")) (by decide) rfl rfl (g := (mkF m 9 #[.val (.ref a1), .val (.ref a2), .val (.ref a2)] [(.ref a2), (.ref a1)])) rfl rfl (hb hby d24_9)
  have s0 := (Keep.of_wr W5).1
  have N5 := Fr.snoc X5 N4 g_a1
  have Fw5 : Fld Z h5 a1 "java/util/ImmutableCollections$List12" "e0" "Ljava/lang/Object;" (.ref a2) := F_e0_a1.same W5
  have z1 := Nat.le_trans Z0 s0
  obtain ⟨_, T6, L6, X6, hQ6, st6⟩ := own_callS X5 hx hZ hown (y := y_23) (w_206 hw) (w_207 hw) (w_208 hw) (w_209 hw) (rm23 l Z a0 hw [] a2 h5 n0 z1) e5 (Ls := #[.val (.ref a1), .val (.ref a2), .val (.ref a2)]) (by rw [hml]; rfl) (argsL := [(.ref a2)]) (rest := [(.ref a1)]) (lenOf pd_13 rfl) (hb hby d24_14) (W := 1)
  obtain ⟨rfl, Nq6, e6⟩ := hQ6
  have N6 := Fr.app N5 Nq6
  have Ex7 := (E_a1.wr W5)
  have Fl8 := (F_e1_a1.other W5 (Or.inr (slot_ne (Or.inr (w_213 hw)) (Or.inr (w_211 hw)) (by decide) (t := (.object "java/lang/Object")) (t' := (.object "java/lang/Object")) (by decide) (by decide))))
  obtain ⟨T9, h9, X9, e9, W9, st9⟩ := putF X6 hx hZ hown (host := "") (Or.inl (w_212 hw)) Via.refl e6 Fl8 Ex7 (Or.inr ⟨(w_213 hw), rfl, hnm⟩) (w_186 hw) (ty := (.object "java/lang/Object")) (by decide) rfl rfl (g := (mkF m 17 #[.val (.ref a1), .val (.ref a2), .val (.ref a2)] [(.ref a2), (.ref a1)])) rfl rfl (hb hby d24_17)
  have s1 := (Keep.of_wr W9).1
  have N9 := Fr.snoc X9 N6 g_a1
  have Fw9 : Fld Z h9 a1 "java/util/ImmutableCollections$List12" "e1" "Ljava/lang/Object;" (.ref a2) := Fl8.same W9
  have Ex10 := (Ex7.wr W9)
  have Fl11 := (Fw5.other W9 (Or.inr (slot_ne (Or.inr (w_211 hw)) (Or.inr (w_213 hw)) (by decide) (t := (.object "java/lang/Object")) (t' := (.object "java/lang/Object")) (by decide) (by decide))))
  have Kp0 : Keep h0 h5 [a1] := (Keep.refl h0 [a1]).wr W5 (Or.inl (List.mem_of_getElem? (i := 0) rfl))
  have Kp1 : Keep h0 h9 [a1] := Kp0.wr W9 (Or.inl (List.mem_of_getElem? (i := 0) rfl))
  refine ⟨T9, _, _, _, none, X9, (fun _ => rfl), by decide, by decide, ?_, fun fs hr => ?_⟩
  · show Q24 Z a1 a2 h0 n0 _ T9.heap _
    rw [e9]
    exact ⟨rfl, N9, Kp1, Ex10, Fl11, Fw9⟩
  · show Steps p.tables e below (s₁.setTop (mkF m 0 #[.val (.ref a1), .val (.ref a2), .val (.ref a2)] [])) _
    refine XS.aloadN X0.here hx rfl (hb hby d24_0) rfl rfl ?_
    refine st3 _ ?_
    refine XS.aloadN X3.here hx rfl (hb hby d24_4) rfl rfl ?_
    refine XS.aloadN X3.here hx rfl (hb hby d24_5) rfl rfl ?_
    refine st4 _ ?_
    refine st5 _ ?_
    refine XS.aloadN X5.here hx rfl (hb hby d24_12) rfl rfl ?_
    refine XS.aloadN X5.here hx rfl (hb hby d24_13) rfl rfl ?_
    refine st6 _ ?_
    refine st9 _ ?_
    exact X9.returnOut hx hret (hb hby d24_20) hr
theorem pd_14 : parseMethodDescriptor "(Ljava/lang/Object;Ljava/lang/Object;)V" = some ⟨[(.object "java/lang/Object"), (.object "java/lang/Object")], none⟩ := by decide +kernel
theorem w_191 {a0 : Array Value} {Z : State} (hw : ∀ d ∈ tables_1, d.before a0 Z = true) : Jvm.Cond.before (Jvm.Cond.code ({ cls := "java/util/ImmutableCollections$List12", name := "<init>", desc := "(Ljava/lang/Object;Ljava/lang/Object;)V" } : Jvm.MethodName) jdk_44_method_2_code (3 : Nat) (Option.none : Option Jvm.ClassFile.FieldType)) a0 Z = true := hw _ (List.mem_of_getElem? (i := 191) rfl)
theorem w_188 {a0 : Array Value} {Z : State} (hw : ∀ d ∈ tables_1, d.before a0 Z = true) : Jvm.Cond.before (Jvm.Cond.methodLink "java/util/List" (100 : Nat) ({ cls := "java/util/ImmutableCollections$List12", name := "<init>", desc := "(Ljava/lang/Object;Ljava/lang/Object;)V" } : Jvm.MethodName)) a0 Z = true := hw _ (List.mem_of_getElem? (i := 188) rfl)
theorem w_189 {a0 : Array Value} {Z : State} (hw : ∀ d ∈ tables_1, d.before a0 Z = true) : Jvm.Cond.before (Jvm.Cond.instanceMethod ({ cls := "java/util/ImmutableCollections$List12", name := "<init>", desc := "(Ljava/lang/Object;Ljava/lang/Object;)V" } : Jvm.MethodName)) a0 Z = true := hw _ (List.mem_of_getElem? (i := 189) rfl)
theorem d23_58 : decode jdk_40_method_47_code 58 = .ok (.areturn, 1) := by decide +kernel
abbrev y_25 : MethodName := ⟨"java/util/List", "of", "([Ljava/lang/Object;)Ljava/util/List;"⟩
theorem pn_12 : plainName "java/util/List" = true := by first | (simp [plainName, overriddenIn]; done) | decide +kernel
-- java/util/List.of([Ljava/lang/Object;)Ljava/util/List;
abbrev Rm25 : Room := { frames := 5, cells := 1, slots := 2, locals := 63 }
def Q25 (Z : State) (a1 : Addr) (a2 : Addr) (k3 : ClassId) (h0 : Heap) (n0 : Nat) (v : Option Value) (h : Heap) (L : List Loc) : Prop := ∃ b5 : Addr, v = some (.ref b5) ∧ Fr n0 L ∧ Keep h0 h [] ∧ h0.size ≤ b5 ∧ Exa Z h b5 "java/util/ImmutableCollections$List12" ∧ Fld Z h b5 "java/util/ImmutableCollections$List12" "e0" "Ljava/lang/Object;" (.ref a2) ∧ Fld Z h b5 "java/util/ImmutableCollections$List12" "e1" "Ljava/lang/Object;" (.ref a2)
theorem ef25 (a1 : Addr) (m : MethodId) : entryFrame m #[(.ref a1)] 2 = mkF m 0 #[.val (.ref a1), .unset] [] := by first | (simp [entryFrame, mkF, argsToLocals, Value.category]; done) | rfl
theorem rm25 (l : Launch) (Z : State) (a0 : Array Value) (hw : ∀ d ∈ tables_1, d.before a0 Z = true) (ws : List Jvm.Cond) (a1 : Addr) (a2 : Addr) (k3 : ClassId) (h0 : Heap) (n0 : Nat) (Z0 : n0 ≤ h0.size) (V_a1 : Arv Z h0 a1 k3 (.object "java/lang/Object") (2 : Int32) [(.ref a2), (.ref a2)] .null) :
    OwnMet l Z y_25 jdk_40_method_47_code 2 (some (.object "java/util/List")) ws Rm25 #[(.ref a1)] h0 (Q25 Z a1 a2 k3 h0 n0) := by
  refine own_body (plainFor_of_name pn_12) (ef25 a1) ?_
  intro p e s m below meth c s₁ hx hby hml hown hnm hret hZ X0 e0
  have N0 := Fr.nil n0
  obtain ⟨cl4, Ar4, q4, S4, M4, Hs4, G4⟩ := id V_a1
  obtain ⟨T5, h5, X5, e5, E5, A5, D5, -, st5⟩ := newO X0 hx hZ hown (w_185 hw) (w_186 hw) (w_187 hw) e0 (g := (mkF m 45 #[.val (.ref a1), .unset] [])) rfl (hb hby d23_45) (by decide) (by decide)
  obtain ⟨b5, g5⟩ : ∃ z, z = h0.size := ⟨_, rfl⟩
  rw [← g5] at A5 D5 st5
  have s0 := E5.1
  have Fn5_e0 : Fld Z h5 b5 "java/util/ImmutableCollections$List12" "e0" "Ljava/lang/Object;" .null := D5 (Or.inr (w_211 hw)) (ty := (.object "java/lang/Object")) (by decide)
  have Fn5_e1 : Fld Z h5 b5 "java/util/ImmutableCollections$List12" "e1" "Ljava/lang/Object;" .null := D5 (Or.inr (w_213 hw)) (ty := (.object "java/lang/Object")) (by decide)
  have Va6 := (V_a1.ext E5)
  obtain ⟨cl7, Ar7, q7, S7, M7, Hs7, G7⟩ := id Va6
  have hin8 : ¬ ((0 : Int32) < 0 ∨ cl7.slots.size ≤ ((0 : Int32)).toNatClampNeg) := inb_of S7 ⟨(by decide : ¬ ((0 : Int32) < (0 : Int32))), (by decide : (0 : Int32) < (2 : Int32))⟩
  have hin9 : ¬ ((1 : Int32) < 0 ∨ cl7.slots.size ≤ ((1 : Int32)).toNatClampNeg) := inb_of S7 ⟨(by decide : ¬ ((1 : Int32) < (0 : Int32))), (by decide : (1 : Int32) < (2 : Int32))⟩
  have g_b5 : n0 ≤ b5 := Nat.le_trans Z0 (Nat.le_of_eq g5.symm)
  have z1 := Nat.le_trans Z0 s0
  obtain ⟨_, T10, L10, X10, hQ10, st10⟩ := own_special X5 hx hZ hown (y := y_24) (a := b5) (w_188 hw) (w_189 hw) (w_187 hw) (w_191 hw) (rm24 l Z a0 hw [] b5 a2 h5 n0 z1 Fn5_e0 A5 g_b5 Fn5_e1) e5 (Ls := #[.val (.ref a1), .unset]) (by rw [hml]; rfl) (argsL := [(.ref a2), (.ref a2)]) (rest := [(.ref b5)]) (lenOf pd_14 rfl) (hb hby d23_55) (W := 1)
  obtain ⟨rfl, Nq10, K10, o10_0, o10_1, o10_2⟩ := hQ10
  have N10 := Fr.app N0 Nq10
  have s1 := K10.1
  have sz_b5 : h0.size ≤ b5 := (Nat.le_of_eq g5.symm)
  have Kp0 : Keep h0 h5 [] := (Keep.refl h0 []).ext E5
  have Kp1 : Keep h0 T10.heap [] := Kp0.trans K10 (allS (Or.inr sz_b5) all0)
  refine ⟨T10, _, _, _, (some (.ref b5)), X10, nofun, by decide, by decide, ?_, fun fs hr => ?_⟩
  · show Q25 Z a1 a2 k3 h0 n0 _ T10.heap _
    exact ⟨b5, rfl, N10, Kp1, sz_b5, o10_0, o10_1, o10_2⟩
  · show Steps p.tables e below (s₁.setTop (mkF m 0 #[.val (.ref a1), .unset] [])) _
    refine XS.aloadN X0.here hx rfl (hb hby d23_0) rfl rfl ?_
    refine X0.arraylength hx (by rw [e0]; exact Ar4.1) (State.isArrayOf_alike hZ.alike Ar4.2.1) (g := (mkF m 1 #[.val (.ref a1), .unset] [(.ref a1)])) rfl rfl (hb hby d23_1) _ ?_
    show Steps p.tables e below (s₁.setTop (mkF m 2 #[.val (.ref a1), .unset] [(.int cl4.slots.size.toInt32)])) _
    rw [len_of S4 M4]
    refine XS.tswIn X0.here hx rfl (pc0 := 2) (pc' := 45) rfl (hb hby d23_2) rfl (by decide) rfl (by decide) (by decide) ?_
    refine st5 _ ?_
    refine XS.dup X5.here hx rfl (hb hby d23_48) rfl rfl ?_
    refine XS.aloadN X5.here hx rfl (hb hby d23_49) rfl rfl ?_
    refine XS.iconst X5.here hx rfl (hb hby d23_50) ?_
    refine X5.aaload hx (j := (0 : Int32)) (v := (.ref a2)) (by rw [e5]; exact Ar7.1) (State.isArrayOf_alike hZ.alike Ar7.2.1) rfl Ar7.2.2 hin8 (Has.at Hs7 hin8 rfl) (g := (mkF m 51 #[.val (.ref a1), .unset] [(.int (0 : Int32)), (.ref a1), (.ref b5), (.ref b5)])) rfl rfl (hb hby d23_51) _ ?_
    refine XS.aloadN X5.here hx rfl (hb hby d23_52) rfl rfl ?_
    refine XS.iconst X5.here hx rfl (hb hby d23_53) ?_
    refine X5.aaload hx (j := (1 : Int32)) (v := (.ref a2)) (by rw [e5]; exact Ar7.1) (State.isArrayOf_alike hZ.alike Ar7.2.1) rfl Ar7.2.2 hin9 (Has.at Hs7 hin9 rfl) (g := (mkF m 54 #[.val (.ref a1), .unset] [(.int (1 : Int32)), (.ref a1), (.ref a2), (.ref b5), (.ref b5)])) rfl rfl (hb hby d23_54) _ ?_
    refine st10 _ ?_
    exact retOut X10 hx hret rfl (Or.inr (Or.inr (Or.inr (Or.inr ⟨rfl, rfl, rfl⟩)))) (hb hby d23_58) hr
theorem pd_15 : parseMethodDescriptor "([Ljava/lang/Object;)Ljava/util/List;" = some ⟨[(.array (.object "java/lang/Object"))], some (.object "java/util/List")⟩ := by decide +kernel
theorem w_131 {a0 : Array Value} {Z : State} (hw : ∀ d ∈ tables_1, d.before a0 Z = true) : Jvm.Cond.before (Jvm.Cond.initialized "java/util/List") a0 Z = true := hw _ (List.mem_of_getElem? (i := 131) rfl)
theorem w_184 {a0 : Array Value} {Z : State} (hw : ∀ d ∈ tables_1, d.before a0 Z = true) : Jvm.Cond.before (Jvm.Cond.code ({ cls := "java/util/List", name := "of", desc := "([Ljava/lang/Object;)Ljava/util/List;" } : Jvm.MethodName) jdk_40_method_47_code (2 : Nat) (Option.some (Jvm.ClassFile.FieldType.object "java/util/List"))) a0 Z = true := hw _ (List.mem_of_getElem? (i := 184) rfl)
theorem w_182 {a0 : Array Value} {Z : State} (hw : ∀ d ∈ tables_1, d.before a0 Z = true) : Jvm.Cond.before (Jvm.Cond.methodLink "java/util/ImmutableCollections" (34 : Nat) ({ cls := "java/util/List", name := "of", desc := "([Ljava/lang/Object;)Ljava/util/List;" } : Jvm.MethodName)) a0 Z = true := hw _ (List.mem_of_getElem? (i := 182) rfl)
theorem w_183 {a0 : Array Value} {Z : State} (hw : ∀ d ∈ tables_1, d.before a0 Z = true) : Jvm.Cond.before (Jvm.Cond.static ({ cls := "java/util/List", name := "of", desc := "([Ljava/lang/Object;)Ljava/util/List;" } : Jvm.MethodName)) a0 Z = true := hw _ (List.mem_of_getElem? (i := 183) rfl)
theorem d17_53 : decode jdk_56_method_3_code 53 = .ok (.areturn, 1) := by decide +kernel
abbrev y_26 : MethodName := ⟨"java/util/ImmutableCollections", "listCopy", "(Ljava/util/Collection;)Ljava/util/List;"⟩
theorem pn_13 : plainName "java/util/ImmutableCollections" = true := by first | (simp [plainName, overriddenIn]; done) | decide +kernel
-- java/util/ImmutableCollections.listCopy(Ljava/util/Collection;)Ljava/util/List;
abbrev Rm26 : Room := { frames := 6, cells := 2, slots := 4, locals := 76 }
def Q26 (Z : State) (a1 : Addr) (a5 : Addr) (a6 : Addr) (a7 : Addr) (k8 : ClassId) (h0 : Heap) (n0 : Nat) (v : Option Value) (h : Heap) (L : List Loc) : Prop := ∃ b10_b5 : Addr, v = some (.ref b10_b5) ∧ Fr n0 L ∧ Keep h0 h [] ∧ h0.size ≤ b10_b5 ∧ Exa Z h b10_b5 "java/util/ImmutableCollections$List12" ∧ Fld Z h b10_b5 "java/util/ImmutableCollections$List12" "e0" "Ljava/lang/Object;" (.ref a7) ∧ Fld Z h b10_b5 "java/util/ImmutableCollections$List12" "e1" "Ljava/lang/Object;" (.ref a7)
theorem ef26 (a1 : Addr) (m : MethodId) : entryFrame m #[(.ref a1)] 2 = mkF m 0 #[.val (.ref a1), .unset] [] := by first | (simp [entryFrame, mkF, argsToLocals, Value.category]; done) | rfl
theorem rm26 (l : Launch) (Z : State) (a0 : Array Value) (hw : ∀ d ∈ tables_1, d.before a0 Z = true) (ws : List Jvm.Cond) (a1 : Addr) (a5 : Addr) (a6 : Addr) (a7 : Addr) (k8 : ClassId) (h0 : Heap) (n0 : Nat) (Z0 : n0 ≤ h0.size) (E_a1 : Exa Z h0 a1 "java/util/ArrayList") (F_size_a1 : Fld Z h0 a1 "java/util/ArrayList" "size" "I" (.int (2 : Int32))) (F_elementData_a1 : Fld Z h0 a1 "java/util/ArrayList" "elementData" "[Ljava/lang/Object;" (.ref a5)) (E_a5 : Exa Z h0 a5 "[Ljava/lang/Object;") (M_1 : OwnMir Z "[Ljava/lang/Object;" a6) (V_a5 : Arv Z h0 a5 k8 (.object "java/lang/Object") (10 : Int32) [(.ref a7), (.ref a7), .null, .null, .null, .null, .null, .null, .null, .null] .null) (E_a7 : Exa Z h0 a7 "com/example/feedergen/feedergen/core/GeoPoint") :
    OwnMet l Z y_26 jdk_56_method_3_code 2 (some (.object "java/util/List")) ws Rm26 #[(.ref a1)] h0 (Q26 Z a1 a5 a6 a7 k8 h0 n0) := by
  refine own_body (plainFor_of_name pn_13) (ef26 a1) ?_
  intro p e s m below meth c s₁ hx hby hml hown hnm hret hZ X0 e0
  have N0 := Fr.nil n0
  obtain ⟨T2, X2, e2, st2⟩ := instNo X0 hx hZ hown (w_137 hw) e0 E_a1 (own_NSno (w_138 hw) (w_186 hw) (NS.step (w_138 hw) (NS.step (w_139 hw) (NS.step (w_140 hw) (own_NSroot (w_141 hw) (w_186 hw) (by decide)) (by decide)) (by decide)) (by decide)) (by decide)) (g := (mkF m 1 #[.val (.ref a1), .unset] [(.ref a1)])) rfl rfl (hb hby d17_1)
  obtain ⟨T3, X3, e3, st3⟩ := instNo X2 hx hZ hown (w_142 hw) e2 E_a1 (own_NSno (w_138 hw) (w_231 hw) (NS.step (w_138 hw) (NS.step (w_139 hw) (NS.step (w_140 hw) (own_NSroot (w_141 hw) (w_231 hw) (by decide)) (by decide)) (by decide)) (by decide)) (by decide)) (g := (mkF m 8 #[.val (.ref a1), .unset] [(.ref a1)])) rfl rfl (hb hby d17_8)
  obtain ⟨_, T4, L4, X4, hQ4, st4⟩ := own_iface X3 hx hZ hown (y := y_15) (z := y_14) E_a1 (w_143 hw) (w_144 hw) (w_145 hw) (w_146 hw) (w_147 hw) (w_148 hw) (w_149 hw) (w_150 hw) (w_30 hw) (w_151 hw) (rm16 l Z a0 hw [] a1 h0 n0 Z0 F_size_a1) e3 (Ls := #[.val (.ref a1), .unset]) (by rw [hml]; rfl) (argsL := []) (rest := []) (lenOf pd_10 rfl) (hb hby d17_32) (W := 0)
  obtain ⟨rfl, Nq4, e4⟩ := hQ4
  have N4 := Fr.app N0 Nq4
  obtain ⟨_, T9, L9, X9, hQ9, st9⟩ := own_iface X4 hx hZ hown (y := y_20) (z := y_19) E_a1 (w_152 hw) (w_153 hw) (w_154 hw) (w_155 hw) (w_156 hw) (w_157 hw) (w_158 hw) (w_150 hw) (w_30 hw) (w_159 hw) (rm20 l Z a0 hw [] a1 a5 a6 a7 k8 h0 n0 Z0 F_elementData_a1 F_size_a1 E_a5 M_1 V_a5 E_a7) e4 (Ls := #[.val (.ref a1), .unset]) (by rw [hml]; rfl) (argsL := []) (rest := []) (lenOf pd_5 rfl) (hb hby d17_45) (W := 0)
  obtain ⟨b9_b8_b6_b4, k9_k8_k6_k4, rfl, Nq9, K9, o9_0, o9_1, o9_2, o9_3⟩ := hQ9
  have N9 := Fr.app N4 Nq9
  have s0 := K9.1
  have z1 := Nat.le_trans Z0 s0
  obtain ⟨_, T10, L10, X10, hQ10, st10⟩ := own_callS X9 hx hZ hown (y := y_25) (w_182 hw) (w_183 hw) (w_131 hw) (w_184 hw) (rm25 l Z a0 hw [] b9_b8_b6_b4 a7 k9_k8_k6_k4 T9.heap n0 z1 o9_3) rfl (Ls := #[.val (.ref a1), .unset]) (by rw [hml]; rfl) (argsL := [(.ref b9_b8_b6_b4)]) (rest := []) (lenOf pd_15 rfl) (hb hby d17_50) (W := 0)
  obtain ⟨b10_b5, rfl, Nq10, K10, o10_0, o10_1, o10_2, o10_3⟩ := hQ10
  have N10 := Fr.app N9 Nq10
  have s1 := K10.1
  have sz_b10_b5 : h0.size ≤ b10_b5 := Nat.le_trans s0 o10_0
  have Kp0 : Keep h0 T9.heap [] := (Keep.refl h0 []).trans K9 all0
  have Kp1 : Keep h0 T10.heap [] := Kp0.trans K10 all0
  refine ⟨T10, _, _, _, (some (.ref b10_b5)), X10, nofun, by decide, by decide, ?_, fun fs hr => ?_⟩
  · show Q26 Z a1 a5 a6 a7 k8 h0 n0 _ T10.heap _
    exact ⟨b10_b5, rfl, N10, Kp1, sz_b10_b5, o10_1, o10_2, o10_3⟩
  · show Steps p.tables e below (s₁.setTop (mkF m 0 #[.val (.ref a1), .unset] [])) _
    refine XS.aloadN X0.here hx rfl (hb hby d17_0) rfl rfl ?_
    refine st2 _ ?_
    refine XS.ifNo X2.here hx rfl (hb hby d17_4) rfl ((if0 _ _).trans (teq ((by decide : (0 : Int32) = (0 : Int32)) : (0 : Int32) = (0 : Int32))).2) ?_
    refine XS.aloadN X2.here hx rfl (hb hby d17_7) rfl rfl ?_
    refine st3 _ ?_
    refine XS.ifYes X3.here hx rfl (pc0 := 11) (pc' := 31) rfl (hb hby d17_11) rfl ((if0 _ _).trans (teq ((by decide : (0 : Int32) = (0 : Int32)) : (0 : Int32) = (0 : Int32))).1) (by decide) (by decide) ?_
    refine XS.aloadN X3.here hx rfl (hb hby d17_31) rfl rfl ?_
    refine st4 _ ?_
    refine XS.ifYes X4.here hx rfl (pc0 := 37) (pc' := 44) rfl (hb hby d17_37) rfl ((if0 _ _).trans (teq ((by decide : (0 : Int32) = (0 : Int32)) : (0 : Int32) = (0 : Int32))).1) (by decide) (by decide) ?_
    refine XS.aloadN X4.here hx rfl (hb hby d17_44) rfl rfl ?_
    refine st9 _ ?_
    refine st10 _ ?_
    show Steps p.tables e below (T10.setTop (mkF m 53 #[.val (.ref a1), .unset] [(.ref b10_b5)])) _
    exact retOut X10 hx hret rfl (Or.inr (Or.inr (Or.inr (Or.inr ⟨rfl, rfl, rfl⟩)))) (hb hby d17_53) hr
theorem pd_16 : parseMethodDescriptor "(Ljava/util/Collection;)Ljava/util/List;" = some ⟨[(.object "java/util/Collection")], some (.object "java/util/List")⟩ := by decide +kernel
theorem w_135 {a0 : Array Value} {Z : State} (hw : ∀ d ∈ tables_1, d.before a0 Z = true) : Jvm.Cond.before (Jvm.Cond.initialized "java/util/ImmutableCollections") a0 Z = true := hw _ (List.mem_of_getElem? (i := 135) rfl)
theorem w_136 {a0 : Array Value} {Z : State} (hw : ∀ d ∈ tables_1, d.before a0 Z = true) : Jvm.Cond.before (Jvm.Cond.code ({ cls := "java/util/ImmutableCollections", name := "listCopy", desc := "(Ljava/util/Collection;)Ljava/util/List;" } : Jvm.MethodName) jdk_56_method_3_code (2 : Nat) (Option.some (Jvm.ClassFile.FieldType.object "java/util/List"))) a0 Z = true := hw _ (List.mem_of_getElem? (i := 136) rfl)
theorem w_133 {a0 : Array Value} {Z : State} (hw : ∀ d ∈ tables_1, d.before a0 Z = true) : Jvm.Cond.before (Jvm.Cond.methodLink "java/util/List" (112 : Nat) ({ cls := "java/util/ImmutableCollections", name := "listCopy", desc := "(Ljava/util/Collection;)Ljava/util/List;" } : Jvm.MethodName)) a0 Z = true := hw _ (List.mem_of_getElem? (i := 133) rfl)
theorem w_134 {a0 : Array Value} {Z : State} (hw : ∀ d ∈ tables_1, d.before a0 Z = true) : Jvm.Cond.before (Jvm.Cond.static ({ cls := "java/util/ImmutableCollections", name := "listCopy", desc := "(Ljava/util/Collection;)Ljava/util/List;" } : Jvm.MethodName)) a0 Z = true := hw _ (List.mem_of_getElem? (i := 134) rfl)
theorem d16_4 : decode jdk_40_method_48_code 4 = .ok (.areturn, 1) := by decide +kernel
abbrev y_27 : MethodName := ⟨"java/util/List", "copyOf", "(Ljava/util/Collection;)Ljava/util/List;"⟩
-- java/util/List.copyOf(Ljava/util/Collection;)Ljava/util/List;
abbrev Rm27 : Room := { frames := 7, cells := 2, slots := 4, locals := 89 }
def Q27 (Z : State) (a1 : Addr) (a2 : Addr) (a3 : Addr) (a4 : Addr) (k5 : ClassId) (h0 : Heap) (n0 : Nat) (v : Option Value) (h : Heap) (L : List Loc) : Prop := ∃ b6_b10_b5 : Addr, v = some (.ref b6_b10_b5) ∧ Fr n0 L ∧ Keep h0 h [] ∧ h0.size ≤ b6_b10_b5 ∧ Exa Z h b6_b10_b5 "java/util/ImmutableCollections$List12" ∧ Fld Z h b6_b10_b5 "java/util/ImmutableCollections$List12" "e0" "Ljava/lang/Object;" (.ref a4) ∧ Fld Z h b6_b10_b5 "java/util/ImmutableCollections$List12" "e1" "Ljava/lang/Object;" (.ref a4)
theorem ef27 (a1 : Addr) (m : MethodId) : entryFrame m #[(.ref a1)] 1 = mkF m 0 #[.val (.ref a1)] [] := by first | (simp [entryFrame, mkF, argsToLocals, Value.category]; done) | rfl
theorem rm27 (l : Launch) (Z : State) (a0 : Array Value) (hw : ∀ d ∈ tables_1, d.before a0 Z = true) (ws : List Jvm.Cond) (a1 : Addr) (a2 : Addr) (a3 : Addr) (a4 : Addr) (k5 : ClassId) (h0 : Heap) (n0 : Nat) (Z0 : n0 ≤ h0.size) (E_a1 : Exa Z h0 a1 "java/util/ArrayList") (F_size_a1 : Fld Z h0 a1 "java/util/ArrayList" "size" "I" (.int (2 : Int32))) (F_elementData_a1 : Fld Z h0 a1 "java/util/ArrayList" "elementData" "[Ljava/lang/Object;" (.ref a2)) (E_a2 : Exa Z h0 a2 "[Ljava/lang/Object;") (M_1 : OwnMir Z "[Ljava/lang/Object;" a3) (V_a2 : Arv Z h0 a2 k5 (.object "java/lang/Object") (10 : Int32) [(.ref a4), (.ref a4), .null, .null, .null, .null, .null, .null, .null, .null] .null) (E_a4 : Exa Z h0 a4 "com/example/feedergen/feedergen/core/GeoPoint") :
    OwnMet l Z y_27 jdk_40_method_48_code 1 (some (.object "java/util/List")) ws Rm27 #[(.ref a1)] h0 (Q27 Z a1 a2 a3 a4 k5 h0 n0) := by
  refine own_body (plainFor_of_name pn_12) (ef27 a1) ?_
  intro p e s m below meth c s₁ hx hby hml hown hnm hret hZ X0 e0
  have N0 := Fr.nil n0
  obtain ⟨_, T6, L6, X6, hQ6, st6⟩ := own_callS X0 hx hZ hown (y := y_26) (w_133 hw) (w_134 hw) (w_135 hw) (w_136 hw) (rm26 l Z a0 hw [] a1 a2 a3 a4 k5 h0 n0 Z0 E_a1 F_size_a1 F_elementData_a1 E_a2 M_1 V_a2 E_a4) e0 (Ls := #[.val (.ref a1)]) (by rw [hml]; rfl) (argsL := [(.ref a1)]) (rest := []) (lenOf pd_16 rfl) (hb hby d16_1) (W := 0)
  obtain ⟨b6_b10_b5, rfl, Nq6, K6, o6_0, o6_1, o6_2, o6_3⟩ := hQ6
  have N6 := Fr.app N0 Nq6
  have s0 := K6.1
  have sz_b6_b10_b5 : h0.size ≤ b6_b10_b5 := o6_0
  have Kp0 : Keep h0 T6.heap [] := (Keep.refl h0 []).trans K6 all0
  refine ⟨T6, _, _, _, (some (.ref b6_b10_b5)), X6, nofun, by decide, by decide, ?_, fun fs hr => ?_⟩
  · show Q27 Z a1 a2 a3 a4 k5 h0 n0 _ T6.heap _
    exact ⟨b6_b10_b5, rfl, N6, Kp0, sz_b6_b10_b5, o6_1, o6_2, o6_3⟩
  · show Steps p.tables e below (s₁.setTop (mkF m 0 #[.val (.ref a1)] [])) _
    refine XS.aloadN X0.here hx rfl (hb hby d16_0) rfl rfl ?_
    refine st6 _ ?_
    exact retOut X6 hx hret rfl (Or.inr (Or.inr (Or.inr (Or.inr ⟨rfl, rfl, rfl⟩)))) (hb hby d16_4) hr
theorem w_132 {a0 : Array Value} {Z : State} (hw : ∀ d ∈ tables_1, d.before a0 Z = true) : Jvm.Cond.before (Jvm.Cond.code ({ cls := "java/util/List", name := "copyOf", desc := "(Ljava/util/Collection;)Ljava/util/List;" } : Jvm.MethodName) jdk_40_method_48_code (1 : Nat) (Option.some (Jvm.ClassFile.FieldType.object "java/util/List"))) a0 Z = true := hw _ (List.mem_of_getElem? (i := 132) rfl)
theorem w_129 {a0 : Array Value} {Z : State} (hw : ∀ d ∈ tables_1, d.before a0 Z = true) : Jvm.Cond.before (Jvm.Cond.methodLink "com/example/feedergen/feedergen/core/StreetLink" (34 : Nat) ({ cls := "java/util/List", name := "copyOf", desc := "(Ljava/util/Collection;)Ljava/util/List;" } : Jvm.MethodName)) a0 Z = true := hw _ (List.mem_of_getElem? (i := 129) rfl)
theorem w_130 {a0 : Array Value} {Z : State} (hw : ∀ d ∈ tables_1, d.before a0 Z = true) : Jvm.Cond.before (Jvm.Cond.static ({ cls := "java/util/List", name := "copyOf", desc := "(Ljava/util/Collection;)Ljava/util/List;" } : Jvm.MethodName)) a0 Z = true := hw _ (List.mem_of_getElem? (i := 130) rfl)
theorem d14_58 : decode prog_31_method_1_code 58 = .ok (.astore_n 3, 1) := by decide +kernel
theorem d14_59 : decode prog_31_method_1_code 59 = .ok (.aload_n 0, 1) := by decide +kernel
theorem d14_60 : decode prog_31_method_1_code 60 = .ok (.aload_n 1, 1) := by decide +kernel
theorem d14_61 : decode prog_31_method_1_code 61 = .ok (.putfield 38, 3) := by decide +kernel
theorem w_214 {a0 : Array Value} {Z : State} (hw : ∀ d ∈ tables_1, d.before a0 Z = true) : Jvm.Cond.before (Jvm.Cond.fieldLink "com/example/feedergen/feedergen/core/StreetLink" (38 : Nat) "com/example/feedergen/feedergen/core/StreetLink" "way" "Lcom/example/feedergen/feedergen/core/StreetWay;") a0 Z = true := hw _ (List.mem_of_getElem? (i := 214) rfl)
theorem d14_64 : decode prog_31_method_1_code 64 = .ok (.aload_n 0, 1) := by decide +kernel
theorem d14_65 : decode prog_31_method_1_code 65 = .ok (.aload_n 2, 1) := by decide +kernel
theorem d14_66 : decode prog_31_method_1_code 66 = .ok (.putfield 44, 3) := by decide +kernel
theorem w_216 {a0 : Array Value} {Z : State} (hw : ∀ d ∈ tables_1, d.before a0 Z = true) : Jvm.Cond.before (Jvm.Cond.fieldLink "com/example/feedergen/feedergen/core/StreetLink" (44 : Nat) "com/example/feedergen/feedergen/core/StreetLink" "nodes" "[J") a0 Z = true := hw _ (List.mem_of_getElem? (i := 216) rfl)
theorem d14_69 : decode prog_31_method_1_code 69 = .ok (.aload_n 0, 1) := by decide +kernel
theorem d14_70 : decode prog_31_method_1_code 70 = .ok (.aload_n 3, 1) := by decide +kernel
theorem d14_71 : decode prog_31_method_1_code 71 = .ok (.putfield 47, 3) := by decide +kernel
theorem w_218 {a0 : Array Value} {Z : State} (hw : ∀ d ∈ tables_1, d.before a0 Z = true) : Jvm.Cond.before (Jvm.Cond.fieldLink "com/example/feedergen/feedergen/core/StreetLink" (47 : Nat) "com/example/feedergen/feedergen/core/StreetLink" "points" "Ljava/util/List;") a0 Z = true := hw _ (List.mem_of_getElem? (i := 218) rfl)
theorem d14_74 : decode prog_31_method_1_code 74 = .ok (.return_, 1) := by decide +kernel
abbrev y_28 : MethodName := ⟨"com/example/feedergen/feedergen/core/StreetLink", "<init>", "(Lcom/example/feedergen/feedergen/core/StreetWay;[JLjava/util/List;)V"⟩
theorem pn_14 : plainName "com/example/feedergen/feedergen/core/StreetLink" = true := by first | (simp [plainName, overriddenIn]; done) | decide +kernel
-- com/example/feedergen/feedergen/core/StreetLink.<init>(Lcom/example/feedergen/feedergen/core/StreetWay;[JLjava/util/List;)V
abbrev Rm28 : Room := { frames := 8, cells := 3, slots := 6, locals := 101 }
def Q28 (Z : State) (a1 : Addr) (a2 : Addr) (a3 : Addr) (a4 : Addr) (q6 : Int64) (q7 : Int64) (k8 : ClassId) (a15 : Addr) (a18 : Addr) (a19 : Addr) (k20 : ClassId) (h0 : Heap) (n0 : Nat) (v : Option Value) (h : Heap) (L : List Loc) : Prop := ∃ b11 : Addr, ∃ b23_b6_b10_b5 : Addr, v = none ∧ Fr n0 L ∧ Keep h0 h [a1] ∧ Exa Z h a1 "com/example/feedergen/feedergen/core/StreetLink" ∧ Fld Z h a1 "com/example/feedergen/feedergen/core/StreetLink" "nodes" "[J" (.ref b11) ∧ Fld Z h a1 "com/example/feedergen/feedergen/core/StreetLink" "points" "Ljava/util/List;" (.ref b23_b6_b10_b5) ∧ Fld Z h a1 "com/example/feedergen/feedergen/core/StreetLink" "way" "Lcom/example/feedergen/feedergen/core/StreetWay;" (.ref a2) ∧ h0.size ≤ b11 ∧ Exa Z h b11 "[J" ∧ Arv Z h b11 k8 .long (2 : Int32) [(.long q6), (.long q7)] (.long (0 : Int64)) ∧ h0.size ≤ b23_b6_b10_b5 ∧ Exa Z h b23_b6_b10_b5 "java/util/ImmutableCollections$List12" ∧ Fld Z h b23_b6_b10_b5 "java/util/ImmutableCollections$List12" "e0" "Ljava/lang/Object;" (.ref a19) ∧ Fld Z h b23_b6_b10_b5 "java/util/ImmutableCollections$List12" "e1" "Ljava/lang/Object;" (.ref a19) ∧ b11 ≠ b23_b6_b10_b5
theorem ef28 (a1 : Addr) (a2 : Addr) (a3 : Addr) (a4 : Addr) (m : MethodId) : entryFrame m #[(.ref a1), (.ref a2), (.ref a3), (.ref a4)] 4 = mkF m 0 #[.val (.ref a1), .val (.ref a2), .val (.ref a3), .val (.ref a4)] [] := by first | (simp [entryFrame, mkF, argsToLocals, Value.category]; done) | rfl
theorem rm28 (l : Launch) (Z : State) (a0 : Array Value) (hw : ∀ d ∈ tables_1, d.before a0 Z = true) (ws : List Jvm.Cond) (a1 : Addr) (a2 : Addr) (a3 : Addr) (a4 : Addr) (q6 : Int64) (q7 : Int64) (k8 : ClassId) (a15 : Addr) (a18 : Addr) (a19 : Addr) (k20 : ClassId) (h0 : Heap) (n0 : Nat) (Z0 : n0 ≤ h0.size) (V_a3 : Arv Z h0 a3 k8 .long (2 : Int32) [(.long q6), (.long q7)] (.long (0 : Int64))) (E_a4 : Exa Z h0 a4 "java/util/ArrayList") (F_size_a4 : Fld Z h0 a4 "java/util/ArrayList" "size" "I" (.int (2 : Int32))) (E_a3 : Exa Z h0 a3 "[J") (F_elementData_a4 : Fld Z h0 a4 "java/util/ArrayList" "elementData" "[Ljava/lang/Object;" (.ref a15)) (E_a15 : Exa Z h0 a15 "[Ljava/lang/Object;") (M_1 : OwnMir Z "[Ljava/lang/Object;" a18) (V_a15 : Arv Z h0 a15 k20 (.object "java/lang/Object") (10 : Int32) [(.ref a19), (.ref a19), .null, .null, .null, .null, .null, .null, .null, .null] .null) (E_a19 : Exa Z h0 a19 "com/example/feedergen/feedergen/core/GeoPoint") (F_way_a1 : Fld Z h0 a1 "com/example/feedergen/feedergen/core/StreetLink" "way" "Lcom/example/feedergen/feedergen/core/StreetWay;" .null) (E_a1 : Exa Z h0 a1 "com/example/feedergen/feedergen/core/StreetLink") (g_a1 : n0 ≤ a1) (F_nodes_a1 : Fld Z h0 a1 "com/example/feedergen/feedergen/core/StreetLink" "nodes" "[J" .null) (F_points_a1 : Fld Z h0 a1 "com/example/feedergen/feedergen/core/StreetLink" "points" "Ljava/util/List;" .null) :
    OwnMet l Z y_28 prog_31_method_1_code 4 none ws Rm28 #[(.ref a1), (.ref a2), (.ref a3), (.ref a4)] h0 (Q28 Z a1 a2 a3 a4 q6 q7 k8 a15 a18 a19 k20 h0 n0) := by
  refine own_body (plainFor_of_name pn_14) (ef28 a1 a2 a3 a4) ?_
  intro p e s m below meth c s₁ hx hby hml hown hnm hret hZ X0 e0
  have N0 := Fr.nil n0
  obtain ⟨_, T5, L5, X5, hQ5, st5⟩ := own_special X0 hx hZ hown (y := y_0) (a := a1) (w_117 hw) (w_9 hw) (w_11 hw) (w_12 hw) (rm1 l Z a0 hw [] a1 h0 n0 Z0) e0 (Ls := #[.val (.ref a1), .val (.ref a2), .val (.ref a3), .val (.ref a4)]) (by rw [hml]; rfl) (argsL := []) (rest := []) (lenOf pd_0 rfl) (hb hby d14_1) (W := 0)
  obtain ⟨rfl, Nq5, e5⟩ := hQ5
  have N5 := Fr.app N0 Nq5
  obtain ⟨cl9, Ar9, q9, S9, M9, Hs9, G9⟩ := id V_a3
  obtain ⟨_, T10, L10, X10, hQ10, st10⟩ := own_iface X5 hx hZ hown (y := y_13) (z := y_12) E_a4 (w_118 hw) (w_119 hw) (w_120 hw) (w_121 hw) (w_122 hw) (w_123 hw) (w_124 hw) (w_125 hw) (w_30 hw) (w_126 hw) (rm15 l Z a0 hw [] a4 h0 n0 Z0 F_size_a4) e5 (Ls := #[.val (.ref a1), .val (.ref a2), .val (.ref a3), .val (.ref a4)]) (by rw [hml]; rfl) (argsL := []) (rest := []) (lenOf pd_9 rfl) (hb hby d14_11) (W := 0)
  obtain ⟨rfl, Nq10, e10⟩ := hQ10
  have N10 := Fr.app N5 Nq10
  obtain ⟨T11, h11, X11, e11, E11, V11, B11, st11⟩ := cloneH X10 hx hZ hown (w_127 hw) (w_91 hw) (w_95 hw) (w_93 hw) (w_94 hw) (w_96 hw) e10 (Arv.arh V_a3) E_a3 (g := (mkF m 47 #[.val (.ref a1), .val (.ref a2), .val (.ref a3), .val (.ref a4)] [(.ref a3)])) rfl (by rw [hml]; rfl) rfl (hb hby d14_47) (by decide) (W := 0) (cap := 2) (by show 2 * 0 + _ ≤ _; exact Nat.le_of_eq rfl) (by decide) (by decide) (by decide) (by decide)
  obtain ⟨b11, g11⟩ : ∃ z, z = h0.size := ⟨_, rfl⟩
  rw [← g11] at V11 B11 st11
  have s0 := E11.1
  have Vn11 : Arv Z h11 b11 k8 .long (2 : Int32) [(.long q6), (.long q7)] (.long (0 : Int64)) := own_arv_of_arh V11
  obtain ⟨T12, X12, e12, st12⟩ := castY X11 hx hZ hown (w_128 hw) e11 (Ins.self B11) (g := (mkF m 50 #[.val (.ref a1), .val (.ref a2), .val (.ref a3), .val (.ref a4)] [(.ref b11)])) rfl rfl (hb hby d14_50)
  have Ex13 := (E_a4.ext E11)
  have Fl14 := (F_size_a4.ext E11)
  have Fl16 := (F_elementData_a4.ext E11)
  have Ex17 := (E_a15.ext E11)
  have Va21 := (V_a15.ext E11)
  have Ex22 := (E_a19.ext E11)
  have z1 := Nat.le_trans Z0 s0
  obtain ⟨_, T23, L23, X23, hQ23, st23⟩ := own_callS X12 hx hZ hown (y := y_27) (w_129 hw) (w_130 hw) (w_131 hw) (w_132 hw) (rm27 l Z a0 hw [] a4 a15 a18 a19 k20 h11 n0 z1 Ex13 Fl14 Fl16 Ex17 M_1 Va21 Ex22) e12 (Ls := #[.val (.ref a1), .val (.ref a2), .val (.ref b11), .val (.ref a4)]) (by rw [hml]; rfl) (argsL := [(.ref a4)]) (rest := []) (lenOf pd_16 rfl) (hb hby d14_55) (W := 0)
  obtain ⟨b23_b6_b10_b5, rfl, Nq23, K23, o23_0, o23_1, o23_2, o23_3⟩ := hQ23
  have N23 := Fr.app N10 Nq23
  have s1 := K23.1
  have Fl24 := ((F_way_a1.ext E11).keep K23 nin0)
  have Ex25 := ((E_a1.ext E11).keep K23)
  obtain ⟨T26, h26, X26, e26, W26, st26⟩ := putF X23 hx hZ hown (host := "") (Or.inl (w_214 hw)) Via.refl rfl Fl24 Ex25 (Or.inr ⟨(w_215 hw), rfl, hnm⟩) (w_112 hw) (ty := (.object "com/example/feedergen/feedergen/core/StreetWay")) (by decide) rfl rfl (g := (mkF m 61 #[.val (.ref a1), .val (.ref a2), .val (.ref b11), .val (.ref b23_b6_b10_b5)] [(.ref a2), (.ref a1)])) rfl rfl (hb hby d14_61)
  have s2 := (Keep.of_wr W26).1
  have N26 := Fr.snoc X26 N23 g_a1
  have Fw26 : Fld Z h26 a1 "com/example/feedergen/feedergen/core/StreetLink" "way" "Lcom/example/feedergen/feedergen/core/StreetWay;" (.ref a2) := Fl24.same W26
  have Ex27 := (Ex25.wr W26)
  have Fl28 := (((F_nodes_a1.ext E11).keep K23 nin0).other W26 (Or.inr (slot_ne (Or.inr (w_217 hw)) (Or.inr (w_215 hw)) (by decide) (t := (.array .long)) (t' := (.object "com/example/feedergen/feedergen/core/StreetWay")) (by decide) (by decide))))
  obtain ⟨T29, h29, X29, e29, W29, st29⟩ := putF X26 hx hZ hown (host := "") (Or.inl (w_216 hw)) Via.refl e26 Fl28 Ex27 (Or.inr ⟨(w_217 hw), rfl, hnm⟩) (w_112 hw) (ty := (.array .long)) (by decide) rfl rfl (g := (mkF m 66 #[.val (.ref a1), .val (.ref a2), .val (.ref b11), .val (.ref b23_b6_b10_b5)] [(.ref b11), (.ref a1)])) rfl rfl (hb hby d14_66)
  have s3 := (Keep.of_wr W29).1
  have N29 := Fr.snoc X29 N26 g_a1
  have Fw29 : Fld Z h29 a1 "com/example/feedergen/feedergen/core/StreetLink" "nodes" "[J" (.ref b11) := Fl28.same W29
  have Ex30 := (Ex27.wr W29)
  have Fl31 := ((((F_points_a1.ext E11).keep K23 nin0).other W26 (Or.inr (slot_ne (Or.inr (w_219 hw)) (Or.inr (w_215 hw)) (by decide) (t := (.object "java/util/List")) (t' := (.object "com/example/feedergen/feedergen/core/StreetWay")) (by decide) (by decide)))).other W29 (Or.inr (slot_ne (Or.inr (w_219 hw)) (Or.inr (w_217 hw)) (by decide) (t := (.object "java/util/List")) (t' := (.array .long)) (by decide) (by decide))))
  obtain ⟨T32, h32, X32, e32, W32, st32⟩ := putF X29 hx hZ hown (host := "") (Or.inl (w_218 hw)) Via.refl e29 Fl31 Ex30 (Or.inr ⟨(w_219 hw), rfl, hnm⟩) (w_112 hw) (ty := (.object "java/util/List")) (by decide) rfl rfl (g := (mkF m 71 #[.val (.ref a1), .val (.ref a2), .val (.ref b11), .val (.ref b23_b6_b10_b5)] [(.ref b23_b6_b10_b5), (.ref a1)])) rfl rfl (hb hby d14_71)
  have s4 := (Keep.of_wr W32).1
  have N32 := Fr.snoc X32 N29 g_a1
  have Fw32 : Fld Z h32 a1 "com/example/feedergen/feedergen/core/StreetLink" "points" "Ljava/util/List;" (.ref b23_b6_b10_b5) := Fl31.same W32
  have Ex33 := (Ex30.wr W32)
  have Fl34 := (Fw29.other W32 (Or.inr (slot_ne (Or.inr (w_217 hw)) (Or.inr (w_219 hw)) (by decide) (t := (.array .long)) (t' := (.object "java/util/List")) (by decide) (by decide))))
  have Fl35 := ((Fw26.other W29 (Or.inr (slot_ne (Or.inr (w_215 hw)) (Or.inr (w_217 hw)) (by decide) (t := (.object "com/example/feedergen/feedergen/core/StreetWay")) (t' := (.array .long)) (by decide) (by decide)))).other W32 (Or.inr (slot_ne (Or.inr (w_215 hw)) (Or.inr (w_219 hw)) (by decide) (t := (.object "com/example/feedergen/feedergen/core/StreetWay")) (t' := (.object "java/util/List")) (by decide) (by decide))))
  have sz_b11 : h0.size ≤ b11 := (Nat.le_of_eq g11.symm)
  have Ex36 := ((((B11.keep K23).wr W26).wr W29).wr W32)
  have ne_a1_b11 := Nat.ne_of_lt (Nat.lt_of_lt_of_le F_way_a1.lt (Nat.le_of_eq g11.symm))
  have Va37 := ((((Vn11.keep K23 nin0).other W26 (Ne.symm ne_a1_b11)).other W29 (Ne.symm ne_a1_b11)).other W32 (Ne.symm ne_a1_b11))
  have sz_b23_b6_b10_b5 : h0.size ≤ b23_b6_b10_b5 := Nat.le_trans s0 o23_0
  have Ex38 := (((o23_1.wr W26).wr W29).wr W32)
  have ne_a1_b23_b6_b10_b5 := Nat.ne_of_lt (Nat.lt_of_lt_of_le (Nat.lt_of_lt_of_le F_way_a1.lt s0) o23_0)
  have Fl39 := (((o23_2.other W26 (Or.inl (Ne.symm ne_a1_b23_b6_b10_b5))).other W29 (Or.inl (Ne.symm ne_a1_b23_b6_b10_b5))).other W32 (Or.inl (Ne.symm ne_a1_b23_b6_b10_b5)))
  have Fl40 := (((o23_3.other W26 (Or.inl (Ne.symm ne_a1_b23_b6_b10_b5))).other W29 (Or.inl (Ne.symm ne_a1_b23_b6_b10_b5))).other W32 (Or.inl (Ne.symm ne_a1_b23_b6_b10_b5)))
  have ne_b11_b23_b6_b10_b5 := Nat.ne_of_lt (Nat.lt_of_lt_of_le Vn11.lt o23_0)
  have Kp0 : Keep h0 h11 [a1] := (Keep.refl h0 [a1]).ext E11
  have Kp1 : Keep h0 T23.heap [a1] := Kp0.trans K23 all0
  have Kp2 : Keep h0 h26 [a1] := Kp1.wr W26 (Or.inl (List.mem_of_getElem? (i := 0) rfl))
  have Kp3 : Keep h0 h29 [a1] := Kp2.wr W29 (Or.inl (List.mem_of_getElem? (i := 0) rfl))
  have Kp4 : Keep h0 h32 [a1] := Kp3.wr W32 (Or.inl (List.mem_of_getElem? (i := 0) rfl))
  refine ⟨T32, _, _, _, none, X32, (fun _ => rfl), by decide, by decide, ?_, fun fs hr => ?_⟩
  · show Q28 Z a1 a2 a3 a4 q6 q7 k8 a15 a18 a19 k20 h0 n0 _ T32.heap _
    rw [e32]
    exact ⟨b11, b23_b6_b10_b5, rfl, N32, Kp4, Ex33, Fl34, Fw32, Fl35, sz_b11, Ex36, Va37, sz_b23_b6_b10_b5, Ex38, Fl39, Fl40, ne_b11_b23_b6_b10_b5⟩
  · show Steps p.tables e below (s₁.setTop (mkF m 0 #[.val (.ref a1), .val (.ref a2), .val (.ref a3), .val (.ref a4)] [])) _
    refine XS.aloadN X0.here hx rfl (hb hby d14_0) rfl rfl ?_
    refine st5 _ ?_
    refine XS.aloadN X5.here hx rfl (hb hby d14_4) rfl rfl ?_
    refine X5.arraylength hx (by rw [e5]; exact Ar9.1) (State.isArrayOf_alike hZ.alike Ar9.2.1) (g := (mkF m 5 #[.val (.ref a1), .val (.ref a2), .val (.ref a3), .val (.ref a4)] [(.ref a3)])) rfl rfl (hb hby d14_5) _ ?_
    show Steps p.tables e below (T5.setTop (mkF m 6 #[.val (.ref a1), .val (.ref a2), .val (.ref a3), .val (.ref a4)] [(.int cl9.slots.size.toInt32)])) _
    rw [len_of S9 M9]
    refine XS.iconst X5.here hx rfl (hb hby d14_6) ?_
    refine XS.icmpNo X5.here hx rfl (hb hby d14_7) rfl (flt ((by decide : ¬ ((2 : Int32) < (2 : Int32))) : ¬ ((2 : Int32) < (2 : Int32)))).1 ?_
    refine XS.aloadN X5.here hx rfl (hb hby d14_10) rfl rfl ?_
    refine st10 _ ?_
    refine XS.aloadN X10.here hx rfl (hb hby d14_16) rfl rfl ?_
    refine X10.arraylength hx (by rw [e10]; exact Ar9.1) (State.isArrayOf_alike hZ.alike Ar9.2.1) (g := (mkF m 17 #[.val (.ref a1), .val (.ref a2), .val (.ref a3), .val (.ref a4)] [(.ref a3), (.int (2 : Int32))])) rfl rfl (hb hby d14_17) _ ?_
    show Steps p.tables e below (T10.setTop (mkF m 18 #[.val (.ref a1), .val (.ref a2), .val (.ref a3), .val (.ref a4)] [(.int cl9.slots.size.toInt32), (.int (2 : Int32))])) _
    rw [len_of S9 M9]
    refine XS.icmpYes X10.here hx rfl (pc0 := 18) (pc' := 46) rfl (hb hby d14_18) rfl (teq ((by decide : (2 : Int32) = (2 : Int32)) : (2 : Int32) = (2 : Int32))).1 (by decide) (by decide) ?_
    refine XS.aloadN X10.here hx rfl (hb hby d14_46) rfl rfl ?_
    refine st11 _ ?_
    refine st12 _ ?_
    refine XS.astoreN X12.here hx rfl (hb hby d14_53) rfl rfl (l' := #[.val (.ref a1), .val (.ref a2), .val (.ref b11), .val (.ref a4)]) rfl ?_
    refine XS.aloadN X12.here hx rfl (hb hby d14_54) rfl rfl ?_
    refine st23 _ ?_
    refine XS.astoreN X23.here hx rfl (hb hby d14_58) rfl rfl (l' := #[.val (.ref a1), .val (.ref a2), .val (.ref b11), .val (.ref b23_b6_b10_b5)]) rfl ?_
    refine XS.aloadN X23.here hx rfl (hb hby d14_59) rfl rfl ?_
    refine XS.aloadN X23.here hx rfl (hb hby d14_60) rfl rfl ?_
    refine st26 _ ?_
    show Steps p.tables e below (T26.setTop (mkF m 64 #[.val (.ref a1), .val (.ref a2), .val (.ref b11), .val (.ref b23_b6_b10_b5)] [])) _
    refine XS.aloadN X26.here hx rfl (hb hby d14_64) rfl rfl ?_
    refine XS.aloadN X26.here hx rfl (hb hby d14_65) rfl rfl ?_
    refine st29 _ ?_
    refine XS.aloadN X29.here hx rfl (hb hby d14_69) rfl rfl ?_
    refine XS.aloadN X29.here hx rfl (hb hby d14_70) rfl rfl ?_
    refine st32 _ ?_
    exact X32.returnOut hx hret (hb hby d14_74) hr
theorem pd_17 : parseMethodDescriptor "(Lcom/example/feedergen/feedergen/core/StreetWay;[JLjava/util/List;)V" = some ⟨[(.object "com/example/feedergen/feedergen/core/StreetWay"), (.array .long), (.object "java/util/List")], none⟩ := by decide +kernel
theorem w_116 {a0 : Array Value} {Z : State} (hw : ∀ d ∈ tables_1, d.before a0 Z = true) : Jvm.Cond.before (Jvm.Cond.code ({ cls := "com/example/feedergen/feedergen/core/StreetLink", name := "<init>", desc := "(Lcom/example/feedergen/feedergen/core/StreetWay;[JLjava/util/List;)V" } : Jvm.MethodName) prog_31_method_1_code (4 : Nat) (Option.none : Option Jvm.ClassFile.FieldType)) a0 Z = true := hw _ (List.mem_of_getElem? (i := 116) rfl)
theorem w_114 {a0 : Array Value} {Z : State} (hw : ∀ d ∈ tables_1, d.before a0 Z = true) : Jvm.Cond.before (Jvm.Cond.methodLink "com/example/feedergen/feedergen/core/StreetLinkLastPinLaw" (27 : Nat) ({ cls := "com/example/feedergen/feedergen/core/StreetLink", name := "<init>", desc := "(Lcom/example/feedergen/feedergen/core/StreetWay;[JLjava/util/List;)V" } : Jvm.MethodName)) a0 Z = true := hw _ (List.mem_of_getElem? (i := 114) rfl)
theorem w_115 {a0 : Array Value} {Z : State} (hw : ∀ d ∈ tables_1, d.before a0 Z = true) : Jvm.Cond.before (Jvm.Cond.instanceMethod ({ cls := "com/example/feedergen/feedergen/core/StreetLink", name := "<init>", desc := "(Lcom/example/feedergen/feedergen/core/StreetWay;[JLjava/util/List;)V" } : Jvm.MethodName)) a0 Z = true := hw _ (List.mem_of_getElem? (i := 115) rfl)
theorem d28_0 : decode prog_31_method_3_code 0 = .ok (.aload_n 0, 1) := by decide +kernel
theorem d28_1 : decode prog_31_method_3_code 1 = .ok (.getfield 44, 3) := by decide +kernel
theorem d28_4 : decode prog_31_method_3_code 4 = .ok (.aload_n 0, 1) := by decide +kernel
theorem d28_5 : decode prog_31_method_3_code 5 = .ok (.getfield 44, 3) := by decide +kernel
theorem d28_8 : decode prog_31_method_3_code 8 = .ok (.arraylength, 1) := by decide +kernel
theorem d28_9 : decode prog_31_method_3_code 9 = .ok (.iconst 1, 1) := by decide +kernel
theorem d28_10 : decode prog_31_method_3_code 10 = .ok (.isub, 1) := by decide +kernel
theorem d28_11 : decode prog_31_method_3_code 11 = .ok (.laload, 1) := by decide +kernel
theorem d28_12 : decode prog_31_method_3_code 12 = .ok (.lreturn, 1) := by decide +kernel
abbrev y_29 : MethodName := ⟨"com/example/feedergen/feedergen/core/StreetLink", "last", "()J"⟩
-- com/example/feedergen/feedergen/core/StreetLink.last()J
abbrev Rm29 : Room := { frames := 0, cells := 0, slots := 0, locals := 0 }
def Q29 (Z : State) (a1 : Addr) (a2 : Addr) (q5 : Int64) (q6 : Int64) (k7 : ClassId) (h0 : Heap) (n0 : Nat) (v : Option Value) (h : Heap) (L : List Loc) : Prop := v = some (.long q6) ∧ Fr n0 L ∧ h = h0
theorem ef29 (a1 : Addr) (m : MethodId) : entryFrame m #[(.ref a1)] 1 = mkF m 0 #[.val (.ref a1)] [] := by first | (simp [entryFrame, mkF, argsToLocals, Value.category]; done) | rfl
theorem rm29 (l : Launch) (Z : State) (a0 : Array Value) (hw : ∀ d ∈ tables_1, d.before a0 Z = true) (ws : List Jvm.Cond) (a1 : Addr) (a2 : Addr) (q5 : Int64) (q6 : Int64) (k7 : ClassId) (h0 : Heap) (n0 : Nat) (Z0 : n0 ≤ h0.size) (F_nodes_a1 : Fld Z h0 a1 "com/example/feedergen/feedergen/core/StreetLink" "nodes" "[J" (.ref a2)) (V_a2 : Arv Z h0 a2 k7 .long (2 : Int32) [(.long q5), (.long q6)] (.long (0 : Int64))) :
    OwnMet l Z y_29 prog_31_method_3_code 1 (some .long) ws Rm29 #[(.ref a1)] h0 (Q29 Z a1 a2 q5 q6 k7 h0 n0) := by
  refine own_body (plainFor_of_name pn_14) (ef29 a1) ?_
  intro p e s m below meth c s₁ hx hby hml hown hnm hret hZ X0 e0
  have N0 := Fr.nil n0
  obtain ⟨T3, X3, e3, st3⟩ := getF X0 hx hZ hown (host := "") (Or.inl (w_216 hw)) Via.refl e0 F_nodes_a1 (g := (mkF m 1 #[.val (.ref a1)] [(.ref a1)])) rfl rfl (hb hby d28_1)
  obtain ⟨T4, X4, e4, st4⟩ := getF X3 hx hZ hown (host := "") (Or.inl (w_216 hw)) Via.refl e3 F_nodes_a1 (g := (mkF m 5 #[.val (.ref a1)] [(.ref a1), (.ref a2)])) rfl rfl (hb hby d28_5)
  obtain ⟨cl8, Ar8, q8, S8, M8, Hs8, G8⟩ := id V_a2
  have hin9 : ¬ ((1 : Int32) < 0 ∨ cl8.slots.size ≤ ((1 : Int32)).toNatClampNeg) := inb_of S8 ⟨(by decide : ¬ ((1 : Int32) < (0 : Int32))), (by decide : (1 : Int32) < (2 : Int32))⟩
  refine ⟨T4, _, _, _, (some (.long q6)), X4, nofun, by decide, by decide, ?_, fun fs hr => ?_⟩
  · show Q29 Z a1 a2 q5 q6 k7 h0 n0 _ T4.heap _
    rw [e4]
    exact ⟨rfl, N0, rfl⟩
  · show Steps p.tables e below (s₁.setTop (mkF m 0 #[.val (.ref a1)] [])) _
    refine XS.aloadN X0.here hx rfl (hb hby d28_0) rfl rfl ?_
    refine st3 _ ?_
    refine XS.aloadN X3.here hx rfl (hb hby d28_4) rfl rfl ?_
    refine st4 _ ?_
    refine X4.arraylength hx (by rw [e4]; exact Ar8.1) (State.isArrayOf_alike hZ.alike Ar8.2.1) (g := (mkF m 8 #[.val (.ref a1)] [(.ref a2), (.ref a2)])) rfl rfl (hb hby d28_8) _ ?_
    show Steps p.tables e below (T4.setTop (mkF m 9 #[.val (.ref a1)] [(.int cl8.slots.size.toInt32), (.ref a2)])) _
    rw [len_of S8 M8]
    refine XS.iconst X4.here hx rfl (hb hby d28_9) ?_
    refine XS.isub X4.here hx rfl (hb hby d28_10) rfl ?_
    refine X4.laload hx (j := (1 : Int32)) (v := (.long q6)) (by rw [e4]; exact Ar8.1) (State.isArrayOf_alike hZ.alike Ar8.2.1) Ar8.2.2 hin9 (Has.at Hs8 hin9 rfl) (g := (mkF m 11 #[.val (.ref a1)] [(.int (1 : Int32)), (.ref a2)])) rfl rfl (hb hby d28_11) _ ?_
    exact retOut X4 hx hret rfl (Or.inr (Or.inl ⟨rfl, rfl, _, rfl⟩)) (hb hby d28_12) hr
theorem pd_18 : parseMethodDescriptor "()J" = some ⟨[], some .long⟩ := by decide +kernel
theorem w_224 {a0 : Array Value} {Z : State} (hw : ∀ d ∈ tables_1, d.before a0 Z = true) : Jvm.Cond.before (Jvm.Cond.code ({ cls := "com/example/feedergen/feedergen/core/StreetLink", name := "last", desc := "()J" } : Jvm.MethodName) prog_31_method_3_code (1 : Nat) (Option.some Jvm.ClassFile.FieldType.long)) a0 Z = true := hw _ (List.mem_of_getElem? (i := 224) rfl)
theorem w_220 {a0 : Array Value} {Z : State} (hw : ∀ d ∈ tables_1, d.before a0 Z = true) : Jvm.Cond.before (Jvm.Cond.methodLink "com/example/feedergen/feedergen/core/StreetLinkLastPinLaw" (30 : Nat) ({ cls := "com/example/feedergen/feedergen/core/StreetLink", name := "last", desc := "()J" } : Jvm.MethodName)) a0 Z = true := hw _ (List.mem_of_getElem? (i := 220) rfl)
theorem w_223 {a0 : Array Value} {Z : State} (hw : ∀ d ∈ tables_1, d.before a0 Z = true) : Jvm.Cond.before (Jvm.Cond.selects "com/example/feedergen/feedergen/core/StreetLink" ({ cls := "com/example/feedergen/feedergen/core/StreetLink", name := "last", desc := "()J" } : Jvm.MethodName) ({ cls := "com/example/feedergen/feedergen/core/StreetLink", name := "last", desc := "()J" } : Jvm.MethodName)) a0 Z = true := hw _ (List.mem_of_getElem? (i := 223) rfl)
theorem w_221 {a0 : Array Value} {Z : State} (hw : ∀ d ∈ tables_1, d.before a0 Z = true) : Jvm.Cond.before (Jvm.Cond.declares ({ cls := "com/example/feedergen/feedergen/core/StreetLink", name := "last", desc := "()J" } : Jvm.MethodName)) a0 Z = true := hw _ (List.mem_of_getElem? (i := 221) rfl)
theorem w_222 {a0 : Array Value} {Z : State} (hw : ∀ d ∈ tables_1, d.before a0 Z = true) : Jvm.Cond.before (Jvm.Cond.instanceMethod ({ cls := "com/example/feedergen/feedergen/core/StreetLink", name := "last", desc := "()J" } : Jvm.MethodName)) a0 Z = true := hw _ (List.mem_of_getElem? (i := 222) rfl)
theorem w_225 {a0 : Array Value} {Z : State} (hw : ∀ d ∈ tables_1, d.before a0 Z = true) : Jvm.Cond.before (Jvm.Cond.constantLong "com/example/feedergen/feedergen/core/StreetLinkLastPinLaw" (34 : Nat) (-1 : Int64)) a0 Z = true := hw _ (List.mem_of_getElem? (i := 225) rfl)
theorem ef0 (p1 : Int64) (p2 : Int64) (p3 : Int64) (p4 : Int64) (p5 : Int32) (m : MethodId) : entryFrame m #[(.long p1), (.long p2), (.long p3), (.long p4), (.int p5)] maxLocals = mkF m 0 #[.val (.long p1), .second, .val (.long p2), .second, .val (.long p3), .second, .val (.long p4), .second, .val (.int p5), .unset, .unset, .unset, .unset, .unset, .unset, .unset, .unset, .unset, .unset] [] := by first | (simp [entryFrame, mkF, argsToLocals, Value.category, maxLocals]; done) | rfl
theorem pn_15 : plainName "com/example/feedergen/feedergen/core/StreetLinkLastPinLaw" = true := by first | (simp [plainName, overriddenIn]; done) | decide +kernel
theorem rm0_0 (l : Launch) (Z : State) (a0 : Array Value) (hw : ∀ d ∈ tables_1, d.before a0 Z = true) (ws : List Jvm.Cond) (p1 : Int64) (p2 : Int64) (p3 : Int64) (p4 : Int64) (p5 : Int32) (sa1 : Addr) (sa2 : Addr) (sk4 : ClassId) (sk6 : ClassId) (smr : Addr) (h0 : Heap) (n0 : Nat) (Z0 : n0 ≤ h0.size) (Od0 : Old Z n0 h0) (S3_EMPTY_ELEMENTDATA : Sta Z Z.heap "java/util/ArrayList" "EMPTY_ELEMENTDATA" "[Ljava/lang/Object;" (.ref sa1)) (E_sa1 : Exa Z h0 sa1 "[Ljava/lang/Object;") (V_sa1 : Arv Z h0 sa1 sk4 (.object "java/lang/Object") (0 : Int32) [] .null) (S5_DEFAULTCAPACITY_EMPTY_ELEMENTDATA : Sta Z Z.heap "java/util/ArrayList" "DEFAULTCAPACITY_EMPTY_ELEMENTDATA" "[Ljava/lang/Object;" (.ref sa2)) (E_sa2 : Exa Z h0 sa2 "[Ljava/lang/Object;") (V_sa2 : Arv Z h0 sa2 sk6 (.object "java/lang/Object") (0 : Int32) [] .null) (M_top : OwnMir Z "[Ljava/lang/Object;" smr) (hk : ((p5 &&& (2147483647 : Int32)) - ((p5 &&& (2147483647 : Int32)) / (3 : Int32)) * (3 : Int32)) = (0 : Int32)) :
    OwnMet l Z x code maxLocals ret ws room_1 #[(.long p1), (.long p2), (.long p3), (.long p4), (.int p5)] h0 (Q0 n0) := by
  refine own_body (plainFor_of_name pn_15) (ef0 p1 p2 p3 p4 p5) ?_
  intro p e s m below meth c s₁ hx hby hml hown hnm hret hZ X0 e0
  have N0 := Fr.nil n0
  obtain ⟨T1, h1, k1, X1, e1, E1, A1, B1, st1⟩ := newPE (aty := .long) X0 hx hZ (w_1 hw) e0 (g := (mkF m 13 #[.val (.long p1), .second, .val (.long p2), .second, .val (.long p3), .second, .val (.long p4), .second, .val (.int p5), .val (.int (2 : Int32)), .unset, .unset, .unset, .unset, .unset, .unset, .unset, .unset, .unset] [(.int (2 : Int32))])) rfl (hb hby at_13) rfl (by decide) (cap := 2) (by decide) (by decide) (by decide) (by decide) (ad := "[J") (by decide)
  obtain ⟨b1, g1⟩ : ∃ z, z = h0.size := ⟨_, rfl⟩
  rw [← g1] at A1 B1 st1
  have s0 := E1.1
  have Vn1 : Arv Z h1 b1 k1 .long (2 : Int32) [(.long (0 : Int64)), (.long (0 : Int64))] (.long (0 : Int64)) := (Arv.new A1 (by decide)).pad (pad_rep [] (.long (0 : Int64)) 2)
  obtain ⟨cl2, Ar2, q2, S2, M2, Hs2, G2⟩ := id Vn1
  have hin3 : ¬ ((0 : Int32) < 0 ∨ cl2.slots.size ≤ ((0 : Int32)).toNatClampNeg) := inb_of S2 ⟨(by decide : ¬ ((0 : Int32) < (0 : Int32))), (by decide : (0 : Int32) < (2 : Int32))⟩
  obtain ⟨T4, h4, X4, e4, W4, st4⟩ := stJ X1 hx hZ e1 Ar2 (j := (0 : Int32)) hin3 (g := (mkF m 21 #[.val (.long p1), .second, .val (.long p2), .second, .val (.long p3), .second, .val (.long p4), .second, .val (.int p5), .val (.int (2 : Int32)), .val (.ref b1), .unset, .unset, .unset, .unset, .unset, .unset, .unset, .unset] [(.long p1), (.int (0 : Int32)), (.ref b1)])) rfl rfl (hb hby at_21)
  have s1 := (Keep.of_wr W4).1
  have g_b1 : n0 ≤ b1 := Nat.le_trans Z0 (Nat.le_of_eq g1.symm)
  have N4 := Fr.snoc X4 N0 g_b1
  have Vs4 : Arv Z h4 b1 k1 .long (2 : Int32) [(.long p1), (.long (0 : Int64))] (.long (0 : Int64)) := Arv.set Ar2 q2 S2 M2 Hs2 G2 rfl W4 0 rfl (Nat.le_of_ble_eq_true rfl)
  obtain ⟨cl5, Ar5, q5, S5, M5, Hs5, G5⟩ := id Vs4
  have hin6 : ¬ ((1 : Int32) < 0 ∨ cl5.slots.size ≤ ((1 : Int32)).toNatClampNeg) := inb_of S5 ⟨(by decide : ¬ ((1 : Int32) < (0 : Int32))), (by decide : (1 : Int32) < (2 : Int32))⟩
  obtain ⟨T7, h7, X7, e7, W7, st7⟩ := stJ X4 hx hZ e4 Ar5 (j := (1 : Int32)) hin6 (g := (mkF m 26 #[.val (.long p1), .second, .val (.long p2), .second, .val (.long p3), .second, .val (.long p4), .second, .val (.int p5), .val (.int (2 : Int32)), .val (.ref b1), .unset, .unset, .unset, .unset, .unset, .unset, .unset, .unset] [(.long p2), (.int (1 : Int32)), (.ref b1)])) rfl rfl (hb hby at_26)
  have s2 := (Keep.of_wr W7).1
  have N7 := Fr.snoc X7 N4 g_b1
  have Vs7 : Arv Z h7 b1 k1 .long (2 : Int32) [(.long p1), (.long p2)] (.long (0 : Int64)) := Arv.set Ar5 q5 S5 M5 Hs5 G5 rfl W7 1 rfl (Nat.le_of_ble_eq_true rfl)
  obtain ⟨T8, h8, X8, e8, E8, A8, D8, -, st8⟩ := newO X7 hx hZ hown (w_2 hw) (w_3 hw) (w_4 hw) e7 (g := (mkF m 76 #[.val (.long p1), .second, .val (.long p2), .second, .val (.long p3), .second, .val (.long p4), .second, .val (.int p5), .val (.int (2 : Int32)), .val (.ref b1), .val (.long p2), .second, .unset, .unset, .unset, .unset, .unset, .unset] [])) rfl (hb hby at_76) (by decide) (by decide)
  obtain ⟨b8, g8⟩ : ∃ z, z = h7.size := ⟨_, rfl⟩
  rw [← g8] at A8 D8 st8
  have s3 := E8.1
  have Fn8_lon : Fld Z h8 b8 "com/example/feedergen/feedergen/core/GeoPoint" "lon" "D" (.double (0 : UInt64)) := D8 (Or.inr (w_25 hw)) (ty := .double) (by decide)
  have Fn8_lat : Fld Z h8 b8 "com/example/feedergen/feedergen/core/GeoPoint" "lat" "D" (.double (0 : UInt64)) := D8 (Or.inr (w_27 hw)) (ty := .double) (by decide)
  have z3 := Nat.le_trans Z0 (Nat.le_trans (Nat.le_trans s0 s1) s2)
  have g_b8 : n0 ≤ b8 := Nat.le_trans z3 (Nat.le_of_eq g8.symm)
  have z4 := Nat.le_trans Z0 (Nat.le_trans (Nat.le_trans (Nat.le_trans s0 s1) s2) s3)
  obtain ⟨_, T9, L9, X9, hQ9, st9⟩ := own_special X8 hx hZ hown (y := y_2) (a := b8) (w_5 hw) (w_6 hw) (w_4 hw) (w_7 hw) (rm3 l Z a0 hw [] b8 h8 n0 z4 Fn8_lon A8 g_b8 Fn8_lat) e8 (Ls := #[.val (.long p1), .second, .val (.long p2), .second, .val (.long p3), .second, .val (.long p4), .second, .val (.int p5), .val (.int (2 : Int32)), .val (.ref b1), .val (.long p2), .second, .unset, .unset, .unset, .unset, .unset, .unset]) (by rw [hml]; rfl) (argsL := [(.double (0 : UInt64)), (.double (0 : UInt64))]) (rest := [(.ref b8)]) (lenOf pd_2 rfl) (hb hby at_82) (W := 1)
  obtain ⟨rfl, Nq9, K9, o9_0, o9_1, o9_2⟩ := hQ9
  have N9 := Fr.app N7 Nq9
  have s4 := K9.1
  obtain ⟨T10, h10, X10, e10, E10, A10, D10, -, st10⟩ := newO X9 hx hZ hown (w_28 hw) (w_29 hw) (w_30 hw) rfl (g := (mkF m 87 #[.val (.long p1), .second, .val (.long p2), .second, .val (.long p3), .second, .val (.long p4), .second, .val (.int p5), .val (.int (2 : Int32)), .val (.ref b1), .val (.long p2), .second, .val (.ref b8), .unset, .unset, .unset, .unset, .unset] [])) rfl (hb hby at_87) (by decide) (by decide)
  obtain ⟨b10, g10⟩ : ∃ z, z = T9.heap.size := ⟨_, rfl⟩
  rw [← g10] at A10 D10 st10
  have s5 := E10.1
  have Fn10_modCount : Fld Z h10 b10 "java/util/AbstractList" "modCount" "I" (.int (0 : Int32)) := D10 (Or.inl (w_48 hw)) (ty := .int) (by decide)
  have Fn10_elementData : Fld Z h10 b10 "java/util/ArrayList" "elementData" "[Ljava/lang/Object;" .null := D10 (Or.inl (w_51 hw)) (ty := (.array (.object "java/lang/Object"))) (by decide)
  have Fn10_size : Fld Z h10 b10 "java/util/ArrayList" "size" "I" (.int (0 : Int32)) := D10 (Or.inl (w_60 hw)) (ty := .int) (by decide)
  have z5 := Nat.le_trans Z0 (Nat.le_trans (Nat.le_trans (Nat.le_trans (Nat.le_trans s0 s1) s2) s3) s4)
  have g_b10 : n0 ≤ b10 := Nat.le_trans z5 (Nat.le_of_eq g10.symm)
  have Od1 : Old Z n0 h1 := Od0.ext E1
  have Od2 : Old Z n0 h4 := Od1.wr W4 g_b1
  have Od3 : Old Z n0 h7 := Od2.wr W7 g_b1
  have Od4 : Old Z n0 h8 := Od3.ext E8
  have Od5 : Old Z n0 T9.heap := Od4.keep K9 (allS g_b8 all0)
  have Od6 : Old Z n0 h10 := Od5.ext E10
  have z6 := Nat.le_trans Z0 (Nat.le_trans (Nat.le_trans (Nat.le_trans (Nat.le_trans (Nat.le_trans s0 s1) s2) s3) s4) s5)
  obtain ⟨_, T11, L11, X11, hQ11, st11⟩ := own_special X10 hx hZ hown (y := y_5) (a := b10) (w_31 hw) (w_32 hw) (w_30 hw) (w_33 hw) (rm6 l Z a0 hw [] b10 sa2 h10 n0 z6 Fn10_modCount A10 g_b10 Fn10_elementData Fn10_size S5_DEFAULTCAPACITY_EMPTY_ELEMENTDATA Od6) e10 (Ls := #[.val (.long p1), .second, .val (.long p2), .second, .val (.long p3), .second, .val (.long p4), .second, .val (.int p5), .val (.int (2 : Int32)), .val (.ref b1), .val (.long p2), .second, .val (.ref b8), .unset, .unset, .unset, .unset, .unset]) (by rw [hml]; rfl) (argsL := []) (rest := [(.ref b10)]) (lenOf pd_0 rfl) (hb hby at_91) (W := 1)
  obtain ⟨rfl, Nq11, K11, o11_0, o11_1, o11_2, o11_3⟩ := hQ11
  have N11 := Fr.app N9 Nq11
  have s6 := K11.1
  have ne_sa2_b1 := Nat.ne_of_lt (Nat.lt_of_lt_of_le V_sa2.lt (Nat.le_of_eq g1.symm))
  have ne_sa2_b8 := Nat.ne_of_lt (Nat.lt_of_lt_of_le (Nat.lt_of_lt_of_le V_sa2.lt (Nat.le_trans (Nat.le_trans s0 s1) s2)) (Nat.le_of_eq g8.symm))
  have ne_sa2_b10 := Nat.ne_of_lt (Nat.lt_of_lt_of_le (Nat.lt_of_lt_of_le V_sa2.lt (Nat.le_trans (Nat.le_trans (Nat.le_trans (Nat.le_trans s0 s1) s2) s3) s4)) (Nat.le_of_eq g10.symm))
  have Va12 := (((((((V_sa2.ext E1).other W4 ne_sa2_b1).other W7 ne_sa2_b1).ext E8).keep K9 (ninS ne_sa2_b8 nin0)).ext E10).keep K11 (ninS ne_sa2_b10 nin0))
  have Od7 : Old Z n0 T11.heap := Od6.keep K11 (allS g_b10 all0)
  have Ex13 := ((o9_0.ext E10).keep K11)
  have z7 := Nat.le_trans Z0 (Nat.le_trans (Nat.le_trans (Nat.le_trans (Nat.le_trans (Nat.le_trans (Nat.le_trans s0 s1) s2) s3) s4) s5) s6)
  obtain ⟨_, T14, L14, X14, hQ14, st14⟩ := own_virtual X11 hx hZ hown (y := y_10) (z := y_10) o11_0 (w_52 hw) (w_53 hw) (notFace_of_selects (args := #[]) (mvT hZ (w_55 hw))) (w_55 hw) (w_54 hw) (w_30 hw) (w_56 hw) (rm11 l Z a0 hw [] b10 b8 sa2 sk6 T11.heap n0 z7 o11_1 o11_0 g_b10 o11_2 o11_3 Va12 ne_sa2_b10 S5_DEFAULTCAPACITY_EMPTY_ELEMENTDATA Od7 Ex13) rfl (Ls := #[.val (.long p1), .second, .val (.long p2), .second, .val (.long p3), .second, .val (.long p4), .second, .val (.int p5), .val (.int (2 : Int32)), .val (.ref b1), .val (.long p2), .second, .val (.ref b8), .val (.ref b10), .unset, .unset, .unset, .unset]) (by rw [hml]; rfl) (argsL := [(.ref b8)]) (rest := []) (lenOf pd_7 rfl) (hb hby at_100) (W := 0)
  obtain ⟨b14_b14_b6_b5_b9, k14_k14_k6_k5_k9, rfl, Nq14, K14, o14_0, o14_1, o14_2, o14_3, o14_4, o14_5, o14_6, o14_7⟩ := hQ14
  have N14 := Fr.app N11 Nq14
  have s7 := K14.1
  have ne_b10_b14_b14_b6_b5_b9 := Nat.ne_of_lt (Nat.lt_of_lt_of_le o11_3.lt o14_4)
  have Ex15 := (Ex13.keep K14)
  have g_b14_b14_b6_b5_b9 : n0 ≤ b14_b14_b6_b5_b9 := Nat.le_trans z7 o14_4
  have z8 := Nat.le_trans Z0 (Nat.le_trans (Nat.le_trans (Nat.le_trans (Nat.le_trans (Nat.le_trans (Nat.le_trans (Nat.le_trans s0 s1) s2) s3) s4) s5) s6) s7)
  obtain ⟨_, T16, L16, X16, hQ16, st16⟩ := own_virtual X14 hx hZ hown (y := y_10) (z := y_10) o14_0 (w_52 hw) (w_53 hw) (notFace_of_selects (args := #[]) (mvT hZ (w_55 hw))) (w_55 hw) (w_54 hw) (w_30 hw) (w_56 hw) (rm13 l Z a0 hw [] b10 b8 b14_b14_b6_b5_b9 k14_k14_k6_k5_k9 T14.heap n0 z8 o14_1 o14_0 g_b10 o14_2 o14_3 o14_7 (Ne.symm ne_b10_b14_b14_b6_b5_b9) o14_6 Ex15 g_b14_b14_b6_b5_b9 o14_5) rfl (Ls := #[.val (.long p1), .second, .val (.long p2), .second, .val (.long p3), .second, .val (.long p4), .second, .val (.int p5), .val (.int (2 : Int32)), .val (.ref b1), .val (.long p2), .second, .val (.ref b8), .val (.ref b10), .unset, .unset, .unset, .unset]) (by rw [hml]; rfl) (argsL := [(.ref b8)]) (rest := []) (lenOf pd_7 rfl) (hb hby at_108) (W := 0)
  obtain ⟨rfl, Nq16, K16, o16_0, o16_1, o16_2, o16_3, o16_4, o16_5⟩ := hQ16
  have N16 := Fr.app N14 Nq16
  have s8 := K16.1
  obtain ⟨T17, h17, X17, e17, E17, A17, D17, -, st17⟩ := newO X16 hx hZ hown (w_83 hw) (w_84 hw) (w_85 hw) rfl (g := (mkF m 140 #[.val (.long p1), .second, .val (.long p2), .second, .val (.long p3), .second, .val (.long p4), .second, .val (.int p5), .val (.int (2 : Int32)), .val (.ref b1), .val (.long p2), .second, .val (.ref b8), .val (.ref b10), .unset, .unset, .unset, .unset] [])) rfl (hb hby at_140) (by decide) (by decide)
  obtain ⟨b17, g17⟩ : ∃ z, z = T16.heap.size := ⟨_, rfl⟩
  rw [← g17] at A17 D17 st17
  have s9 := E17.1
  have Fn17_id : Fld Z h17 b17 "com/example/feedergen/feedergen/core/StreetWay" "id" "J" (.long (0 : Int64)) := D17 (Or.inr (w_100 hw)) (ty := .long) (by decide)
  have Fn17_name : Fld Z h17 b17 "com/example/feedergen/feedergen/core/StreetWay" "name" "Ljava/lang/String;" .null := D17 (Or.inr (w_102 hw)) (ty := (.object "java/lang/String")) (by decide)
  have Fn17_streetClass : Fld Z h17 b17 "com/example/feedergen/feedergen/core/StreetWay" "streetClass" "Lcom/example/feedergen/feedergen/core/StreetClass;" .null := D17 (Or.inr (w_104 hw)) (ty := (.object "com/example/feedergen/feedergen/core/StreetClass")) (by decide)
  have Fn17_oneway : Fld Z h17 b17 "com/example/feedergen/feedergen/core/StreetWay" "oneway" "Z" (.int (0 : Int32)) := D17 (Or.inr (w_106 hw)) (ty := .boolean) (by decide)
  have Fn17_travel : Fld Z h17 b17 "com/example/feedergen/feedergen/core/StreetWay" "travel" "Lcom/example/feedergen/feedergen/core/TravelDirection;" .null := D17 (Or.inr (w_108 hw)) (ty := (.object "com/example/feedergen/feedergen/core/TravelDirection")) (by decide)
  have Fn17_nodes : Fld Z h17 b17 "com/example/feedergen/feedergen/core/StreetWay" "nodes" "[J" .null := D17 (Or.inr (w_110 hw)) (ty := (.array .long)) (by decide)
  obtain ⟨T18, h18, k18, X18, e18, E18, A18, B18, st18⟩ := newPE (aty := .long) X17 hx hZ (w_1 hw) e17 (g := (mkF m 150 #[.val (.long p1), .second, .val (.long p2), .second, .val (.long p3), .second, .val (.long p4), .second, .val (.int p5), .val (.int (2 : Int32)), .val (.ref b1), .val (.long p2), .second, .val (.ref b8), .val (.ref b10), .unset, .unset, .unset, .unset] [(.int (2 : Int32)), .null, (.int (0 : Int32)), .null, .null, (.long p1), (.ref b17), (.ref b17)])) rfl (hb hby at_150) rfl (by decide) (cap := 2) (by decide) (by decide) (by decide) (by decide) (ad := "[J") (by decide)
  obtain ⟨b18, g18⟩ : ∃ z, z = h17.size := ⟨_, rfl⟩
  rw [← g18] at A18 B18 st18
  have s10 := E18.1
  have Vn18 : Arv Z h18 b18 k18 .long (2 : Int32) [(.long (0 : Int64)), (.long (0 : Int64))] (.long (0 : Int64)) := (Arv.new A18 (by decide)).pad (pad_rep [] (.long (0 : Int64)) 2)
  obtain ⟨cl19, Ar19, q19, S19, M19, Hs19, G19⟩ := id Vn18
  have hin20 : ¬ ((0 : Int32) < 0 ∨ cl19.slots.size ≤ ((0 : Int32)).toNatClampNeg) := inb_of S19 ⟨(by decide : ¬ ((0 : Int32) < (0 : Int32))), (by decide : (0 : Int32) < (2 : Int32))⟩
  obtain ⟨T21, h21, X21, e21, W21, st21⟩ := stJ X18 hx hZ e18 Ar19 (j := (0 : Int32)) hin20 (g := (mkF m 155 #[.val (.long p1), .second, .val (.long p2), .second, .val (.long p3), .second, .val (.long p4), .second, .val (.int p5), .val (.int (2 : Int32)), .val (.ref b1), .val (.long p2), .second, .val (.ref b8), .val (.ref b10), .unset, .unset, .unset, .unset] [(.long p1), (.int (0 : Int32)), (.ref b18), (.ref b18), .null, (.int (0 : Int32)), .null, .null, (.long p1), (.ref b17), (.ref b17)])) rfl rfl (hb hby at_155)
  have s11 := (Keep.of_wr W21).1
  have z10 := Nat.le_trans Z0 (Nat.le_trans (Nat.le_trans (Nat.le_trans (Nat.le_trans (Nat.le_trans (Nat.le_trans (Nat.le_trans (Nat.le_trans (Nat.le_trans s0 s1) s2) s3) s4) s5) s6) s7) s8) s9)
  have g_b18 : n0 ≤ b18 := Nat.le_trans z10 (Nat.le_of_eq g18.symm)
  have N21 := Fr.snoc X21 N16 g_b18
  have Vs21 : Arv Z h21 b18 k18 .long (2 : Int32) [(.long p1), (.long (0 : Int64))] (.long (0 : Int64)) := Arv.set Ar19 q19 S19 M19 Hs19 G19 rfl W21 0 rfl (Nat.le_of_ble_eq_true rfl)
  obtain ⟨cl22, Ar22, q22, S22, M22, Hs22, G22⟩ := id Vs21
  have hin23 : ¬ ((1 : Int32) < 0 ∨ cl22.slots.size ≤ ((1 : Int32)).toNatClampNeg) := inb_of S22 ⟨(by decide : ¬ ((1 : Int32) < (0 : Int32))), (by decide : (1 : Int32) < (2 : Int32))⟩
  obtain ⟨T24, h24, X24, e24, W24, st24⟩ := stJ X21 hx hZ e21 Ar22 (j := (1 : Int32)) hin23 (g := (mkF m 159 #[.val (.long p1), .second, .val (.long p2), .second, .val (.long p3), .second, .val (.long p4), .second, .val (.int p5), .val (.int (2 : Int32)), .val (.ref b1), .val (.long p2), .second, .val (.ref b8), .val (.ref b10), .unset, .unset, .unset, .unset] [(.long p2), (.int (1 : Int32)), (.ref b18), (.ref b18), .null, (.int (0 : Int32)), .null, .null, (.long p1), (.ref b17), (.ref b17)])) rfl rfl (hb hby at_159)
  have s12 := (Keep.of_wr W24).1
  have N24 := Fr.snoc X24 N21 g_b18
  have Vs24 : Arv Z h24 b18 k18 .long (2 : Int32) [(.long p1), (.long p2)] (.long (0 : Int64)) := Arv.set Ar22 q22 S22 M22 Hs22 G22 rfl W24 1 rfl (Nat.le_of_ble_eq_true rfl)
  have Ex25 := ((B18.wr W21).wr W24)
  have ne_b17_b18 := Nat.ne_of_lt (Nat.lt_of_lt_of_le Fn17_travel.lt (Nat.le_of_eq g18.symm))
  have Fl26 := (((Fn17_id.ext E18).other W21 (Or.inl ne_b17_b18)).other W24 (Or.inl ne_b17_b18))
  have Ex27 := (((A17.ext E18).wr W21).wr W24)
  have z9 := Nat.le_trans Z0 (Nat.le_trans (Nat.le_trans (Nat.le_trans (Nat.le_trans (Nat.le_trans (Nat.le_trans (Nat.le_trans (Nat.le_trans s0 s1) s2) s3) s4) s5) s6) s7) s8)
  have g_b17 : n0 ≤ b17 := Nat.le_trans z9 (Nat.le_of_eq g17.symm)
  have Fl28 := (((Fn17_name.ext E18).other W21 (Or.inl ne_b17_b18)).other W24 (Or.inl ne_b17_b18))
  have Fl29 := (((Fn17_streetClass.ext E18).other W21 (Or.inl ne_b17_b18)).other W24 (Or.inl ne_b17_b18))
  have Fl30 := (((Fn17_oneway.ext E18).other W21 (Or.inl ne_b17_b18)).other W24 (Or.inl ne_b17_b18))
  have Fl31 := (((Fn17_travel.ext E18).other W21 (Or.inl ne_b17_b18)).other W24 (Or.inl ne_b17_b18))
  have Fl32 := (((Fn17_nodes.ext E18).other W21 (Or.inl ne_b17_b18)).other W24 (Or.inl ne_b17_b18))
  have z13 := Nat.le_trans Z0 (Nat.le_trans (Nat.le_trans (Nat.le_trans (Nat.le_trans (Nat.le_trans (Nat.le_trans (Nat.le_trans (Nat.le_trans (Nat.le_trans (Nat.le_trans (Nat.le_trans (Nat.le_trans s0 s1) s2) s3) s4) s5) s6) s7) s8) s9) s10) s11) s12)
  obtain ⟨_, T33, L33, X33, hQ33, st33⟩ := own_special X24 hx hZ hown (y := y_11) (a := b17) (w_86 hw) (w_87 hw) (w_85 hw) (w_88 hw) (rm14 l Z a0 hw [] b17 p1 b18 p2 k18 h24 n0 z13 Vs24 Ex25 Fl26 Ex27 g_b17 Fl28 Fl29 Fl30 Fl31 Fl32) e24 (Ls := #[.val (.long p1), .second, .val (.long p2), .second, .val (.long p3), .second, .val (.long p4), .second, .val (.int p5), .val (.int (2 : Int32)), .val (.ref b1), .val (.long p2), .second, .val (.ref b8), .val (.ref b10), .unset, .unset, .unset, .unset]) (by rw [hml]; rfl) (argsL := [(.long p1), .null, .null, (.int (0 : Int32)), .null, (.ref b18)]) (rest := [(.ref b17)]) (lenOf pd_8 rfl) (hb hby at_160) (W := 1)
  obtain ⟨b33_b8, rfl, Nq33, K33, o33_0, o33_1, o33_2, o33_3, o33_4, o33_5, o33_6, o33_7, o33_8, o33_9⟩ := hQ33
  have N33 := Fr.app N24 Nq33
  have s13 := K33.1
  obtain ⟨T34, h34, X34, e34, E34, A34, D34, -, st34⟩ := newO X33 hx hZ hown (w_111 hw) (w_112 hw) (w_113 hw) rfl (g := (mkF m 165 #[.val (.long p1), .second, .val (.long p2), .second, .val (.long p3), .second, .val (.long p4), .second, .val (.int p5), .val (.int (2 : Int32)), .val (.ref b1), .val (.long p2), .second, .val (.ref b8), .val (.ref b10), .val (.ref b17), .unset, .unset, .unset] [])) rfl (hb hby at_165) (by decide) (by decide)
  obtain ⟨b34, g34⟩ : ∃ z, z = T33.heap.size := ⟨_, rfl⟩
  rw [← g34] at A34 D34 st34
  have s14 := E34.1
  have Fn34_way : Fld Z h34 b34 "com/example/feedergen/feedergen/core/StreetLink" "way" "Lcom/example/feedergen/feedergen/core/StreetWay;" .null := D34 (Or.inr (w_215 hw)) (ty := (.object "com/example/feedergen/feedergen/core/StreetWay")) (by decide)
  have Fn34_nodes : Fld Z h34 b34 "com/example/feedergen/feedergen/core/StreetLink" "nodes" "[J" .null := D34 (Or.inr (w_217 hw)) (ty := (.array .long)) (by decide)
  have Fn34_points : Fld Z h34 b34 "com/example/feedergen/feedergen/core/StreetLink" "points" "Ljava/util/List;" .null := D34 (Or.inr (w_219 hw)) (ty := (.object "java/util/List")) (by decide)
  have ne_b1_b8 := Nat.ne_of_lt (Nat.lt_of_lt_of_le Vs7.lt (Nat.le_of_eq g8.symm))
  have ne_b1_b10 := Nat.ne_of_lt (Nat.lt_of_lt_of_le (Nat.lt_of_lt_of_le Vs7.lt (Nat.le_trans s3 s4)) (Nat.le_of_eq g10.symm))
  have ne_b1_b14_b14_b6_b5_b9 := Nat.ne_of_lt (Nat.lt_of_lt_of_le (Nat.lt_of_lt_of_le Vs7.lt (Nat.le_trans (Nat.le_trans (Nat.le_trans s3 s4) s5) s6)) o14_4)
  have ne_b1_b18 := Nat.ne_of_lt (Nat.lt_of_lt_of_le (Nat.lt_of_lt_of_le Vs7.lt (Nat.le_trans (Nat.le_trans (Nat.le_trans (Nat.le_trans (Nat.le_trans (Nat.le_trans s3 s4) s5) s6) s7) s8) s9)) (Nat.le_of_eq g18.symm))
  have ne_b1_b17 := Nat.ne_of_lt (Nat.lt_of_lt_of_le (Nat.lt_of_lt_of_le Vs7.lt (Nat.le_trans (Nat.le_trans (Nat.le_trans (Nat.le_trans (Nat.le_trans s3 s4) s5) s6) s7) s8)) (Nat.le_of_eq g17.symm))
  have Va35 := ((((((((((((Vs7.ext E8).keep K9 (ninS ne_b1_b8 nin0)).ext E10).keep K11 (ninS ne_b1_b10 nin0)).keep K14 (ninS ne_b1_b10 nin0)).keep K16 (ninS ne_b1_b10 (ninS ne_b1_b14_b14_b6_b5_b9 nin0))).ext E17).ext E18).other W21 ne_b1_b18).other W24 ne_b1_b18).keep K33 (ninS ne_b1_b17 nin0)).ext E34)
  have Ex36 := ((((((o16_0.ext E17).ext E18).wr W21).wr W24).keep K33).ext E34)
  have ne_b10_b18 := Nat.ne_of_lt (Nat.lt_of_lt_of_le (Nat.lt_of_lt_of_le o16_3.lt s9) (Nat.le_of_eq g18.symm))
  have ne_b10_b17 := Nat.ne_of_lt (Nat.lt_of_lt_of_le o16_3.lt (Nat.le_of_eq g17.symm))
  have Fl37 := ((((((o16_3.ext E17).ext E18).other W21 (Or.inl ne_b10_b18)).other W24 (Or.inl ne_b10_b18)).keep K33 (ninS ne_b10_b17 nin0)).ext E34)
  have Ex38 := ((((((((((((((B1.wr W4).wr W7).ext E8).keep K9).ext E10).keep K11).keep K14).keep K16).ext E17).ext E18).wr W21).wr W24).keep K33).ext E34)
  have Fl39 := ((((((o16_2.ext E17).ext E18).other W21 (Or.inl ne_b10_b18)).other W24 (Or.inl ne_b10_b18)).keep K33 (ninS ne_b10_b17 nin0)).ext E34)
  have Ex40 := ((((((o16_4.ext E17).ext E18).wr W21).wr W24).keep K33).ext E34)
  have ne_b14_b14_b6_b5_b9_b18 := Nat.ne_of_lt (Nat.lt_of_lt_of_le (Nat.lt_of_lt_of_le o16_5.lt s9) (Nat.le_of_eq g18.symm))
  have ne_b14_b14_b6_b5_b9_b17 := Nat.ne_of_lt (Nat.lt_of_lt_of_le o16_5.lt (Nat.le_of_eq g17.symm))
  have Va41 := ((((((o16_5.ext E17).ext E18).other W21 ne_b14_b14_b6_b5_b9_b18).other W24 ne_b14_b14_b6_b5_b9_b18).keep K33 (ninS ne_b14_b14_b6_b5_b9_b17 nin0)).ext E34)
  have Ex42 := (((((((Ex15.keep K16).ext E17).ext E18).wr W21).wr W24).keep K33).ext E34)
  have z14 := Nat.le_trans Z0 (Nat.le_trans (Nat.le_trans (Nat.le_trans (Nat.le_trans (Nat.le_trans (Nat.le_trans (Nat.le_trans (Nat.le_trans (Nat.le_trans (Nat.le_trans (Nat.le_trans (Nat.le_trans (Nat.le_trans s0 s1) s2) s3) s4) s5) s6) s7) s8) s9) s10) s11) s12) s13)
  have g_b34 : n0 ≤ b34 := Nat.le_trans z14 (Nat.le_of_eq g34.symm)
  have z15 := Nat.le_trans Z0 (Nat.le_trans (Nat.le_trans (Nat.le_trans (Nat.le_trans (Nat.le_trans (Nat.le_trans (Nat.le_trans (Nat.le_trans (Nat.le_trans (Nat.le_trans (Nat.le_trans (Nat.le_trans (Nat.le_trans (Nat.le_trans s0 s1) s2) s3) s4) s5) s6) s7) s8) s9) s10) s11) s12) s13) s14)
  obtain ⟨_, T43, L43, X43, hQ43, st43⟩ := own_special X34 hx hZ hown (y := y_28) (a := b34) (w_114 hw) (w_115 hw) (w_113 hw) (w_116 hw) (rm28 l Z a0 hw [] b34 b17 b1 b10 p1 p2 k1 b14_b14_b6_b5_b9 smr b8 k14_k14_k6_k5_k9 h34 n0 z15 Va35 Ex36 Fl37 Ex38 Fl39 Ex40 M_top Va41 Ex42 Fn34_way A34 g_b34 Fn34_nodes Fn34_points) e34 (Ls := #[.val (.long p1), .second, .val (.long p2), .second, .val (.long p3), .second, .val (.long p4), .second, .val (.int p5), .val (.int (2 : Int32)), .val (.ref b1), .val (.long p2), .second, .val (.ref b8), .val (.ref b10), .val (.ref b17), .unset, .unset, .unset]) (by rw [hml]; rfl) (argsL := [(.ref b17), (.ref b1), (.ref b10)]) (rest := [(.ref b34)]) (lenOf pd_17 rfl) (hb hby at_175) (W := 1)
  obtain ⟨b43_b11, b43_b23_b6_b10_b5, rfl, Nq43, K43, o43_0, o43_1, o43_2, o43_3, o43_4, o43_5, o43_6, o43_7, o43_8, o43_9, o43_10, o43_11⟩ := hQ43
  have N43 := Fr.app N33 Nq43
  have s15 := K43.1
  have z16 := Nat.le_trans Z0 (Nat.le_trans (Nat.le_trans (Nat.le_trans (Nat.le_trans (Nat.le_trans (Nat.le_trans (Nat.le_trans (Nat.le_trans (Nat.le_trans (Nat.le_trans (Nat.le_trans (Nat.le_trans (Nat.le_trans (Nat.le_trans (Nat.le_trans s0 s1) s2) s3) s4) s5) s6) s7) s8) s9) s10) s11) s12) s13) s14) s15)
  obtain ⟨_, T44, L44, X44, hQ44, st44⟩ := own_virtual X43 hx hZ hown (y := y_29) (z := y_29) o43_0 (w_220 hw) (w_221 hw) (notFace_of_selects (args := #[]) (mvT hZ (w_223 hw))) (w_223 hw) (w_222 hw) (w_113 hw) (w_224 hw) (rm29 l Z a0 hw [] b34 b43_b11 p1 p2 k1 T43.heap n0 z16 o43_1 o43_6) rfl (Ls := #[.val (.long p1), .second, .val (.long p2), .second, .val (.long p3), .second, .val (.long p4), .second, .val (.int p5), .val (.int (2 : Int32)), .val (.ref b1), .val (.long p2), .second, .val (.ref b8), .val (.ref b10), .val (.ref b17), .val (.ref b34), .unset, .unset]) (by rw [hml]; rfl) (argsL := []) (rest := []) (lenOf pd_18 rfl) (hb hby at_182) (W := 0)
  obtain ⟨rfl, Nq44, e44⟩ := hQ44
  have N44 := Fr.app N43 Nq44
  have ne_b1_b34 := Nat.ne_of_lt (Nat.lt_of_lt_of_le (Nat.lt_of_lt_of_le Vs7.lt (Nat.le_trans (Nat.le_trans (Nat.le_trans (Nat.le_trans (Nat.le_trans (Nat.le_trans (Nat.le_trans (Nat.le_trans (Nat.le_trans (Nat.le_trans s3 s4) s5) s6) s7) s8) s9) s10) s11) s12) s13)) (Nat.le_of_eq g34.symm))
  have Va45 := (Va35.keep K43 (ninS ne_b1_b34 nin0))
  obtain ⟨cl46, Ar46, q46, S46, M46, Hs46, G46⟩ := id Va45
  have hin47 : ¬ ((1 : Int32) < 0 ∨ cl46.slots.size ≤ ((1 : Int32)).toNatClampNeg) := inb_of S46 ⟨(by decide : ¬ ((1 : Int32) < (0 : Int32))), (by decide : (1 : Int32) < (2 : Int32))⟩
  obtain ⟨T48, h48, X48, e48, W48, st48⟩ := stJ X44 hx hZ e44 Ar46 (j := (1 : Int32)) hin47 (g := (mkF m 210 #[.val (.long p1), .second, .val (.long p2), .second, .val (.long p3), .second, .val (.long p4), .second, .val (.int p5), .val (.int (2 : Int32)), .val (.ref b1), .val (.long p2), .second, .val (.ref b8), .val (.ref b10), .val (.ref b17), .val (.ref b34), .val (.int (1 : Int32)), .unset] [(.long (p2 ^^^ (-1 : Int64))), (.int (1 : Int32)), (.ref b1)])) rfl rfl (hb hby at_210)
  have s16 := (Keep.of_wr W48).1
  have N48 := Fr.snoc X48 N44 g_b1
  have Vs48 : Arv Z h48 b1 k1 .long (2 : Int32) [(.long p1), (.long (p2 ^^^ (-1 : Int64)))] (.long (0 : Int64)) := Arv.set Ar46 q46 S46 M46 Hs46 G46 rfl W48 1 rfl (Nat.le_of_ble_eq_true rfl)
  have Ex49 := (o43_0.wr W48)
  have Fl50 := (o43_1.other W48 (Or.inl (Ne.symm ne_b1_b34)))
  have ne_b1_b43_b11 := Nat.ne_of_lt (Nat.lt_of_lt_of_le Va35.lt o43_4)
  have Va51 := (o43_6.other W48 (Ne.symm ne_b1_b43_b11))
  have z17 := Nat.le_trans Z0 (Nat.le_trans (Nat.le_trans (Nat.le_trans (Nat.le_trans (Nat.le_trans (Nat.le_trans (Nat.le_trans (Nat.le_trans (Nat.le_trans (Nat.le_trans (Nat.le_trans (Nat.le_trans (Nat.le_trans (Nat.le_trans (Nat.le_trans (Nat.le_trans s0 s1) s2) s3) s4) s5) s6) s7) s8) s9) s10) s11) s12) s13) s14) s15) s16)
  obtain ⟨_, T52, L52, X52, hQ52, st52⟩ := own_virtual X48 hx hZ hown (y := y_29) (z := y_29) Ex49 (w_220 hw) (w_221 hw) (notFace_of_selects (args := #[]) (mvT hZ (w_223 hw))) (w_223 hw) (w_222 hw) (w_113 hw) (w_224 hw) (rm29 l Z a0 hw [] b34 b43_b11 p1 p2 k1 h48 n0 z17 Fl50 Va51) e48 (Ls := #[.val (.long p1), .second, .val (.long p2), .second, .val (.long p3), .second, .val (.long p4), .second, .val (.int p5), .val (.int (2 : Int32)), .val (.ref b1), .val (.long p2), .second, .val (.ref b8), .val (.ref b10), .val (.ref b17), .val (.ref b34), .val (.int (1 : Int32)), .unset]) (by rw [hml]; rfl) (argsL := []) (rest := []) (lenOf pd_18 rfl) (hb hby at_213) (W := 0)
  obtain ⟨rfl, Nq52, e52⟩ := hQ52
  have N52 := Fr.app N48 Nq52
  refine ⟨T52, _, _, _, (some (.int (1 : Int32))), X52, nofun, by decide, by decide, ?_, fun fs hr => ?_⟩
  · show Q0 n0 _ T52.heap _
    rw [e52]
    exact ⟨rfl, N52⟩
  · show Steps p.tables e below (s₁.setTop (mkF m 0 #[.val (.long p1), .second, .val (.long p2), .second, .val (.long p3), .second, .val (.long p4), .second, .val (.int p5), .unset, .unset, .unset, .unset, .unset, .unset, .unset, .unset, .unset, .unset] [])) _
    refine XS.iconst X0.here hx rfl (hb hby at_0) ?_
    refine XS.iload X0.here hx rfl (hb hby at_1) rfl ?_
    refine X0.ldcInt hx hown (mvT hZ (w_0 hw)) (g := (mkF m 3 #[.val (.long p1), .second, .val (.long p2), .second, .val (.long p3), .second, .val (.long p4), .second, .val (.int p5), .unset, .unset, .unset, .unset, .unset, .unset, .unset, .unset, .unset, .unset] [(.int p5), (.int (2 : Int32))])) rfl (hb hby at_3) _ ?_
    refine XS.iand X0.here hx rfl (hb hby at_5) rfl ?_
    refine XS.iconst X0.here hx rfl (hb hby at_6) ?_
    refine XS.irem X0.here hx rfl (hb hby at_7) rfl (by decide : ¬ ((3 : Int32) = (0 : Int32))) ?_
    show Steps p.tables e below (s₁.setTop (mkF m 8 #[.val (.long p1), .second, .val (.long p2), .second, .val (.long p3), .second, .val (.long p4), .second, .val (.int p5), .unset, .unset, .unset, .unset, .unset, .unset, .unset, .unset, .unset, .unset] [(.int ((p5 &&& (2147483647 : Int32)) - ((p5 &&& (2147483647 : Int32)) / (3 : Int32)) * (3 : Int32))), (.int (2 : Int32))])) _
    rw [hk]
    refine XS.iadd X0.here hx rfl (hb hby at_8) rfl ?_
    refine XS.istore X0.here hx rfl (hb hby at_9) rfl (l' := #[.val (.long p1), .second, .val (.long p2), .second, .val (.long p3), .second, .val (.long p4), .second, .val (.int p5), .val (.int (2 : Int32)), .unset, .unset, .unset, .unset, .unset, .unset, .unset, .unset, .unset]) rfl ?_
    refine XS.iload X0.here hx rfl (hb hby at_11) rfl ?_
    refine st1 _ ?_
    refine XS.astore X1.here hx rfl (hb hby at_15) rfl rfl (l' := #[.val (.long p1), .second, .val (.long p2), .second, .val (.long p3), .second, .val (.long p4), .second, .val (.int p5), .val (.int (2 : Int32)), .val (.ref b1), .unset, .unset, .unset, .unset, .unset, .unset, .unset, .unset]) rfl ?_
    refine XS.aload X1.here hx rfl (hb hby at_17) rfl rfl ?_
    refine XS.iconst X1.here hx rfl (hb hby at_19) ?_
    refine XS.lloadN X1.here hx rfl (hb hby at_20) rfl ?_
    refine st4 _ ?_
    refine XS.aload X4.here hx rfl (hb hby at_22) rfl rfl ?_
    refine XS.iconst X4.here hx rfl (hb hby at_24) ?_
    show Steps p.tables e below (T4.setTop (mkF m 25 #[.val (.long p1), .second, .val (.long p2), .second, .val (.long p3), .second, .val (.long p4), .second, .val (.int p5), .val (.int (2 : Int32)), .val (.ref b1), .unset, .unset, .unset, .unset, .unset, .unset, .unset, .unset] [(.int (1 : Int32)), (.ref b1)])) _
    refine XS.lloadN X4.here hx rfl (hb hby at_25) rfl ?_
    refine st7 _ ?_
    refine XS.iload X7.here hx rfl (hb hby at_27) rfl ?_
    refine XS.iconst X7.here hx rfl (hb hby at_29) ?_
    refine XS.icmpYes X7.here hx rfl (pc0 := 30) (pc' := 39) rfl (hb hby at_30) rfl (tlt ((by decide : (2 : Int32) < (3 : Int32)) : (2 : Int32) < (3 : Int32))).1 (by decide) (by decide) ?_
    refine XS.iload X7.here hx rfl (hb hby at_39) rfl ?_
    refine XS.iconst X7.here hx rfl (hb hby at_41) ?_
    refine XS.icmpYes X7.here hx rfl (pc0 := 42) (pc' := 51) rfl (hb hby at_42) rfl (tlt ((by decide : (2 : Int32) < (4 : Int32)) : (2 : Int32) < (4 : Int32))).1 (by decide) (by decide) ?_
    refine XS.iload X7.here hx rfl (hb hby at_51) rfl ?_
    refine XS.iconst X7.here hx rfl (hb hby at_53) ?_
    refine XS.icmpNo X7.here hx rfl (hb hby at_54) rfl (teq ((by decide : (2 : Int32) = (2 : Int32)) : (2 : Int32) = (2 : Int32))).2 ?_
    refine XS.lloadN X7.here hx rfl (hb hby at_57) rfl ?_
    show Steps p.tables e below (T7.setTop (mkF m 58 #[.val (.long p1), .second, .val (.long p2), .second, .val (.long p3), .second, .val (.long p4), .second, .val (.int p5), .val (.int (2 : Int32)), .val (.ref b1), .unset, .unset, .unset, .unset, .unset, .unset, .unset, .unset] [(.long p2)])) _
    refine XS.goto X7.here hx rfl (pc0 := 58) (pc' := 74) rfl (hb hby at_58) (by decide) (by decide) ?_
    refine XS.lstore X7.here hx rfl (hb hby at_74) rfl (l' := #[.val (.long p1), .second, .val (.long p2), .second, .val (.long p3), .second, .val (.long p4), .second, .val (.int p5), .val (.int (2 : Int32)), .val (.ref b1), .val (.long p2), .second, .unset, .unset, .unset, .unset, .unset, .unset]) rfl ?_
    refine st8 _ ?_
    refine XS.dup X8.here hx rfl (hb hby at_79) rfl rfl ?_
    refine XS.dconst0 X8.here hx rfl (hb hby at_80) rfl ?_
    refine XS.dconst0 X8.here hx rfl (hb hby at_81) rfl ?_
    refine st9 _ ?_
    refine XS.astore X9.here hx rfl (hb hby at_85) rfl rfl (l' := #[.val (.long p1), .second, .val (.long p2), .second, .val (.long p3), .second, .val (.long p4), .second, .val (.int p5), .val (.int (2 : Int32)), .val (.ref b1), .val (.long p2), .second, .val (.ref b8), .unset, .unset, .unset, .unset, .unset]) rfl ?_
    refine st10 _ ?_
    refine XS.dup X10.here hx rfl (hb hby at_90) rfl rfl ?_
    refine st11 _ ?_
    refine XS.astore X11.here hx rfl (hb hby at_94) rfl rfl (l' := #[.val (.long p1), .second, .val (.long p2), .second, .val (.long p3), .second, .val (.long p4), .second, .val (.int p5), .val (.int (2 : Int32)), .val (.ref b1), .val (.long p2), .second, .val (.ref b8), .val (.ref b10), .unset, .unset, .unset, .unset]) rfl ?_
    show Steps p.tables e below (T11.setTop (mkF m 96 #[.val (.long p1), .second, .val (.long p2), .second, .val (.long p3), .second, .val (.long p4), .second, .val (.int p5), .val (.int (2 : Int32)), .val (.ref b1), .val (.long p2), .second, .val (.ref b8), .val (.ref b10), .unset, .unset, .unset, .unset] [])) _
    refine XS.aload X11.here hx rfl (hb hby at_96) rfl rfl ?_
    refine XS.aload X11.here hx rfl (hb hby at_98) rfl rfl ?_
    refine st14 _ ?_
    refine XS.pop X14.here hx rfl (hb hby at_103) rfl rfl ?_
    refine XS.aload X14.here hx rfl (hb hby at_104) rfl rfl ?_
    refine XS.aload X14.here hx rfl (hb hby at_106) rfl rfl ?_
    refine st16 _ ?_
    refine XS.pop X16.here hx rfl (hb hby at_111) rfl rfl ?_
    refine XS.iload X16.here hx rfl (hb hby at_112) rfl ?_
    refine XS.iconst X16.here hx rfl (hb hby at_114) ?_
    refine XS.icmpYes X16.here hx rfl (pc0 := 115) (pc' := 126) rfl (hb hby at_115) rfl (tlt ((by decide : (2 : Int32) < (3 : Int32)) : (2 : Int32) < (3 : Int32))).1 (by decide) (by decide) ?_
    refine XS.iload X16.here hx rfl (hb hby at_126) rfl ?_
    show Steps p.tables e below (T16.setTop (mkF m 128 #[.val (.long p1), .second, .val (.long p2), .second, .val (.long p3), .second, .val (.long p4), .second, .val (.int p5), .val (.int (2 : Int32)), .val (.ref b1), .val (.long p2), .second, .val (.ref b8), .val (.ref b10), .unset, .unset, .unset, .unset] [(.int (2 : Int32))])) _
    refine XS.iconst X16.here hx rfl (hb hby at_128) ?_
    refine XS.icmpYes X16.here hx rfl (pc0 := 129) (pc' := 140) rfl (hb hby at_129) rfl (tlt ((by decide : (2 : Int32) < (4 : Int32)) : (2 : Int32) < (4 : Int32))).1 (by decide) (by decide) ?_
    refine st17 _ ?_
    refine XS.dup X17.here hx rfl (hb hby at_143) rfl rfl ?_
    refine XS.lloadN X17.here hx rfl (hb hby at_144) rfl ?_
    refine XS.aconstNull X17.here hx rfl (hb hby at_145) ?_
    refine XS.aconstNull X17.here hx rfl (hb hby at_146) ?_
    refine XS.iconst X17.here hx rfl (hb hby at_147) ?_
    refine XS.aconstNull X17.here hx rfl (hb hby at_148) ?_
    refine XS.iconst X17.here hx rfl (hb hby at_149) ?_
    refine st18 _ ?_
    refine XS.dup X18.here hx rfl (hb hby at_152) rfl rfl ?_
    show Steps p.tables e below (T18.setTop (mkF m 153 #[.val (.long p1), .second, .val (.long p2), .second, .val (.long p3), .second, .val (.long p4), .second, .val (.int p5), .val (.int (2 : Int32)), .val (.ref b1), .val (.long p2), .second, .val (.ref b8), .val (.ref b10), .unset, .unset, .unset, .unset] [(.ref b18), (.ref b18), .null, (.int (0 : Int32)), .null, .null, (.long p1), (.ref b17), (.ref b17)])) _
    refine XS.iconst X18.here hx rfl (hb hby at_153) ?_
    refine XS.lloadN X18.here hx rfl (hb hby at_154) rfl ?_
    refine st21 _ ?_
    refine XS.dup X21.here hx rfl (hb hby at_156) rfl rfl ?_
    refine XS.iconst X21.here hx rfl (hb hby at_157) ?_
    refine XS.lloadN X21.here hx rfl (hb hby at_158) rfl ?_
    refine st24 _ ?_
    refine st33 _ ?_
    refine XS.astore X33.here hx rfl (hb hby at_163) rfl rfl (l' := #[.val (.long p1), .second, .val (.long p2), .second, .val (.long p3), .second, .val (.long p4), .second, .val (.int p5), .val (.int (2 : Int32)), .val (.ref b1), .val (.long p2), .second, .val (.ref b8), .val (.ref b10), .val (.ref b17), .unset, .unset, .unset]) rfl ?_
    refine st34 _ ?_
    refine XS.dup X34.here hx rfl (hb hby at_168) rfl rfl ?_
    refine XS.aload X34.here hx rfl (hb hby at_169) rfl rfl ?_
    show Steps p.tables e below (T34.setTop (mkF m 171 #[.val (.long p1), .second, .val (.long p2), .second, .val (.long p3), .second, .val (.long p4), .second, .val (.int p5), .val (.int (2 : Int32)), .val (.ref b1), .val (.long p2), .second, .val (.ref b8), .val (.ref b10), .val (.ref b17), .unset, .unset, .unset] [(.ref b17), (.ref b34), (.ref b34)])) _
    refine XS.aload X34.here hx rfl (hb hby at_171) rfl rfl ?_
    refine XS.aload X34.here hx rfl (hb hby at_173) rfl rfl ?_
    refine st43 _ ?_
    refine XS.astore X43.here hx rfl (hb hby at_178) rfl rfl (l' := #[.val (.long p1), .second, .val (.long p2), .second, .val (.long p3), .second, .val (.long p4), .second, .val (.int p5), .val (.int (2 : Int32)), .val (.ref b1), .val (.long p2), .second, .val (.ref b8), .val (.ref b10), .val (.ref b17), .val (.ref b34), .unset, .unset]) rfl ?_
    refine XS.aload X43.here hx rfl (hb hby at_180) rfl rfl ?_
    refine st44 _ ?_
    refine XS.lload X44.here hx rfl (hb hby at_185) rfl ?_
    refine XS.lcmp X44.here hx rfl (hb hby at_187) rfl ?_
    refine XS.ifNo X44.here hx rfl (hb hby at_188) rfl ((if0 _ _).trans (teq (((lw_eq _ _).mpr rfl) : (lcmpW p2 p2) = (0 : Int32))).2) ?_
    refine XS.iconst X44.here hx rfl (hb hby at_191) ?_
    refine XS.goto X44.here hx rfl (pc0 := 192) (pc' := 196) rfl (hb hby at_192) (by decide) (by decide) ?_
    refine XS.istore X44.here hx rfl (hb hby at_196) rfl (l' := #[.val (.long p1), .second, .val (.long p2), .second, .val (.long p3), .second, .val (.long p4), .second, .val (.int p5), .val (.int (2 : Int32)), .val (.ref b1), .val (.long p2), .second, .val (.ref b8), .val (.ref b10), .val (.ref b17), .val (.ref b34), .val (.int (1 : Int32)), .unset]) rfl ?_
    show Steps p.tables e below (T44.setTop (mkF m 198 #[.val (.long p1), .second, .val (.long p2), .second, .val (.long p3), .second, .val (.long p4), .second, .val (.int p5), .val (.int (2 : Int32)), .val (.ref b1), .val (.long p2), .second, .val (.ref b8), .val (.ref b10), .val (.ref b17), .val (.ref b34), .val (.int (1 : Int32)), .unset] [])) _
    refine XS.aload X44.here hx rfl (hb hby at_198) rfl rfl ?_
    refine XS.iload X44.here hx rfl (hb hby at_200) rfl ?_
    refine XS.iconst X44.here hx rfl (hb hby at_202) ?_
    refine XS.isub X44.here hx rfl (hb hby at_203) rfl ?_
    refine XS.lload X44.here hx rfl (hb hby at_204) rfl ?_
    refine X44.ldc2Long hx hown (mvT hZ (w_225 hw)) (g := (mkF m 206 #[.val (.long p1), .second, .val (.long p2), .second, .val (.long p3), .second, .val (.long p4), .second, .val (.int p5), .val (.int (2 : Int32)), .val (.ref b1), .val (.long p2), .second, .val (.ref b8), .val (.ref b10), .val (.ref b17), .val (.ref b34), .val (.int (1 : Int32)), .unset] [(.long p2), (.int (1 : Int32)), (.ref b1)])) rfl (hb hby at_206) _ ?_
    refine XS.lxor X44.here hx rfl (hb hby at_209) rfl ?_
    refine st48 _ ?_
    refine XS.aload X48.here hx rfl (hb hby at_211) rfl rfl ?_
    refine st52 _ ?_
    refine XS.lload X52.here hx rfl (hb hby at_216) rfl ?_
    refine XS.lcmp X52.here hx rfl (hb hby at_218) rfl ?_
    show Steps p.tables e below (T52.setTop (mkF m 219 #[.val (.long p1), .second, .val (.long p2), .second, .val (.long p3), .second, .val (.long p4), .second, .val (.int p5), .val (.int (2 : Int32)), .val (.ref b1), .val (.long p2), .second, .val (.ref b8), .val (.ref b10), .val (.ref b17), .val (.ref b34), .val (.int (1 : Int32)), .unset] [(.int (lcmpW p2 p2))])) _
    refine XS.ifNo X52.here hx rfl (hb hby at_219) rfl ((if0 _ _).trans (teq (((lw_eq _ _).mpr rfl) : (lcmpW p2 p2) = (0 : Int32))).2) ?_
    refine XS.iconst X52.here hx rfl (hb hby at_222) ?_
    refine XS.goto X52.here hx rfl (pc0 := 223) (pc' := 227) rfl (hb hby at_223) (by decide) (by decide) ?_
    refine XS.istore X52.here hx rfl (hb hby at_227) rfl (l' := #[.val (.long p1), .second, .val (.long p2), .second, .val (.long p3), .second, .val (.long p4), .second, .val (.int p5), .val (.int (2 : Int32)), .val (.ref b1), .val (.long p2), .second, .val (.ref b8), .val (.ref b10), .val (.ref b17), .val (.ref b34), .val (.int (1 : Int32)), .val (.int (1 : Int32))]) rfl ?_
    refine XS.iload X52.here hx rfl (hb hby at_229) rfl ?_
    refine XS.ifNo X52.here hx rfl (hb hby at_231) rfl ((if0 _ _).trans (feq ((by decide : ¬ ((1 : Int32) = (0 : Int32))) : ¬ ((1 : Int32) = (0 : Int32)))).1) ?_
    refine XS.iload X52.here hx rfl (hb hby at_234) rfl ?_
    refine XS.ifNo X52.here hx rfl (hb hby at_236) rfl ((if0 _ _).trans (feq ((by decide : ¬ ((1 : Int32) = (0 : Int32))) : ¬ ((1 : Int32) = (0 : Int32)))).1) ?_
    refine XS.iconst X52.here hx rfl (hb hby at_239) ?_
    refine XS.goto X52.here hx rfl (pc0 := 240) (pc' := 244) rfl (hb hby at_240) (by decide) (by decide) ?_
    exact retN X52 hx (t := .boolean) hret (by simp) (hb hby at_244) hr
-- java/util/ArrayList.add(Ljava/lang/Object;[Ljava/lang/Object;I)V
abbrev Rm30 : Room := { frames := 0, cells := 0, slots := 0, locals := 0 }
def Q30 (Z : State) (a1 : Addr) (a2 : Addr) (a3 : Addr) (k4 : ClassId) (h0 : Heap) (n0 : Nat) (v : Option Value) (h : Heap) (L : List Loc) : Prop := v = none ∧ Fr n0 L ∧ Keep h0 h [a3, a1] ∧ Exa Z h a3 "[Ljava/lang/Object;" ∧ Arv Z h a3 k4 (.object "java/lang/Object") (10 : Int32) [(.ref a2), (.ref a2), (.ref a2), .null, .null, .null, .null, .null, .null, .null] .null ∧ Exa Z h a1 "java/util/ArrayList" ∧ Fld Z h a1 "java/util/AbstractList" "modCount" "I" (.int (3 : Int32)) ∧ Fld Z h a1 "java/util/ArrayList" "elementData" "[Ljava/lang/Object;" (.ref a3) ∧ Fld Z h a1 "java/util/ArrayList" "size" "I" (.int (3 : Int32))
theorem ef30 (a1 : Addr) (a2 : Addr) (a3 : Addr) (m : MethodId) : entryFrame m #[(.ref a1), (.ref a2), (.ref a3), (.int (2 : Int32))] 4 = mkF m 0 #[.val (.ref a1), .val (.ref a2), .val (.ref a3), .val (.int (2 : Int32))] [] := by first | (simp [entryFrame, mkF, argsToLocals, Value.category]; done) | rfl
theorem rm30 (l : Launch) (Z : State) (a0 : Array Value) (hw : ∀ d ∈ tables_1, d.before a0 Z = true) (ws : List Jvm.Cond) (a1 : Addr) (a2 : Addr) (a3 : Addr) (k4 : ClassId) (h0 : Heap) (n0 : Nat) (Z0 : n0 ≤ h0.size) (V_a3 : Arv Z h0 a3 k4 (.object "java/lang/Object") (10 : Int32) [(.ref a2), (.ref a2), .null, .null, .null, .null, .null, .null, .null, .null] .null) (O_k4 : Ovr Z k4 "java/lang/Object") (E_a2 : Exa Z h0 a2 "com/example/feedergen/feedergen/core/GeoPoint") (g_a3 : n0 ≤ a3) (F_size_a1 : Fld Z h0 a1 "java/util/ArrayList" "size" "I" (.int (2 : Int32))) (ne_a1_a3 : a1 ≠ a3) (E_a1 : Exa Z h0 a1 "java/util/ArrayList") (g_a1 : n0 ≤ a1) (E_a3 : Exa Z h0 a3 "[Ljava/lang/Object;") (F_modCount_a1 : Fld Z h0 a1 "java/util/AbstractList" "modCount" "I" (.int (3 : Int32))) (F_elementData_a1 : Fld Z h0 a1 "java/util/ArrayList" "elementData" "[Ljava/lang/Object;" (.ref a3)) :
    OwnMet l Z y_9 jdk_38_method_24_code 4 none ws Rm30 #[(.ref a1), (.ref a2), (.ref a3), (.int (2 : Int32))] h0 (Q30 Z a1 a2 a3 k4 h0 n0) := by
  refine own_body (plainFor_of_name pn_5) (ef30 a1 a2 a3) ?_
  intro p e s m below meth c s₁ hx hby hml hown hnm hret hZ X0 e0
  have N0 := Fr.nil n0
  obtain ⟨cl5, Ar5, q5, S5, M5, Hs5, G5⟩ := id V_a3
  have hin6 : ¬ ((2 : Int32) < 0 ∨ cl5.slots.size ≤ ((2 : Int32)).toNatClampNeg) := inb_of S5 ⟨(by decide : ¬ ((2 : Int32) < (0 : Int32))), (by decide : (2 : Int32) < (10 : Int32))⟩
  obtain ⟨T7, h7, X7, e7, W7, st7⟩ := stR X0 hx hZ e0 Ar5 (j := (2 : Int32)) hin6 rfl (Sto.ofV Ar5 q5 O_k4 (Ins.of_exa E_a2 (w_82 hw))) (g := (mkF m 14 #[.val (.ref a1), .val (.ref a2), .val (.ref a3), .val (.int (2 : Int32))] [(.ref a2), (.int (2 : Int32)), (.ref a3)])) rfl rfl (hb hby d9_14)
  have s0 := (Keep.of_wr W7).1
  have N7 := Fr.snoc X7 N0 g_a3
  have Vs7 : Arv Z h7 a3 k4 (.object "java/lang/Object") (10 : Int32) [(.ref a2), (.ref a2), (.ref a2), .null, .null, .null, .null, .null, .null, .null] .null := Arv.set Ar5 q5 S5 M5 Hs5 G5 rfl W7 2 rfl (Nat.le_of_ble_eq_true rfl)
  have Fl8 := (F_size_a1.other W7 (Or.inl ne_a1_a3))
  have Ex9 := (E_a1.wr W7)
  obtain ⟨T10, h10, X10, e10, W10, st10⟩ := putF X7 hx hZ hown (host := "") (Or.inl (w_59 hw)) Via.refl e7 Fl8 Ex9 (Or.inl (w_60 hw)) (w_29 hw) (ty := .int) (by decide) rfl rfl (g := (mkF m 19 #[.val (.ref a1), .val (.ref a2), .val (.ref a3), .val (.int (2 : Int32))] [(.int (3 : Int32)), (.ref a1)])) rfl rfl (hb hby d9_19)
  have s1 := (Keep.of_wr W10).1
  have N10 := Fr.snoc X10 N7 g_a1
  have Fw10 : Fld Z h10 a1 "java/util/ArrayList" "size" "I" (.int (3 : Int32)) := Fl8.same W10
  have Ex11 := ((E_a3.wr W7).wr W10)
  have Va12 := (Vs7.other W10 (Ne.symm ne_a1_a3))
  have Ex13 := (Ex9.wr W10)
  have Fl14 := ((F_modCount_a1.other W7 (Or.inl ne_a1_a3)).other W10 (Or.inr (slot_ne (Or.inl (w_48 hw)) (Or.inl (w_60 hw)) (by decide) (t := .int) (t' := .int) (by decide) (by decide))))
  have Fl15 := ((F_elementData_a1.other W7 (Or.inl ne_a1_a3)).other W10 (Or.inr (slot_ne (Or.inl (w_51 hw)) (Or.inl (w_60 hw)) (by decide) (t := (.array (.object "java/lang/Object"))) (t' := .int) (by decide) (by decide))))
  have Kp0 : Keep h0 h7 [a3, a1] := (Keep.refl h0 [a3, a1]).wr W7 (Or.inl (List.mem_of_getElem? (i := 0) rfl))
  have Kp1 : Keep h0 h10 [a3, a1] := Kp0.wr W10 (Or.inl (List.mem_of_getElem? (i := 1) rfl))
  refine ⟨T10, _, _, _, none, X10, (fun _ => rfl), by decide, by decide, ?_, fun fs hr => ?_⟩
  · show Q30 Z a1 a2 a3 k4 h0 n0 _ T10.heap _
    rw [e10]
    exact ⟨rfl, N10, Kp1, Ex11, Va12, Ex13, Fl14, Fl15, Fw10⟩
  · show Steps p.tables e below (s₁.setTop (mkF m 0 #[.val (.ref a1), .val (.ref a2), .val (.ref a3), .val (.int (2 : Int32))] [])) _
    refine XS.iloadN X0.here hx rfl (hb hby d9_0) rfl ?_
    refine XS.aloadN X0.here hx rfl (hb hby d9_1) rfl rfl ?_
    refine X0.arraylength hx (by rw [e0]; exact Ar5.1) (State.isArrayOf_alike hZ.alike Ar5.2.1) (g := (mkF m 2 #[.val (.ref a1), .val (.ref a2), .val (.ref a3), .val (.int (2 : Int32))] [(.ref a3), (.int (2 : Int32))])) rfl rfl (hb hby d9_2) _ ?_
    show Steps p.tables e below (s₁.setTop (mkF m 3 #[.val (.ref a1), .val (.ref a2), .val (.ref a3), .val (.int (2 : Int32))] [(.int cl5.slots.size.toInt32), (.int (2 : Int32))])) _
    rw [len_of S5 M5]
    refine XS.icmpYes X0.here hx rfl (pc0 := 3) (pc' := 11) rfl (hb hby d9_3) rfl (feq ((by decide : ¬ ((2 : Int32) = (10 : Int32))) : ¬ ((2 : Int32) = (10 : Int32)))).2 (by decide) (by decide) ?_
    refine XS.aloadN X0.here hx rfl (hb hby d9_11) rfl rfl ?_
    refine XS.iloadN X0.here hx rfl (hb hby d9_12) rfl ?_
    refine XS.aloadN X0.here hx rfl (hb hby d9_13) rfl rfl ?_
    refine st7 _ ?_
    refine XS.aloadN X7.here hx rfl (hb hby d9_15) rfl rfl ?_
    refine XS.iloadN X7.here hx rfl (hb hby d9_16) rfl ?_
    refine XS.iconst X7.here hx rfl (hb hby d9_17) ?_
    refine XS.iadd X7.here hx rfl (hb hby d9_18) rfl ?_
    refine st10 _ ?_
    exact X10.returnOut hx hret (hb hby d9_22) hr
-- java/util/ArrayList.add(Ljava/lang/Object;)Z
abbrev Rm31 : Room := { frames := 1, cells := 0, slots := 0, locals := 15 }
def Q31 (Z : State) (a1 : Addr) (a2 : Addr) (a5 : Addr) (k11 : ClassId) (h0 : Heap) (n0 : Nat) (v : Option Value) (h : Heap) (L : List Loc) : Prop := v = some (.int (1 : Int32)) ∧ Fr n0 L ∧ Keep h0 h [a1, a5] ∧ Exa Z h a1 "java/util/ArrayList" ∧ Fld Z h a1 "java/util/AbstractList" "modCount" "I" (.int (3 : Int32)) ∧ Fld Z h a1 "java/util/ArrayList" "elementData" "[Ljava/lang/Object;" (.ref a5) ∧ Fld Z h a1 "java/util/ArrayList" "size" "I" (.int (3 : Int32)) ∧ Exa Z h a5 "[Ljava/lang/Object;" ∧ Arv Z h a5 k11 (.object "java/lang/Object") (10 : Int32) [(.ref a2), (.ref a2), (.ref a2), .null, .null, .null, .null, .null, .null, .null] .null
theorem ef31 (a1 : Addr) (a2 : Addr) (m : MethodId) : entryFrame m #[(.ref a1), (.ref a2)] 2 = mkF m 0 #[.val (.ref a1), .val (.ref a2)] [] := by first | (simp [entryFrame, mkF, argsToLocals, Value.category]; done) | rfl
theorem rm31 (l : Launch) (Z : State) (a0 : Array Value) (hw : ∀ d ∈ tables_1, d.before a0 Z = true) (ws : List Jvm.Cond) (a1 : Addr) (a2 : Addr) (a5 : Addr) (k11 : ClassId) (h0 : Heap) (n0 : Nat) (Z0 : n0 ≤ h0.size) (F_modCount_a1 : Fld Z h0 a1 "java/util/AbstractList" "modCount" "I" (.int (2 : Int32))) (E_a1 : Exa Z h0 a1 "java/util/ArrayList") (g_a1 : n0 ≤ a1) (F_elementData_a1 : Fld Z h0 a1 "java/util/ArrayList" "elementData" "[Ljava/lang/Object;" (.ref a5)) (F_size_a1 : Fld Z h0 a1 "java/util/ArrayList" "size" "I" (.int (2 : Int32))) (V_a5 : Arv Z h0 a5 k11 (.object "java/lang/Object") (10 : Int32) [(.ref a2), (.ref a2), .null, .null, .null, .null, .null, .null, .null, .null] .null) (ne_a5_a1 : a5 ≠ a1) (O_k11 : Ovr Z k11 "java/lang/Object") (E_a2 : Exa Z h0 a2 "com/example/feedergen/feedergen/core/GeoPoint") (g_a5 : n0 ≤ a5) (E_a5 : Exa Z h0 a5 "[Ljava/lang/Object;") :
    OwnMet l Z y_10 jdk_38_method_25_code 2 (some .boolean) ws Rm31 #[(.ref a1), (.ref a2)] h0 (Q31 Z a1 a2 a5 k11 h0 n0) := by
  refine own_body (plainFor_of_name pn_5) (ef31 a1 a2) ?_
  intro p e s m below meth c s₁ hx hby hml hown hnm hret hZ X0 e0
  have N0 := Fr.nil n0
  obtain ⟨T3, X3, e3, st3⟩ := getF X0 hx hZ hown (host := "") (Or.inl (w_57 hw)) (Via.of (w_58 hw)) e0 F_modCount_a1 (g := (mkF m 2 #[.val (.ref a1), .val (.ref a2)] [(.ref a1), (.ref a1)])) rfl rfl (hb hby d8_2)
  obtain ⟨T4, h4, X4, e4, W4, st4⟩ := putF X3 hx hZ hown (host := "") (Or.inl (w_57 hw)) (Via.of (w_58 hw)) e3 F_modCount_a1 E_a1 (Or.inl (w_48 hw)) (w_29 hw) (ty := .int) (by decide) rfl rfl (g := (mkF m 7 #[.val (.ref a1), .val (.ref a2)] [(.int (3 : Int32)), (.ref a1)])) rfl rfl (hb hby d8_7)
  have s0 := (Keep.of_wr W4).1
  have N4 := Fr.snoc X4 N0 g_a1
  have Fw4 : Fld Z h4 a1 "java/util/AbstractList" "modCount" "I" (.int (3 : Int32)) := F_modCount_a1.same W4
  have Ex6 := (E_a1.wr W4)
  have Fl7 := (F_elementData_a1.other W4 (Or.inr (slot_ne (Or.inl (w_51 hw)) (Or.inl (w_48 hw)) (by decide) (t := (.array (.object "java/lang/Object"))) (t' := .int) (by decide) (by decide))))
  obtain ⟨T8, X8, e8, st8⟩ := getF X4 hx hZ hown (host := "") (Or.inl (w_50 hw)) Via.refl e4 Fl7 (g := (mkF m 13 #[.val (.ref a1), .val (.ref a2)] [(.ref a1), (.ref a2), (.ref a1)])) rfl rfl (hb hby d8_13)
  have Fl9 := (F_size_a1.other W4 (Or.inr (slot_ne (Or.inl (w_60 hw)) (Or.inl (w_48 hw)) (by decide) (t := .int) (t' := .int) (by decide) (by decide))))
  obtain ⟨T10, X10, e10, st10⟩ := getF X8 hx hZ hown (host := "") (Or.inl (w_59 hw)) Via.refl e8 Fl9 (g := (mkF m 17 #[.val (.ref a1), .val (.ref a2)] [(.ref a1), (.ref a5), (.ref a2), (.ref a1)])) rfl rfl (hb hby d8_17)
  have Va12 := (V_a5.other W4 ne_a5_a1)
  have Ex13 := (E_a2.wr W4)
  have Ex14 := (E_a5.wr W4)
  have z1 := Nat.le_trans Z0 s0
  obtain ⟨_, T15, L15, X15, hQ15, st15⟩ := own_private X10 hx hZ hown (y := y_9) Ex6 (w_61 hw) (w_62 hw) (mvT hZ (w_64 hw)) (w_63 hw) (w_30 hw) (w_65 hw) (rm30 l Z a0 hw [] a1 a2 a5 k11 h4 n0 z1 Va12 O_k11 Ex13 g_a5 Fl9 (Ne.symm ne_a5_a1) Ex6 g_a1 Ex14 Fw4 Fl7) e10 (Ls := #[.val (.ref a1), .val (.ref a2)]) (by rw [hml]; rfl) (argsL := [(.ref a2), (.ref a5), (.int (2 : Int32))]) (rest := []) (lenOf pd_6 rfl) (hb hby d8_20) (W := 0)
  obtain ⟨rfl, Nq15, K15, o15_0, o15_1, o15_2, o15_3, o15_4, o15_5⟩ := hQ15
  have N15 := Fr.app N4 Nq15
  have s1 := K15.1
  have Kp0 : Keep h0 h4 [a1, a5] := (Keep.refl h0 [a1, a5]).wr W4 (Or.inl (List.mem_of_getElem? (i := 0) rfl))
  have Kp1 : Keep h0 T15.heap [a1, a5] := Kp0.trans K15 (allS (Or.inl (List.mem_of_getElem? (i := 1) rfl)) (allS (Or.inl (List.mem_of_getElem? (i := 0) rfl)) all0))
  refine ⟨T15, _, _, _, (some (.int (1 : Int32))), X15, nofun, by decide, by decide, ?_, fun fs hr => ?_⟩
  · show Q31 Z a1 a2 a5 k11 h0 n0 _ T15.heap _
    exact ⟨rfl, N15, Kp1, o15_2, o15_3, o15_4, o15_5, o15_0, o15_1⟩
  · show Steps p.tables e below (s₁.setTop (mkF m 0 #[.val (.ref a1), .val (.ref a2)] [])) _
    refine XS.aloadN X0.here hx rfl (hb hby d8_0) rfl rfl ?_
    refine XS.dup X0.here hx rfl (hb hby d8_1) rfl rfl ?_
    refine st3 _ ?_
    refine XS.iconst X3.here hx rfl (hb hby d8_5) ?_
    refine XS.iadd X3.here hx rfl (hb hby d8_6) rfl ?_
    refine st4 _ ?_
    refine XS.aloadN X4.here hx rfl (hb hby d8_10) rfl rfl ?_
    refine XS.aloadN X4.here hx rfl (hb hby d8_11) rfl rfl ?_
    refine XS.aloadN X4.here hx rfl (hb hby d8_12) rfl rfl ?_
    refine st8 _ ?_
    refine XS.aloadN X8.here hx rfl (hb hby d8_16) rfl rfl ?_
    refine st10 _ ?_
    show Steps p.tables e below (T10.setTop (mkF m 20 #[.val (.ref a1), .val (.ref a2)] [(.int (2 : Int32)), (.ref a5), (.ref a2), (.ref a1)])) _
    refine st15 _ ?_
    refine XS.iconst X15.here hx rfl (hb hby d8_23) ?_
    exact retN X15 hx (t := .boolean) hret (by simp) (hb hby d8_24) hr
-- java/util/ArrayList.size()I
abbrev Rm32 : Room := { frames := 0, cells := 0, slots := 0, locals := 0 }
def Q32 (Z : State) (a1 : Addr) (h0 : Heap) (n0 : Nat) (v : Option Value) (h : Heap) (L : List Loc) : Prop := v = some (.int (3 : Int32)) ∧ Fr n0 L ∧ h = h0
theorem ef32 (a1 : Addr) (m : MethodId) : entryFrame m #[(.ref a1)] 1 = mkF m 0 #[.val (.ref a1)] [] := by first | (simp [entryFrame, mkF, argsToLocals, Value.category]; done) | rfl
theorem rm32 (l : Launch) (Z : State) (a0 : Array Value) (hw : ∀ d ∈ tables_1, d.before a0 Z = true) (ws : List Jvm.Cond) (a1 : Addr) (h0 : Heap) (n0 : Nat) (Z0 : n0 ≤ h0.size) (F_size_a1 : Fld Z h0 a1 "java/util/ArrayList" "size" "I" (.int (3 : Int32))) :
    OwnMet l Z y_12 jdk_38_method_8_code 1 (some .int) ws Rm32 #[(.ref a1)] h0 (Q32 Z a1 h0 n0) := by
  refine own_body (plainFor_of_name pn_5) (ef32 a1) ?_
  intro p e s m below meth c s₁ hx hby hml hown hnm hret hZ X0 e0
  have N0 := Fr.nil n0
  obtain ⟨T2, X2, e2, st2⟩ := getF X0 hx hZ hown (host := "") (Or.inl (w_59 hw)) Via.refl e0 F_size_a1 (g := (mkF m 1 #[.val (.ref a1)] [(.ref a1)])) rfl rfl (hb hby d15_1)
  refine ⟨T2, _, _, _, (some (.int (3 : Int32))), X2, nofun, by decide, by decide, ?_, fun fs hr => ?_⟩
  · show Q32 Z a1 h0 n0 _ T2.heap _
    rw [e2]
    exact ⟨rfl, N0, rfl⟩
  · show Steps p.tables e below (s₁.setTop (mkF m 0 #[.val (.ref a1)] [])) _
    refine XS.aloadN X0.here hx rfl (hb hby d15_0) rfl rfl ?_
    refine st2 _ ?_
    exact retI X2 hx hret (hb hby d15_4) hr
-- java/util/ArrayList.isEmpty()Z
abbrev Rm33 : Room := { frames := 0, cells := 0, slots := 0, locals := 0 }
def Q33 (Z : State) (a1 : Addr) (h0 : Heap) (n0 : Nat) (v : Option Value) (h : Heap) (L : List Loc) : Prop := v = some (.int (0 : Int32)) ∧ Fr n0 L ∧ h = h0
theorem ef33 (a1 : Addr) (m : MethodId) : entryFrame m #[(.ref a1)] 1 = mkF m 0 #[.val (.ref a1)] [] := by first | (simp [entryFrame, mkF, argsToLocals, Value.category]; done) | rfl
theorem rm33 (l : Launch) (Z : State) (a0 : Array Value) (hw : ∀ d ∈ tables_1, d.before a0 Z = true) (ws : List Jvm.Cond) (a1 : Addr) (h0 : Heap) (n0 : Nat) (Z0 : n0 ≤ h0.size) (F_size_a1 : Fld Z h0 a1 "java/util/ArrayList" "size" "I" (.int (3 : Int32))) :
    OwnMet l Z y_14 jdk_38_method_9_code 1 (some .boolean) ws Rm33 #[(.ref a1)] h0 (Q33 Z a1 h0 n0) := by
  refine own_body (plainFor_of_name pn_5) (ef33 a1) ?_
  intro p e s m below meth c s₁ hx hby hml hown hnm hret hZ X0 e0
  have N0 := Fr.nil n0
  obtain ⟨T2, X2, e2, st2⟩ := getF X0 hx hZ hown (host := "") (Or.inl (w_59 hw)) Via.refl e0 F_size_a1 (g := (mkF m 1 #[.val (.ref a1)] [(.ref a1)])) rfl rfl (hb hby d18_1)
  refine ⟨T2, _, _, _, (some (.int (0 : Int32))), X2, nofun, by decide, by decide, ?_, fun fs hr => ?_⟩
  · show Q33 Z a1 h0 n0 _ T2.heap _
    rw [e2]
    exact ⟨rfl, N0, rfl⟩
  · show Steps p.tables e below (s₁.setTop (mkF m 0 #[.val (.ref a1)] [])) _
    refine XS.aloadN X0.here hx rfl (hb hby d18_0) rfl rfl ?_
    refine st2 _ ?_
    refine XS.ifYes X2.here hx rfl (pc0 := 4) (pc' := 11) rfl (hb hby d18_4) rfl ((if0 _ _).trans (feq ((by decide : ¬ ((3 : Int32) = (0 : Int32))) : ¬ ((3 : Int32) = (0 : Int32)))).2) (by decide) (by decide) ?_
    refine XS.iconst X2.here hx rfl (hb hby d18_11) ?_
    exact retN X2 hx (t := .boolean) hret (by simp) (hb hby d18_12) hr
-- java/lang/Math.min(II)I
abbrev Rm34 : Room := { frames := 0, cells := 0, slots := 0, locals := 0 }
def Q34 (Z : State)  (h0 : Heap) (n0 : Nat) (v : Option Value) (h : Heap) (L : List Loc) : Prop := v = some (.int (3 : Int32)) ∧ Fr n0 L ∧ h = h0
theorem ef34  (m : MethodId) : entryFrame m #[(.int (10 : Int32)), (.int (3 : Int32))] 2 = mkF m 0 #[.val (.int (10 : Int32)), .val (.int (3 : Int32))] [] := by first | (simp [entryFrame, mkF, argsToLocals, Value.category]; done) | rfl
theorem rm34 (l : Launch) (Z : State) (a0 : Array Value) (hw : ∀ d ∈ tables_1, d.before a0 Z = true) (ws : List Jvm.Cond)  (h0 : Heap) (n0 : Nat) (Z0 : n0 ≤ h0.size) :
    OwnMet l Z y_16 jdk_29_method_69_code 2 (some .int) ws Rm34 #[(.int (10 : Int32)), (.int (3 : Int32))] h0 (Q34 Z  h0 n0) := by
  refine own_body (Jvm.Free.JP.mathPlain rfl (by decide +kernel)) (ef34) ?_
  intro p e s m below meth c s₁ hx hby hml hown hnm hret hZ X0 e0
  have N0 := Fr.nil n0
  refine ⟨s₁, _, _, _, (some (.int (3 : Int32))), X0, nofun, by decide, by decide, ?_, fun fs hr => ?_⟩
  · show Q34 Z  h0 n0 _ s₁.heap _
    rw [e0]
    exact ⟨rfl, N0, rfl⟩
  · show Steps p.tables e below (s₁.setTop (mkF m 0 #[.val (.int (10 : Int32)), .val (.int (3 : Int32))] [])) _
    refine XS.iloadN X0.here hx rfl (hb hby d22_0) rfl ?_
    refine XS.iloadN X0.here hx rfl (hb hby d22_1) rfl ?_
    refine XS.icmpYes X0.here hx rfl (pc0 := 2) (pc' := 9) rfl (hb hby d22_2) rfl (tlt ((by decide : (3 : Int32) < (10 : Int32)) : (3 : Int32) < (10 : Int32))).2.2.1 (by decide) (by decide) ?_
    refine XS.iloadN X0.here hx rfl (hb hby d22_9) rfl ?_
    exact retI X0 hx hret (hb hby d22_10) hr
-- java/util/Arrays.copyOf([Ljava/lang/Object;ILjava/lang/Class;)[Ljava/lang/Object;
abbrev Rm35 : Room := { frames := 1, cells := 1, slots := 3, locals := 18 }
def Q35 (Z : State) (a1 : Addr) (a2 : Addr) (a5 : Addr) (k6 : ClassId) (h0 : Heap) (n0 : Nat) (v : Option Value) (h : Heap) (L : List Loc) : Prop := ∃ b4 : Addr, ∃ k4 : ClassId, v = some (.ref b4) ∧ Fr n0 L ∧ Keep h0 h [] ∧ h0.size ≤ b4 ∧ Exa Z h b4 "[Ljava/lang/Object;" ∧ Ovr Z k4 "java/lang/Object" ∧ Arv Z h b4 k4 (.object "java/lang/Object") (3 : Int32) [(.ref a5), (.ref a5), (.ref a5)] .null
theorem ef35 (a1 : Addr) (a2 : Addr) (m : MethodId) : entryFrame m #[(.ref a1), (.int (3 : Int32)), (.ref a2)] 4 = mkF m 0 #[.val (.ref a1), .val (.int (3 : Int32)), .val (.ref a2), .unset] [] := by first | (simp [entryFrame, mkF, argsToLocals, Value.category]; done) | rfl
theorem rm35 (l : Launch) (Z : State) (a0 : Array Value) (hw : ∀ d ∈ tables_1, d.before a0 Z = true) (ws : List Jvm.Cond) (a1 : Addr) (a2 : Addr) (a5 : Addr) (k6 : ClassId) (h0 : Heap) (n0 : Nat) (Z0 : n0 ≤ h0.size) (M_1 : OwnMir Z "[Ljava/lang/Object;" a2) (V_a1 : Arv Z h0 a1 k6 (.object "java/lang/Object") (10 : Int32) [(.ref a5), (.ref a5), (.ref a5), .null, .null, .null, .null, .null, .null, .null] .null) (E_a5 : Exa Z h0 a5 "com/example/feedergen/feedergen/core/GeoPoint") :
    OwnMet l Z y_17 jdk_65_method_120_code 4 (some (.array (.object "java/lang/Object"))) ws Rm35 #[(.ref a1), (.int (3 : Int32)), (.ref a2)] h0 (Q35 Z a1 a2 a5 k6 h0 n0) := by
  refine own_body (plainFor_of_name pn_7) (ef35 a1 a2) ?_
  intro p e s m below meth c s₁ hx hby hml hown hnm hret hZ X0 e0
  have N0 := Fr.nil n0
  obtain ⟨T3, X3, e3, st3⟩ := own_ldcM X0 hx hZ hown (w_173 hw) M_1 e0 (g := (mkF m 1 #[.val (.ref a1), .val (.int (3 : Int32)), .val (.ref a2), .unset] [(.ref a2)])) rfl (hb hby d21_1)
  obtain ⟨T4, h4, k4, X4, e4, E4, A4, B4, O4, st4⟩ := newRE X3 hx hZ hown (w_174 hw) (w_81 hw) e3 (g := (mkF m 7 #[.val (.ref a1), .val (.int (3 : Int32)), .val (.ref a2), .unset] [(.int (3 : Int32))])) rfl (hb hby d21_7) rfl (by decide) (cap := 3) (by decide) (by decide) (by decide) (by decide) (ad := "[Ljava/lang/Object;") (by decide)
  obtain ⟨b4, g4⟩ : ∃ z, z = h0.size := ⟨_, rfl⟩
  rw [← g4] at A4 B4 st4
  have s0 := E4.1
  have Vn4 : Arv Z h4 b4 k4 (.object "java/lang/Object") (3 : Int32) [.null, .null, .null] .null := (Arv.new A4 (by decide)).pad (pad_rep [] .null 3)
  have Va7 := (V_a1.ext E4)
  obtain ⟨cl8, Ar8, q8, S8, M8, Hs8, G8⟩ := id Va7
  have z1 := Nat.le_trans Z0 s0
  obtain ⟨_, T9, L9, X9, hQ9, st9⟩ := own_callS X4 hx hZ hown (y := y_16) (w_175 hw) (w_176 hw) (w_78 hw) (w_177 hw) (rm34 l Z a0 hw []  h4 n0 z1) e4 (Ls := #[.val (.ref a1), .val (.int (3 : Int32)), .val (.ref a2), .val (.ref b4)]) (by rw [hml]; rfl) (argsL := [(.int (10 : Int32)), (.int (3 : Int32))]) (rest := [(.int (0 : Int32)), (.ref b4), (.int (0 : Int32)), (.ref a1)]) (lenOf pd_3 rfl) (hb hby d21_32) (W := 4)
  obtain ⟨rfl, Nq9, e9⟩ := hQ9
  have N9 := Fr.app N0 Nq9
  obtain ⟨cl10, Ar10, q10, S10, M10, Hs10, G10⟩ := id Vn4
  have Ex11 := (E_a5.ext E4)
  have g_b4 : n0 ≤ b4 := Nat.le_trans Z0 (Nat.le_of_eq g4.symm)
  obtain ⟨T12, h12, L12, X12, e12, N12, K12, V12, st12⟩ := cpA X9 hx hZ hown (w_178 hw) (w_181 hw) (w_179 hw) (w_180 hw) e9 Va7 Vn4 (us := [(.ref a5), (.ref a5), (.ref a5)]) (Or.inr ⟨rfl, rfl, ⟨(Sto.ofV Ar10 q10 O4 (Ins.of_exa Ex11 (w_82 hw))), ⟨(Sto.ofV Ar10 q10 O4 (Ins.of_exa Ex11 (w_82 hw))), ⟨(Sto.ofV Ar10 q10 O4 (Ins.of_exa Ex11 (w_82 hw))), trivial⟩⟩⟩⟩) (by decide) (by decide) (by decide) (by decide) (by decide) (by rfl) (by decide) N9 g_b4 (g := (mkF m 35 #[.val (.ref a1), .val (.int (3 : Int32)), .val (.ref a2), .val (.ref b4)] [(.int (3 : Int32)), (.int (0 : Int32)), (.ref b4), (.int (0 : Int32)), (.ref a1)])) rfl (by rw [hml]; rfl) rfl (hb hby d21_35) (by decide) (W := 0) (by show 2 * 0 + _ ≤ _; exact Nat.le_of_eq rfl) (by decide)
  have s1 := K12.1
  have Vc12 : Arv Z h12 b4 k4 (.object "java/lang/Object") (3 : Int32) [(.ref a5), (.ref a5), (.ref a5)] .null := V12
  have sz_b4 : h0.size ≤ b4 := (Nat.le_of_eq g4.symm)
  have Ex13 := (B4.keep K12)
  have Kp0 : Keep h0 h4 [] := (Keep.refl h0 []).ext E4
  have Kp1 : Keep h0 h12 [] := Kp0.trans K12 (allS (Or.inr sz_b4) all0)
  refine ⟨T12, _, _, _, (some (.ref b4)), X12, nofun, by decide, by decide, ?_, fun fs hr => ?_⟩
  · show Q35 Z a1 a2 a5 k6 h0 n0 _ T12.heap _
    rw [e12]
    exact ⟨b4, k4, rfl, N12, Kp1, sz_b4, Ex13, O4, Vc12⟩
  · show Steps p.tables e below (s₁.setTop (mkF m 0 #[.val (.ref a1), .val (.int (3 : Int32)), .val (.ref a2), .unset] [])) _
    refine XS.aloadN X0.here hx rfl (hb hby d21_0) rfl rfl ?_
    refine st3 _ ?_
    refine Jvm.RoadKit.acmp (g := (mkF m 3 #[.val (.ref a1), .val (.int (3 : Int32)), .val (.ref a2), .unset] [(.ref a2), (.ref a2)])) X3 hx rfl rfl rfl (pc0 := 3) (pc' := 6) (same := true) rfl (hb hby d21_3) rfl (decide_eq_true rfl) (by decide) (by decide) ?_
    refine XS.iloadN X3.here hx rfl (hb hby d21_6) rfl ?_
    refine st4 _ ?_
    refine XS.goto X4.here hx rfl (pc0 := 10) (pc' := 24) rfl (hb hby d21_10) (by decide) (by decide) ?_
    refine XS.astoreN X4.here hx rfl (hb hby d21_24) rfl rfl (l' := #[.val (.ref a1), .val (.int (3 : Int32)), .val (.ref a2), .val (.ref b4)]) rfl ?_
    refine XS.aloadN X4.here hx rfl (hb hby d21_25) rfl rfl ?_
    refine XS.iconst X4.here hx rfl (hb hby d21_26) ?_
    refine XS.aloadN X4.here hx rfl (hb hby d21_27) rfl rfl ?_
    refine XS.iconst X4.here hx rfl (hb hby d21_28) ?_
    refine XS.aloadN X4.here hx rfl (hb hby d21_29) rfl rfl ?_
    show Steps p.tables e below (T4.setTop (mkF m 30 #[.val (.ref a1), .val (.int (3 : Int32)), .val (.ref a2), .val (.ref b4)] [(.ref a1), (.int (0 : Int32)), (.ref b4), (.int (0 : Int32)), (.ref a1)])) _
    refine X4.arraylength hx (by rw [e4]; exact Ar8.1) (State.isArrayOf_alike hZ.alike Ar8.2.1) (g := (mkF m 30 #[.val (.ref a1), .val (.int (3 : Int32)), .val (.ref a2), .val (.ref b4)] [(.ref a1), (.int (0 : Int32)), (.ref b4), (.int (0 : Int32)), (.ref a1)])) rfl rfl (hb hby d21_30) _ ?_
    show Steps p.tables e below (T4.setTop (mkF m 31 #[.val (.ref a1), .val (.int (3 : Int32)), .val (.ref a2), .val (.ref b4)] [(.int cl8.slots.size.toInt32), (.int (0 : Int32)), (.ref b4), (.int (0 : Int32)), (.ref a1)])) _
    rw [len_of S8 M8]
    refine XS.iloadN X4.here hx rfl (hb hby d21_31) rfl ?_
    refine st9 _ ?_
    refine st12 _ ?_
    refine XS.aloadN X12.here hx rfl (hb hby d21_38) rfl rfl ?_
    exact retOut X12 hx hret rfl (Or.inr (Or.inr (Or.inr (Or.inr ⟨rfl, rfl, rfl⟩)))) (hb hby d21_39) hr
-- java/util/Arrays.copyOf([Ljava/lang/Object;I)[Ljava/lang/Object;
abbrev Rm36 : Room := { frames := 2, cells := 1, slots := 3, locals := 33 }
def Q36 (Z : State) (a1 : Addr) (a2 : Addr) (a4 : Addr) (k5 : ClassId) (h0 : Heap) (n0 : Nat) (v : Option Value) (h : Heap) (L : List Loc) : Prop := ∃ b6_b4 : Addr, ∃ k6_k4 : ClassId, v = some (.ref b6_b4) ∧ Fr n0 L ∧ Keep h0 h [] ∧ h0.size ≤ b6_b4 ∧ Exa Z h b6_b4 "[Ljava/lang/Object;" ∧ Ovr Z k6_k4 "java/lang/Object" ∧ Arv Z h b6_b4 k6_k4 (.object "java/lang/Object") (3 : Int32) [(.ref a4), (.ref a4), (.ref a4)] .null
theorem ef36 (a1 : Addr) (m : MethodId) : entryFrame m #[(.ref a1), (.int (3 : Int32))] 2 = mkF m 0 #[.val (.ref a1), .val (.int (3 : Int32))] [] := by first | (simp [entryFrame, mkF, argsToLocals, Value.category]; done) | rfl
theorem rm36 (l : Launch) (Z : State) (a0 : Array Value) (hw : ∀ d ∈ tables_1, d.before a0 Z = true) (ws : List Jvm.Cond) (a1 : Addr) (a2 : Addr) (a4 : Addr) (k5 : ClassId) (h0 : Heap) (n0 : Nat) (Z0 : n0 ≤ h0.size) (E_a1 : Exa Z h0 a1 "[Ljava/lang/Object;") (M_1 : OwnMir Z "[Ljava/lang/Object;" a2) (V_a1 : Arv Z h0 a1 k5 (.object "java/lang/Object") (10 : Int32) [(.ref a4), (.ref a4), (.ref a4), .null, .null, .null, .null, .null, .null, .null] .null) (E_a4 : Exa Z h0 a4 "com/example/feedergen/feedergen/core/GeoPoint") :
    OwnMet l Z y_18 jdk_65_method_119_code 2 (some (.array (.object "java/lang/Object"))) ws Rm36 #[(.ref a1), (.int (3 : Int32))] h0 (Q36 Z a1 a2 a4 k5 h0 n0) := by
  refine own_body (plainFor_of_name pn_7) (ef36 a1) ?_
  intro p e s m below meth c s₁ hx hby hml hown hnm hret hZ X0 e0
  have N0 := Fr.nil n0
  obtain ⟨T3, X3, e3, st3⟩ := own_gcls X0 hx hZ hown (w_164 hw) (w_165 hw) (w_141 hw) (w_167 hw) (w_166 hw) (w_168 hw) e0 E_a1 M_1 (g := (mkF m 3 #[.val (.ref a1), .val (.int (3 : Int32))] [(.ref a1), (.int (3 : Int32)), (.ref a1)])) rfl (by rw [hml]; rfl) rfl (hb hby d20_3) (by decide) (W := 2) (by show 2 * 0 + _ ≤ _; exact Nat.le_of_eq rfl) (by decide)
  obtain ⟨_, T6, L6, X6, hQ6, st6⟩ := own_callS X3 hx hZ hown (y := y_17) (w_170 hw) (w_171 hw) (w_162 hw) (w_172 hw) (rm35 l Z a0 hw [] a1 a2 a4 k5 h0 n0 Z0 M_1 V_a1 E_a4) e3 (Ls := #[.val (.ref a1), .val (.int (3 : Int32))]) (by rw [hml]; rfl) (argsL := [(.ref a1), (.int (3 : Int32)), (.ref a2)]) (rest := []) (lenOf pd_11 rfl) (hb hby d20_6) (W := 0)
  obtain ⟨b6_b4, k6_k4, rfl, Nq6, K6, o6_0, o6_1, o6_2, o6_3⟩ := hQ6
  have N6 := Fr.app N0 Nq6
  have s0 := K6.1
  have sz_b6_b4 : h0.size ≤ b6_b4 := o6_0
  have Kp0 : Keep h0 T6.heap [] := (Keep.refl h0 []).trans K6 all0
  refine ⟨T6, _, _, _, (some (.ref b6_b4)), X6, nofun, by decide, by decide, ?_, fun fs hr => ?_⟩
  · show Q36 Z a1 a2 a4 k5 h0 n0 _ T6.heap _
    exact ⟨b6_b4, k6_k4, rfl, N6, Kp0, sz_b6_b4, o6_1, o6_2, o6_3⟩
  · show Steps p.tables e below (s₁.setTop (mkF m 0 #[.val (.ref a1), .val (.int (3 : Int32))] [])) _
    refine XS.aloadN X0.here hx rfl (hb hby d20_0) rfl rfl ?_
    refine XS.iloadN X0.here hx rfl (hb hby d20_1) rfl ?_
    refine XS.aloadN X0.here hx rfl (hb hby d20_2) rfl rfl ?_
    refine st3 _ ?_
    refine st6 _ ?_
    exact retOut X6 hx hret rfl (Or.inr (Or.inr (Or.inr (Or.inr ⟨rfl, rfl, rfl⟩)))) (hb hby d20_9) hr
-- java/util/ArrayList.toArray()[Ljava/lang/Object;
abbrev Rm37 : Room := { frames := 3, cells := 1, slots := 3, locals := 46 }
def Q37 (Z : State) (a1 : Addr) (a2 : Addr) (a5 : Addr) (a6 : Addr) (k7 : ClassId) (h0 : Heap) (n0 : Nat) (v : Option Value) (h : Heap) (L : List Loc) : Prop := ∃ b8_b6_b4 : Addr, ∃ k8_k6_k4 : ClassId, v = some (.ref b8_b6_b4) ∧ Fr n0 L ∧ Keep h0 h [] ∧ h0.size ≤ b8_b6_b4 ∧ Exa Z h b8_b6_b4 "[Ljava/lang/Object;" ∧ Ovr Z k8_k6_k4 "java/lang/Object" ∧ Arv Z h b8_b6_b4 k8_k6_k4 (.object "java/lang/Object") (3 : Int32) [(.ref a6), (.ref a6), (.ref a6)] .null
theorem ef37 (a1 : Addr) (m : MethodId) : entryFrame m #[(.ref a1)] 1 = mkF m 0 #[.val (.ref a1)] [] := by first | (simp [entryFrame, mkF, argsToLocals, Value.category]; done) | rfl
theorem rm37 (l : Launch) (Z : State) (a0 : Array Value) (hw : ∀ d ∈ tables_1, d.before a0 Z = true) (ws : List Jvm.Cond) (a1 : Addr) (a2 : Addr) (a5 : Addr) (a6 : Addr) (k7 : ClassId) (h0 : Heap) (n0 : Nat) (Z0 : n0 ≤ h0.size) (F_elementData_a1 : Fld Z h0 a1 "java/util/ArrayList" "elementData" "[Ljava/lang/Object;" (.ref a2)) (F_size_a1 : Fld Z h0 a1 "java/util/ArrayList" "size" "I" (.int (3 : Int32))) (E_a2 : Exa Z h0 a2 "[Ljava/lang/Object;") (M_1 : OwnMir Z "[Ljava/lang/Object;" a5) (V_a2 : Arv Z h0 a2 k7 (.object "java/lang/Object") (10 : Int32) [(.ref a6), (.ref a6), (.ref a6), .null, .null, .null, .null, .null, .null, .null] .null) (E_a6 : Exa Z h0 a6 "com/example/feedergen/feedergen/core/GeoPoint") :
    OwnMet l Z y_19 jdk_38_method_16_code 1 (some (.array (.object "java/lang/Object"))) ws Rm37 #[(.ref a1)] h0 (Q37 Z a1 a2 a5 a6 k7 h0 n0) := by
  refine own_body (plainFor_of_name pn_5) (ef37 a1) ?_
  intro p e s m below meth c s₁ hx hby hml hown hnm hret hZ X0 e0
  have N0 := Fr.nil n0
  obtain ⟨T3, X3, e3, st3⟩ := getF X0 hx hZ hown (host := "") (Or.inl (w_50 hw)) Via.refl e0 F_elementData_a1 (g := (mkF m 1 #[.val (.ref a1)] [(.ref a1)])) rfl rfl (hb hby d19_1)
  obtain ⟨T4, X4, e4, st4⟩ := getF X3 hx hZ hown (host := "") (Or.inl (w_59 hw)) Via.refl e3 F_size_a1 (g := (mkF m 5 #[.val (.ref a1)] [(.ref a1), (.ref a2)])) rfl rfl (hb hby d19_5)
  obtain ⟨_, T8, L8, X8, hQ8, st8⟩ := own_callS X4 hx hZ hown (y := y_18) (w_160 hw) (w_161 hw) (w_162 hw) (w_163 hw) (rm36 l Z a0 hw [] a2 a5 a6 k7 h0 n0 Z0 E_a2 M_1 V_a2 E_a6) e4 (Ls := #[.val (.ref a1)]) (by rw [hml]; rfl) (argsL := [(.ref a2), (.int (3 : Int32))]) (rest := []) (lenOf pd_12 rfl) (hb hby d19_8) (W := 0)
  obtain ⟨b8_b6_b4, k8_k6_k4, rfl, Nq8, K8, o8_0, o8_1, o8_2, o8_3⟩ := hQ8
  have N8 := Fr.app N0 Nq8
  have s0 := K8.1
  have sz_b8_b6_b4 : h0.size ≤ b8_b6_b4 := o8_0
  have Kp0 : Keep h0 T8.heap [] := (Keep.refl h0 []).trans K8 all0
  refine ⟨T8, _, _, _, (some (.ref b8_b6_b4)), X8, nofun, by decide, by decide, ?_, fun fs hr => ?_⟩
  · show Q37 Z a1 a2 a5 a6 k7 h0 n0 _ T8.heap _
    exact ⟨b8_b6_b4, k8_k6_k4, rfl, N8, Kp0, sz_b8_b6_b4, o8_1, o8_2, o8_3⟩
  · show Steps p.tables e below (s₁.setTop (mkF m 0 #[.val (.ref a1)] [])) _
    refine XS.aloadN X0.here hx rfl (hb hby d19_0) rfl rfl ?_
    refine st3 _ ?_
    refine XS.aloadN X3.here hx rfl (hb hby d19_4) rfl rfl ?_
    refine st4 _ ?_
    refine st8 _ ?_
    exact retOut X8 hx hret rfl (Or.inr (Or.inr (Or.inr (Or.inr ⟨rfl, rfl, rfl⟩)))) (hb hby d19_11) hr
theorem d23_59 : decode jdk_40_method_47_code 59 = .ok (.aload_n 0, 1) := by decide +kernel
theorem d23_60 : decode jdk_40_method_47_code 60 = .ok (.invokestatic 109, 3) := by decide +kernel
theorem d29_0 : decode jdk_56_method_4_code 0 = .ok (.aload_n 0, 1) := by decide +kernel
theorem d29_1 : decode jdk_56_method_4_code 1 = .ok (.arraylength, 1) := by decide +kernel
theorem d29_2 : decode jdk_56_method_4_code 2 = .ok (.anewarray 2, 3) := by decide +kernel
theorem w_229 {a0 : Array Value} {Z : State} (hw : ∀ d ∈ tables_1, d.before a0 Z = true) : Jvm.Cond.before (Jvm.Cond.classLink "java/util/ImmutableCollections" (2 : Nat) "java/lang/Object") a0 Z = true := hw _ (List.mem_of_getElem? (i := 229) rfl)
theorem d29_5 : decode jdk_56_method_4_code 5 = .ok (.astore_n 1, 1) := by decide +kernel
theorem d29_6 : decode jdk_56_method_4_code 6 = .ok (.iconst 0, 1) := by decide +kernel
theorem d29_7 : decode jdk_56_method_4_code 7 = .ok (.istore_n 2, 1) := by decide +kernel
theorem d29_8 : decode jdk_56_method_4_code 8 = .ok (.iload_n 2, 1) := by decide +kernel
theorem d29_9 : decode jdk_56_method_4_code 9 = .ok (.aload_n 0, 1) := by decide +kernel
theorem d29_10 : decode jdk_56_method_4_code 10 = .ok (.arraylength, 1) := by decide +kernel
theorem d29_11 : decode jdk_56_method_4_code 11 = .ok (.if_icmp .ge 18, 3) := by decide +kernel
theorem d29_14 : decode jdk_56_method_4_code 14 = .ok (.aload_n 1, 1) := by decide +kernel
theorem d29_15 : decode jdk_56_method_4_code 15 = .ok (.iload_n 2, 1) := by decide +kernel
theorem d29_16 : decode jdk_56_method_4_code 16 = .ok (.aload_n 0, 1) := by decide +kernel
theorem d29_17 : decode jdk_56_method_4_code 17 = .ok (.iload_n 2, 1) := by decide +kernel
theorem d29_18 : decode jdk_56_method_4_code 18 = .ok (.aaload, 1) := by decide +kernel
theorem d29_19 : decode jdk_56_method_4_code 19 = .ok (.invokestatic 37, 3) := by decide +kernel
theorem w_230 {a0 : Array Value} {Z : State} (hw : ∀ d ∈ tables_1, d.before a0 Z = true) : Jvm.Cond.before (Jvm.Cond.methodLink "java/util/ImmutableCollections" (37 : Nat) ({ cls := "java/util/Objects", name := "requireNonNull", desc := "(Ljava/lang/Object;)Ljava/lang/Object;" } : Jvm.MethodName)) a0 Z = true := hw _ (List.mem_of_getElem? (i := 230) rfl)
theorem d29_22 : decode jdk_56_method_4_code 22 = .ok (.aastore, 1) := by decide +kernel
theorem d29_23 : decode jdk_56_method_4_code 23 = .ok (.iinc 2 1, 3) := by decide +kernel
theorem d29_26 : decode jdk_56_method_4_code 26 = .ok (.goto (-18), 3) := by decide +kernel
theorem d29_29 : decode jdk_56_method_4_code 29 = .ok (.new 12, 3) := by decide +kernel
theorem w_232 {a0 : Array Value} {Z : State} (hw : ∀ d ∈ tables_1, d.before a0 Z = true) : Jvm.Cond.before (Jvm.Cond.initialized "java/util/ImmutableCollections$ListN") a0 Z = true := hw _ (List.mem_of_getElem? (i := 232) rfl)
theorem w_242 {a0 : Array Value} {Z : State} (hw : ∀ d ∈ tables_1, d.before a0 Z = true) : Jvm.Cond.before (Jvm.Cond.laysFinal "java/util/ImmutableCollections$ListN" "java/util/ImmutableCollections$ListN" "elements" "[Ljava/lang/Object;") a0 Z = true := hw _ (List.mem_of_getElem? (i := 242) rfl)
theorem w_244 {a0 : Array Value} {Z : State} (hw : ∀ d ∈ tables_1, d.before a0 Z = true) : Jvm.Cond.before (Jvm.Cond.laysFinal "java/util/ImmutableCollections$ListN" "java/util/ImmutableCollections$ListN" "allowNulls" "Z") a0 Z = true := hw _ (List.mem_of_getElem? (i := 244) rfl)
theorem d29_32 : decode jdk_56_method_4_code 32 = .ok (.dup, 1) := by decide +kernel
theorem d29_33 : decode jdk_56_method_4_code 33 = .ok (.aload_n 1, 1) := by decide +kernel
theorem d29_34 : decode jdk_56_method_4_code 34 = .ok (.iconst 0, 1) := by decide +kernel
theorem d29_35 : decode jdk_56_method_4_code 35 = .ok (.invokespecial 43, 3) := by decide +kernel
theorem d30_0 : decode jdk_45_method_1_code 0 = .ok (.aload_n 0, 1) := by decide +kernel
theorem d30_1 : decode jdk_45_method_1_code 1 = .ok (.invokespecial 1, 3) := by decide +kernel
theorem w_237 {a0 : Array Value} {Z : State} (hw : ∀ d ∈ tables_1, d.before a0 Z = true) : Jvm.Cond.before (Jvm.Cond.methodLink "java/util/ImmutableCollections$ListN" (1 : Nat) ({ cls := "java/util/ImmutableCollections$AbstractImmutableList", name := "<init>", desc := "()V" } : Jvm.MethodName)) a0 Z = true := hw _ (List.mem_of_getElem? (i := 237) rfl)
theorem d30_4 : decode jdk_45_method_1_code 4 = .ok (.aload_n 0, 1) := by decide +kernel
theorem d30_5 : decode jdk_45_method_1_code 5 = .ok (.aload_n 1, 1) := by decide +kernel
theorem d30_6 : decode jdk_45_method_1_code 6 = .ok (.putfield 7, 3) := by decide +kernel
theorem w_241 {a0 : Array Value} {Z : State} (hw : ∀ d ∈ tables_1, d.before a0 Z = true) : Jvm.Cond.before (Jvm.Cond.fieldLink "java/util/ImmutableCollections$ListN" (7 : Nat) "java/util/ImmutableCollections$ListN" "elements" "[Ljava/lang/Object;") a0 Z = true := hw _ (List.mem_of_getElem? (i := 241) rfl)
theorem d30_9 : decode jdk_45_method_1_code 9 = .ok (.aload_n 0, 1) := by decide +kernel
theorem d30_10 : decode jdk_45_method_1_code 10 = .ok (.iload_n 2, 1) := by decide +kernel
theorem d30_11 : decode jdk_45_method_1_code 11 = .ok (.putfield 13, 3) := by decide +kernel
theorem w_243 {a0 : Array Value} {Z : State} (hw : ∀ d ∈ tables_1, d.before a0 Z = true) : Jvm.Cond.before (Jvm.Cond.fieldLink "java/util/ImmutableCollections$ListN" (13 : Nat) "java/util/ImmutableCollections$ListN" "allowNulls" "Z") a0 Z = true := hw _ (List.mem_of_getElem? (i := 243) rfl)
theorem d30_14 : decode jdk_45_method_1_code 14 = .ok (.return_, 1) := by decide +kernel
abbrev y_30 : MethodName := ⟨"java/util/ImmutableCollections$ListN", "<init>", "([Ljava/lang/Object;Z)V"⟩
theorem pn_16 : plainName "java/util/ImmutableCollections$ListN" = true := by first | (simp [plainName, overriddenIn]; done) | decide +kernel
-- java/util/ImmutableCollections$ListN.<init>([Ljava/lang/Object;Z)V
abbrev Rm38 : Room := { frames := 4, cells := 0, slots := 0, locals := 48 }
def Q38 (Z : State) (a1 : Addr) (a2 : Addr) (h0 : Heap) (n0 : Nat) (v : Option Value) (h : Heap) (L : List Loc) : Prop := v = none ∧ Fr n0 L ∧ Keep h0 h [a1] ∧ Exa Z h a1 "java/util/ImmutableCollections$ListN" ∧ Fld Z h a1 "java/util/ImmutableCollections$ListN" "allowNulls" "Z" (.int (0 : Int32)) ∧ Fld Z h a1 "java/util/ImmutableCollections$ListN" "elements" "[Ljava/lang/Object;" (.ref a2)
theorem ef38 (a1 : Addr) (a2 : Addr) (m : MethodId) : entryFrame m #[(.ref a1), (.ref a2), (.int (0 : Int32))] 3 = mkF m 0 #[.val (.ref a1), .val (.ref a2), .val (.int (0 : Int32))] [] := by first | (simp [entryFrame, mkF, argsToLocals, Value.category]; done) | rfl
theorem rm38 (l : Launch) (Z : State) (a0 : Array Value) (hw : ∀ d ∈ tables_1, d.before a0 Z = true) (ws : List Jvm.Cond) (a1 : Addr) (a2 : Addr) (h0 : Heap) (n0 : Nat) (Z0 : n0 ≤ h0.size) (F_elements_a1 : Fld Z h0 a1 "java/util/ImmutableCollections$ListN" "elements" "[Ljava/lang/Object;" .null) (E_a1 : Exa Z h0 a1 "java/util/ImmutableCollections$ListN") (g_a1 : n0 ≤ a1) (F_allowNulls_a1 : Fld Z h0 a1 "java/util/ImmutableCollections$ListN" "allowNulls" "Z" (.int (0 : Int32))) :
    OwnMet l Z y_30 jdk_45_method_1_code 3 none ws Rm38 #[(.ref a1), (.ref a2), (.int (0 : Int32))] h0 (Q38 Z a1 a2 h0 n0) := by
  refine own_body (plainFor_of_name pn_16) (ef38 a1 a2) ?_
  intro p e s m below meth c s₁ hx hby hml hown hnm hret hZ X0 e0
  have N0 := Fr.nil n0
  obtain ⟨_, T3, L3, X3, hQ3, st3⟩ := own_special X0 hx hZ hown (y := y_22) (a := a1) (w_237 hw) (w_193 hw) (w_196 hw) (w_197 hw) (rm22 l Z a0 hw [] a1 h0 n0 Z0) e0 (Ls := #[.val (.ref a1), .val (.ref a2), .val (.int (0 : Int32))]) (by rw [hml]; rfl) (argsL := []) (rest := []) (lenOf pd_0 rfl) (hb hby d30_1) (W := 0)
  obtain ⟨rfl, Nq3, e3⟩ := hQ3
  have N3 := Fr.app N0 Nq3
  obtain ⟨T4, h4, X4, e4, W4, st4⟩ := putF X3 hx hZ hown (host := "") (Or.inl (w_241 hw)) Via.refl e3 F_elements_a1 E_a1 (Or.inr ⟨(w_242 hw), rfl, hnm⟩) (w_231 hw) (ty := (.array (.object "java/lang/Object"))) (by decide) rfl rfl (g := (mkF m 6 #[.val (.ref a1), .val (.ref a2), .val (.int (0 : Int32))] [(.ref a2), (.ref a1)])) rfl rfl (hb hby d30_6)
  have s0 := (Keep.of_wr W4).1
  have N4 := Fr.snoc X4 N3 g_a1
  have Fw4 : Fld Z h4 a1 "java/util/ImmutableCollections$ListN" "elements" "[Ljava/lang/Object;" (.ref a2) := F_elements_a1.same W4
  have Ex5 := (E_a1.wr W4)
  have Fl6 := (F_allowNulls_a1.other W4 (Or.inr (slot_ne (Or.inr (w_244 hw)) (Or.inr (w_242 hw)) (by decide) (t := .boolean) (t' := (.array (.object "java/lang/Object"))) (by decide) (by decide))))
  obtain ⟨T7, h7, X7, e7, W7, st7⟩ := putFN X4 hx hZ hown (w_243 hw) Via.refl e4 Fl6 Ex5 (Or.inr ⟨(w_244 hw), rfl, hnm⟩) (w_231 hw) (ty := .boolean) (v' := (.int (nar .boolean (0 : Int32)))) (by decide) rfl (fits_nar_bool _) (g := (mkF m 11 #[.val (.ref a1), .val (.ref a2), .val (.int (0 : Int32))] [(.int (0 : Int32)), (.ref a1)])) rfl rfl (hb hby d30_11)
  have s1 := (Keep.of_wr W7).1
  have N7 := Fr.snoc X7 N4 g_a1
  have Fw7 : Fld Z h7 a1 "java/util/ImmutableCollections$ListN" "allowNulls" "Z" (.int (0 : Int32)) := Fl6.same W7
  have Ex8 := (Ex5.wr W7)
  have Fl9 := (Fw4.other W7 (Or.inr (slot_ne (Or.inr (w_242 hw)) (Or.inr (w_244 hw)) (by decide) (t := (.array (.object "java/lang/Object"))) (t' := .boolean) (by decide) (by decide))))
  have Kp0 : Keep h0 h4 [a1] := (Keep.refl h0 [a1]).wr W4 (Or.inl (List.mem_of_getElem? (i := 0) rfl))
  have Kp1 : Keep h0 h7 [a1] := Kp0.wr W7 (Or.inl (List.mem_of_getElem? (i := 0) rfl))
  refine ⟨T7, _, _, _, none, X7, (fun _ => rfl), by decide, by decide, ?_, fun fs hr => ?_⟩
  · show Q38 Z a1 a2 h0 n0 _ T7.heap _
    rw [e7]
    exact ⟨rfl, N7, Kp1, Ex8, Fw7, Fl9⟩
  · show Steps p.tables e below (s₁.setTop (mkF m 0 #[.val (.ref a1), .val (.ref a2), .val (.int (0 : Int32))] [])) _
    refine XS.aloadN X0.here hx rfl (hb hby d30_0) rfl rfl ?_
    refine st3 _ ?_
    refine XS.aloadN X3.here hx rfl (hb hby d30_4) rfl rfl ?_
    refine XS.aloadN X3.here hx rfl (hb hby d30_5) rfl rfl ?_
    refine st4 _ ?_
    refine XS.aloadN X4.here hx rfl (hb hby d30_9) rfl rfl ?_
    refine XS.iloadN X4.here hx rfl (hb hby d30_10) rfl ?_
    refine st7 _ ?_
    exact X7.returnOut hx hret (hb hby d30_14) hr
theorem pd_19 : parseMethodDescriptor "([Ljava/lang/Object;Z)V" = some ⟨[(.array (.object "java/lang/Object")), .boolean], none⟩ := by decide +kernel
theorem w_236 {a0 : Array Value} {Z : State} (hw : ∀ d ∈ tables_1, d.before a0 Z = true) : Jvm.Cond.before (Jvm.Cond.code ({ cls := "java/util/ImmutableCollections$ListN", name := "<init>", desc := "([Ljava/lang/Object;Z)V" } : Jvm.MethodName) jdk_45_method_1_code (3 : Nat) (Option.none : Option Jvm.ClassFile.FieldType)) a0 Z = true := hw _ (List.mem_of_getElem? (i := 236) rfl)
theorem w_233 {a0 : Array Value} {Z : State} (hw : ∀ d ∈ tables_1, d.before a0 Z = true) : Jvm.Cond.before (Jvm.Cond.methodLinkNest "java/util/ImmutableCollections" (43 : Nat) ({ cls := "java/util/ImmutableCollections$ListN", name := "<init>", desc := "([Ljava/lang/Object;Z)V" } : Jvm.MethodName) "java/util/ImmutableCollections") a0 Z = true := hw _ (List.mem_of_getElem? (i := 233) rfl)
theorem w_234 {a0 : Array Value} {Z : State} (hw : ∀ d ∈ tables_1, d.before a0 Z = true) : Jvm.Cond.before (Jvm.Cond.instanceMethod ({ cls := "java/util/ImmutableCollections$ListN", name := "<init>", desc := "([Ljava/lang/Object;Z)V" } : Jvm.MethodName)) a0 Z = true := hw _ (List.mem_of_getElem? (i := 234) rfl)
theorem d29_38 : decode jdk_56_method_4_code 38 = .ok (.areturn, 1) := by decide +kernel
abbrev y_31 : MethodName := ⟨"java/util/ImmutableCollections", "listFromArray", "([Ljava/lang/Object;)Ljava/util/List;"⟩
-- java/util/ImmutableCollections.listFromArray([Ljava/lang/Object;)Ljava/util/List;
abbrev Rm39 : Room := { frames := 5, cells := 2, slots := 5, locals := 63 }
def Q39 (Z : State) (a1 : Addr) (a2 : Addr) (k3 : ClassId) (h0 : Heap) (n0 : Nat) (v : Option Value) (h : Heap) (L : List Loc) : Prop := ∃ b32 : Addr, ∃ b5 : Addr, ∃ k5 : ClassId, v = some (.ref b32) ∧ Fr n0 L ∧ Keep h0 h [] ∧ h0.size ≤ b32 ∧ Exa Z h b32 "java/util/ImmutableCollections$ListN" ∧ Fld Z h b32 "java/util/ImmutableCollections$ListN" "allowNulls" "Z" (.int (0 : Int32)) ∧ Fld Z h b32 "java/util/ImmutableCollections$ListN" "elements" "[Ljava/lang/Object;" (.ref b5) ∧ h0.size ≤ b5 ∧ Exa Z h b5 "[Ljava/lang/Object;" ∧ Ovr Z k5 "java/lang/Object" ∧ Arv Z h b5 k5 (.object "java/lang/Object") (3 : Int32) [(.ref a2), (.ref a2), (.ref a2)] .null ∧ b32 ≠ b5
theorem ef39 (a1 : Addr) (m : MethodId) : entryFrame m #[(.ref a1)] 3 = mkF m 0 #[.val (.ref a1), .unset, .unset] [] := by first | (simp [entryFrame, mkF, argsToLocals, Value.category]; done) | rfl
theorem rm39 (l : Launch) (Z : State) (a0 : Array Value) (hw : ∀ d ∈ tables_1, d.before a0 Z = true) (ws : List Jvm.Cond) (a1 : Addr) (a2 : Addr) (k3 : ClassId) (h0 : Heap) (n0 : Nat) (Z0 : n0 ≤ h0.size) (V_a1 : Arv Z h0 a1 k3 (.object "java/lang/Object") (3 : Int32) [(.ref a2), (.ref a2), (.ref a2)] .null) (E_a2 : Exa Z h0 a2 "com/example/feedergen/feedergen/core/GeoPoint") :
    OwnMet l Z y_31 jdk_56_method_4_code 3 (some (.object "java/util/List")) ws Rm39 #[(.ref a1)] h0 (Q39 Z a1 a2 k3 h0 n0) := by
  refine own_body (plainFor_of_name pn_13) (ef39 a1) ?_
  intro p e s m below meth c s₁ hx hby hml hown hnm hret hZ X0 e0
  have N0 := Fr.nil n0
  obtain ⟨cl4, Ar4, q4, S4, M4, Hs4, G4⟩ := id V_a1
  obtain ⟨T5, h5, k5, X5, e5, E5, A5, B5, O5, st5⟩ := newRE X0 hx hZ hown (w_229 hw) (w_81 hw) e0 (g := (mkF m 2 #[.val (.ref a1), .unset, .unset] [(.int (3 : Int32))])) rfl (hb hby d29_2) rfl (by decide) (cap := 3) (by decide) (by decide) (by decide) (by decide) (ad := "[Ljava/lang/Object;") (by decide)
  obtain ⟨b5, g5⟩ : ∃ z, z = h0.size := ⟨_, rfl⟩
  rw [← g5] at A5 B5 st5
  have s0 := E5.1
  have Vn5 : Arv Z h5 b5 k5 (.object "java/lang/Object") (3 : Int32) [.null, .null, .null] .null := (Arv.new A5 (by decide)).pad (pad_rep [] .null 3)
  have Va6 := (V_a1.ext E5)
  obtain ⟨cl7, Ar7, q7, S7, M7, Hs7, G7⟩ := id Va6
  have hin8 : ¬ ((0 : Int32) < 0 ∨ cl7.slots.size ≤ ((0 : Int32)).toNatClampNeg) := inb_of S7 ⟨(by decide : ¬ ((0 : Int32) < (0 : Int32))), (by decide : (0 : Int32) < (3 : Int32))⟩
  have z1 := Nat.le_trans Z0 s0
  obtain ⟨_, T9, L9, X9, hQ9, st9⟩ := own_callS X5 hx hZ hown (y := y_23) (w_230 hw) (w_207 hw) (w_208 hw) (w_209 hw) (rm23 l Z a0 hw [] a2 h5 n0 z1) e5 (Ls := #[.val (.ref a1), .val (.ref b5), .val (.int (0 : Int32))]) (by rw [hml]; rfl) (argsL := [(.ref a2)]) (rest := [(.int (0 : Int32)), (.ref b5)]) (lenOf pd_13 rfl) (hb hby d29_19) (W := 2)
  obtain ⟨rfl, Nq9, e9⟩ := hQ9
  have N9 := Fr.app N0 Nq9
  obtain ⟨cl10, Ar10, q10, S10, M10, Hs10, G10⟩ := id Vn5
  have hin11 : ¬ ((0 : Int32) < 0 ∨ cl10.slots.size ≤ ((0 : Int32)).toNatClampNeg) := inb_of S10 ⟨(by decide : ¬ ((0 : Int32) < (0 : Int32))), (by decide : (0 : Int32) < (3 : Int32))⟩
  have Ex12 := (E_a2.ext E5)
  obtain ⟨T13, h13, X13, e13, W13, st13⟩ := stR X9 hx hZ e9 Ar10 (j := (0 : Int32)) hin11 rfl (Sto.ofV Ar10 q10 O5 (Ins.of_exa Ex12 (w_82 hw))) (g := (mkF m 22 #[.val (.ref a1), .val (.ref b5), .val (.int (0 : Int32))] [(.ref a2), (.int (0 : Int32)), (.ref b5)])) rfl rfl (hb hby d29_22)
  have s1 := (Keep.of_wr W13).1
  have g_b5 : n0 ≤ b5 := Nat.le_trans Z0 (Nat.le_of_eq g5.symm)
  have N13 := Fr.snoc X13 N9 g_b5
  have Vs13 : Arv Z h13 b5 k5 (.object "java/lang/Object") (3 : Int32) [(.ref a2), .null, .null] .null := Arv.set Ar10 q10 S10 M10 Hs10 G10 rfl W13 0 rfl (Nat.le_of_ble_eq_true rfl)
  have ne_a1_b5 := Nat.ne_of_lt (Nat.lt_of_lt_of_le V_a1.lt (Nat.le_of_eq g5.symm))
  have Va14 := (Va6.other W13 ne_a1_b5)
  obtain ⟨cl15, Ar15, q15, S15, M15, Hs15, G15⟩ := id Va14
  have hin16 : ¬ ((1 : Int32) < 0 ∨ cl15.slots.size ≤ ((1 : Int32)).toNatClampNeg) := inb_of S15 ⟨(by decide : ¬ ((1 : Int32) < (0 : Int32))), (by decide : (1 : Int32) < (3 : Int32))⟩
  have z2 := Nat.le_trans Z0 (Nat.le_trans s0 s1)
  obtain ⟨_, T17, L17, X17, hQ17, st17⟩ := own_callS X13 hx hZ hown (y := y_23) (w_230 hw) (w_207 hw) (w_208 hw) (w_209 hw) (rm23 l Z a0 hw [] a2 h13 n0 z2) e13 (Ls := #[.val (.ref a1), .val (.ref b5), .val (.int (1 : Int32))]) (by rw [hml]; rfl) (argsL := [(.ref a2)]) (rest := [(.int (1 : Int32)), (.ref b5)]) (lenOf pd_13 rfl) (hb hby d29_19) (W := 2)
  obtain ⟨rfl, Nq17, e17⟩ := hQ17
  have N17 := Fr.app N13 Nq17
  obtain ⟨cl18, Ar18, q18, S18, M18, Hs18, G18⟩ := id Vs13
  have hin19 : ¬ ((1 : Int32) < 0 ∨ cl18.slots.size ≤ ((1 : Int32)).toNatClampNeg) := inb_of S18 ⟨(by decide : ¬ ((1 : Int32) < (0 : Int32))), (by decide : (1 : Int32) < (3 : Int32))⟩
  have Ex20 := (Ex12.wr W13)
  obtain ⟨T21, h21, X21, e21, W21, st21⟩ := stR X17 hx hZ e17 Ar18 (j := (1 : Int32)) hin19 rfl (Sto.ofV Ar18 q18 O5 (Ins.of_exa Ex20 (w_82 hw))) (g := (mkF m 22 #[.val (.ref a1), .val (.ref b5), .val (.int (1 : Int32))] [(.ref a2), (.int (1 : Int32)), (.ref b5)])) rfl rfl (hb hby d29_22)
  have s2 := (Keep.of_wr W21).1
  have N21 := Fr.snoc X21 N17 g_b5
  have Vs21 : Arv Z h21 b5 k5 (.object "java/lang/Object") (3 : Int32) [(.ref a2), (.ref a2), .null] .null := Arv.set Ar18 q18 S18 M18 Hs18 G18 rfl W21 1 rfl (Nat.le_of_ble_eq_true rfl)
  have Va22 := (Va14.other W21 ne_a1_b5)
  obtain ⟨cl23, Ar23, q23, S23, M23, Hs23, G23⟩ := id Va22
  have hin24 : ¬ ((2 : Int32) < 0 ∨ cl23.slots.size ≤ ((2 : Int32)).toNatClampNeg) := inb_of S23 ⟨(by decide : ¬ ((2 : Int32) < (0 : Int32))), (by decide : (2 : Int32) < (3 : Int32))⟩
  have z3 := Nat.le_trans Z0 (Nat.le_trans (Nat.le_trans s0 s1) s2)
  obtain ⟨_, T25, L25, X25, hQ25, st25⟩ := own_callS X21 hx hZ hown (y := y_23) (w_230 hw) (w_207 hw) (w_208 hw) (w_209 hw) (rm23 l Z a0 hw [] a2 h21 n0 z3) e21 (Ls := #[.val (.ref a1), .val (.ref b5), .val (.int (2 : Int32))]) (by rw [hml]; rfl) (argsL := [(.ref a2)]) (rest := [(.int (2 : Int32)), (.ref b5)]) (lenOf pd_13 rfl) (hb hby d29_19) (W := 2)
  obtain ⟨rfl, Nq25, e25⟩ := hQ25
  have N25 := Fr.app N21 Nq25
  obtain ⟨cl26, Ar26, q26, S26, M26, Hs26, G26⟩ := id Vs21
  have hin27 : ¬ ((2 : Int32) < 0 ∨ cl26.slots.size ≤ ((2 : Int32)).toNatClampNeg) := inb_of S26 ⟨(by decide : ¬ ((2 : Int32) < (0 : Int32))), (by decide : (2 : Int32) < (3 : Int32))⟩
  have Ex28 := (Ex20.wr W21)
  obtain ⟨T29, h29, X29, e29, W29, st29⟩ := stR X25 hx hZ e25 Ar26 (j := (2 : Int32)) hin27 rfl (Sto.ofV Ar26 q26 O5 (Ins.of_exa Ex28 (w_82 hw))) (g := (mkF m 22 #[.val (.ref a1), .val (.ref b5), .val (.int (2 : Int32))] [(.ref a2), (.int (2 : Int32)), (.ref b5)])) rfl rfl (hb hby d29_22)
  have s3 := (Keep.of_wr W29).1
  have N29 := Fr.snoc X29 N25 g_b5
  have Vs29 : Arv Z h29 b5 k5 (.object "java/lang/Object") (3 : Int32) [(.ref a2), (.ref a2), (.ref a2)] .null := Arv.set Ar26 q26 S26 M26 Hs26 G26 rfl W29 2 rfl (Nat.le_of_ble_eq_true rfl)
  have Va30 := (Va22.other W29 ne_a1_b5)
  obtain ⟨cl31, Ar31, q31, S31, M31, Hs31, G31⟩ := id Va30
  obtain ⟨T32, h32, X32, e32, E32, A32, D32, -, st32⟩ := newO X29 hx hZ hown (w_142 hw) (w_231 hw) (w_232 hw) e29 (g := (mkF m 29 #[.val (.ref a1), .val (.ref b5), .val (.int (3 : Int32))] [])) rfl (hb hby d29_29) (by decide) (by decide)
  obtain ⟨b32, g32⟩ : ∃ z, z = h29.size := ⟨_, rfl⟩
  rw [← g32] at A32 D32 st32
  have s4 := E32.1
  have Fn32_elements : Fld Z h32 b32 "java/util/ImmutableCollections$ListN" "elements" "[Ljava/lang/Object;" .null := D32 (Or.inr (w_242 hw)) (ty := (.array (.object "java/lang/Object"))) (by decide)
  have Fn32_allowNulls : Fld Z h32 b32 "java/util/ImmutableCollections$ListN" "allowNulls" "Z" (.int (0 : Int32)) := D32 (Or.inr (w_244 hw)) (ty := .boolean) (by decide)
  have z4 := Nat.le_trans Z0 (Nat.le_trans (Nat.le_trans (Nat.le_trans s0 s1) s2) s3)
  have g_b32 : n0 ≤ b32 := Nat.le_trans z4 (Nat.le_of_eq g32.symm)
  have z5 := Nat.le_trans Z0 (Nat.le_trans (Nat.le_trans (Nat.le_trans (Nat.le_trans s0 s1) s2) s3) s4)
  obtain ⟨_, T33, L33, X33, hQ33, st33⟩ := own_specialNest X32 hx hZ hown (y := y_30) (a := b32) (own_mvNest hZ (w_233 hw)) (w_234 hw) (w_232 hw) (w_236 hw) (rm38 l Z a0 hw [] b32 b5 h32 n0 z5 Fn32_elements A32 g_b32 Fn32_allowNulls) e32 (Ls := #[.val (.ref a1), .val (.ref b5), .val (.int (3 : Int32))]) (by rw [hml]; rfl) (argsL := [(.ref b5), (.int (0 : Int32))]) (rest := [(.ref b32)]) (lenOf pd_19 rfl) (hb hby d29_35) (W := 1)
  obtain ⟨rfl, Nq33, K33, o33_0, o33_1, o33_2⟩ := hQ33
  have N33 := Fr.app N29 Nq33
  have s5 := K33.1
  have sz_b32 : h0.size ≤ b32 := Nat.le_trans (Nat.le_trans (Nat.le_trans (Nat.le_trans s0 s1) s2) s3) (Nat.le_of_eq g32.symm)
  have sz_b5 : h0.size ≤ b5 := (Nat.le_of_eq g5.symm)
  have Ex34 := (((((B5.wr W13).wr W21).wr W29).ext E32).keep K33)
  have ne_b5_b32 := Nat.ne_of_lt (Nat.lt_of_lt_of_le Vs29.lt (Nat.le_of_eq g32.symm))
  have Va35 := ((Vs29.ext E32).keep K33 (ninS ne_b5_b32 nin0))
  have Kp0 : Keep h0 h5 [] := (Keep.refl h0 []).ext E5
  have Kp1 : Keep h0 h13 [] := Kp0.wr W13 (Or.inr sz_b5)
  have Kp2 : Keep h0 h21 [] := Kp1.wr W21 (Or.inr sz_b5)
  have Kp3 : Keep h0 h29 [] := Kp2.wr W29 (Or.inr sz_b5)
  have Kp4 : Keep h0 h32 [] := Kp3.ext E32
  have Kp5 : Keep h0 T33.heap [] := Kp4.trans K33 (allS (Or.inr sz_b32) all0)
  refine ⟨T33, _, _, _, (some (.ref b32)), X33, nofun, by decide, by decide, ?_, fun fs hr => ?_⟩
  · show Q39 Z a1 a2 k3 h0 n0 _ T33.heap _
    exact ⟨b32, b5, k5, rfl, N33, Kp5, sz_b32, o33_0, o33_1, o33_2, sz_b5, Ex34, O5, Va35, (Ne.symm ne_b5_b32)⟩
  · show Steps p.tables e below (s₁.setTop (mkF m 0 #[.val (.ref a1), .unset, .unset] [])) _
    refine XS.aloadN X0.here hx rfl (hb hby d29_0) rfl rfl ?_
    refine X0.arraylength hx (by rw [e0]; exact Ar4.1) (State.isArrayOf_alike hZ.alike Ar4.2.1) (g := (mkF m 1 #[.val (.ref a1), .unset, .unset] [(.ref a1)])) rfl rfl (hb hby d29_1) _ ?_
    show Steps p.tables e below (s₁.setTop (mkF m 2 #[.val (.ref a1), .unset, .unset] [(.int cl4.slots.size.toInt32)])) _
    rw [len_of S4 M4]
    refine st5 _ ?_
    refine XS.astoreN X5.here hx rfl (hb hby d29_5) rfl rfl (l' := #[.val (.ref a1), .val (.ref b5), .unset]) rfl ?_
    refine XS.iconst X5.here hx rfl (hb hby d29_6) ?_
    refine XS.istoreN X5.here hx rfl (hb hby d29_7) rfl (l' := #[.val (.ref a1), .val (.ref b5), .val (.int (0 : Int32))]) rfl ?_
    refine XS.iloadN X5.here hx rfl (hb hby d29_8) rfl ?_
    refine XS.aloadN X5.here hx rfl (hb hby d29_9) rfl rfl ?_
    refine X5.arraylength hx (by rw [e5]; exact Ar7.1) (State.isArrayOf_alike hZ.alike Ar7.2.1) (g := (mkF m 10 #[.val (.ref a1), .val (.ref b5), .val (.int (0 : Int32))] [(.ref a1), (.int (0 : Int32))])) rfl rfl (hb hby d29_10) _ ?_
    show Steps p.tables e below (T5.setTop (mkF m 11 #[.val (.ref a1), .val (.ref b5), .val (.int (0 : Int32))] [(.int cl7.slots.size.toInt32), (.int (0 : Int32))])) _
    rw [len_of S7 M7]
    refine XS.icmpNo X5.here hx rfl (hb hby d29_11) rfl (tlt ((by decide : (0 : Int32) < (3 : Int32)) : (0 : Int32) < (3 : Int32))).2.1 ?_
    refine XS.aloadN X5.here hx rfl (hb hby d29_14) rfl rfl ?_
    refine XS.iloadN X5.here hx rfl (hb hby d29_15) rfl ?_
    refine XS.aloadN X5.here hx rfl (hb hby d29_16) rfl rfl ?_
    refine XS.iloadN X5.here hx rfl (hb hby d29_17) rfl ?_
    refine X5.aaload hx (j := (0 : Int32)) (v := (.ref a2)) (by rw [e5]; exact Ar7.1) (State.isArrayOf_alike hZ.alike Ar7.2.1) rfl Ar7.2.2 hin8 (Has.at Hs7 hin8 rfl) (g := (mkF m 18 #[.val (.ref a1), .val (.ref b5), .val (.int (0 : Int32))] [(.int (0 : Int32)), (.ref a1), (.int (0 : Int32)), (.ref b5)])) rfl rfl (hb hby d29_18) _ ?_
    refine st9 _ ?_
    refine st13 _ ?_
    refine XS.iinc X13.here hx rfl (hb hby d29_23) rfl (l' := #[.val (.ref a1), .val (.ref b5), .val (.int (1 : Int32))]) rfl ?_
    refine XS.goto X13.here hx rfl (pc0 := 26) (pc' := 8) rfl (hb hby d29_26) (by decide) (by decide) ?_
    refine XS.iloadN X13.here hx rfl (hb hby d29_8) rfl ?_
    show Steps p.tables e below (T13.setTop (mkF m 9 #[.val (.ref a1), .val (.ref b5), .val (.int (1 : Int32))] [(.int (1 : Int32))])) _
    refine XS.aloadN X13.here hx rfl (hb hby d29_9) rfl rfl ?_
    refine X13.arraylength hx (by rw [e13]; exact Ar15.1) (State.isArrayOf_alike hZ.alike Ar15.2.1) (g := (mkF m 10 #[.val (.ref a1), .val (.ref b5), .val (.int (1 : Int32))] [(.ref a1), (.int (1 : Int32))])) rfl rfl (hb hby d29_10) _ ?_
    show Steps p.tables e below (T13.setTop (mkF m 11 #[.val (.ref a1), .val (.ref b5), .val (.int (1 : Int32))] [(.int cl15.slots.size.toInt32), (.int (1 : Int32))])) _
    rw [len_of S15 M15]
    refine XS.icmpNo X13.here hx rfl (hb hby d29_11) rfl (tlt ((by decide : (1 : Int32) < (3 : Int32)) : (1 : Int32) < (3 : Int32))).2.1 ?_
    refine XS.aloadN X13.here hx rfl (hb hby d29_14) rfl rfl ?_
    refine XS.iloadN X13.here hx rfl (hb hby d29_15) rfl ?_
    refine XS.aloadN X13.here hx rfl (hb hby d29_16) rfl rfl ?_
    refine XS.iloadN X13.here hx rfl (hb hby d29_17) rfl ?_
    refine X13.aaload hx (j := (1 : Int32)) (v := (.ref a2)) (by rw [e13]; exact Ar15.1) (State.isArrayOf_alike hZ.alike Ar15.2.1) rfl Ar15.2.2 hin16 (Has.at Hs15 hin16 rfl) (g := (mkF m 18 #[.val (.ref a1), .val (.ref b5), .val (.int (1 : Int32))] [(.int (1 : Int32)), (.ref a1), (.int (1 : Int32)), (.ref b5)])) rfl rfl (hb hby d29_18) _ ?_
    refine st17 _ ?_
    refine st21 _ ?_
    refine XS.iinc X21.here hx rfl (hb hby d29_23) rfl (l' := #[.val (.ref a1), .val (.ref b5), .val (.int (2 : Int32))]) rfl ?_
    refine XS.goto X21.here hx rfl (pc0 := 26) (pc' := 8) rfl (hb hby d29_26) (by decide) (by decide) ?_
    refine XS.iloadN X21.here hx rfl (hb hby d29_8) rfl ?_
    show Steps p.tables e below (T21.setTop (mkF m 9 #[.val (.ref a1), .val (.ref b5), .val (.int (2 : Int32))] [(.int (2 : Int32))])) _
    refine XS.aloadN X21.here hx rfl (hb hby d29_9) rfl rfl ?_
    refine X21.arraylength hx (by rw [e21]; exact Ar23.1) (State.isArrayOf_alike hZ.alike Ar23.2.1) (g := (mkF m 10 #[.val (.ref a1), .val (.ref b5), .val (.int (2 : Int32))] [(.ref a1), (.int (2 : Int32))])) rfl rfl (hb hby d29_10) _ ?_
    show Steps p.tables e below (T21.setTop (mkF m 11 #[.val (.ref a1), .val (.ref b5), .val (.int (2 : Int32))] [(.int cl23.slots.size.toInt32), (.int (2 : Int32))])) _
    rw [len_of S23 M23]
    refine XS.icmpNo X21.here hx rfl (hb hby d29_11) rfl (tlt ((by decide : (2 : Int32) < (3 : Int32)) : (2 : Int32) < (3 : Int32))).2.1 ?_
    refine XS.aloadN X21.here hx rfl (hb hby d29_14) rfl rfl ?_
    refine XS.iloadN X21.here hx rfl (hb hby d29_15) rfl ?_
    refine XS.aloadN X21.here hx rfl (hb hby d29_16) rfl rfl ?_
    refine XS.iloadN X21.here hx rfl (hb hby d29_17) rfl ?_
    refine X21.aaload hx (j := (2 : Int32)) (v := (.ref a2)) (by rw [e21]; exact Ar23.1) (State.isArrayOf_alike hZ.alike Ar23.2.1) rfl Ar23.2.2 hin24 (Has.at Hs23 hin24 rfl) (g := (mkF m 18 #[.val (.ref a1), .val (.ref b5), .val (.int (2 : Int32))] [(.int (2 : Int32)), (.ref a1), (.int (2 : Int32)), (.ref b5)])) rfl rfl (hb hby d29_18) _ ?_
    refine st25 _ ?_
    refine st29 _ ?_
    refine XS.iinc X29.here hx rfl (hb hby d29_23) rfl (l' := #[.val (.ref a1), .val (.ref b5), .val (.int (3 : Int32))]) rfl ?_
    refine XS.goto X29.here hx rfl (pc0 := 26) (pc' := 8) rfl (hb hby d29_26) (by decide) (by decide) ?_
    refine XS.iloadN X29.here hx rfl (hb hby d29_8) rfl ?_
    show Steps p.tables e below (T29.setTop (mkF m 9 #[.val (.ref a1), .val (.ref b5), .val (.int (3 : Int32))] [(.int (3 : Int32))])) _
    refine XS.aloadN X29.here hx rfl (hb hby d29_9) rfl rfl ?_
    refine X29.arraylength hx (by rw [e29]; exact Ar31.1) (State.isArrayOf_alike hZ.alike Ar31.2.1) (g := (mkF m 10 #[.val (.ref a1), .val (.ref b5), .val (.int (3 : Int32))] [(.ref a1), (.int (3 : Int32))])) rfl rfl (hb hby d29_10) _ ?_
    show Steps p.tables e below (T29.setTop (mkF m 11 #[.val (.ref a1), .val (.ref b5), .val (.int (3 : Int32))] [(.int cl31.slots.size.toInt32), (.int (3 : Int32))])) _
    rw [len_of S31 M31]
    refine XS.icmpYes X29.here hx rfl (pc0 := 11) (pc' := 29) rfl (hb hby d29_11) rfl (flt ((by decide : ¬ ((3 : Int32) < (3 : Int32))) : ¬ ((3 : Int32) < (3 : Int32)))).2.1 (by decide) (by decide) ?_
    refine st32 _ ?_
    refine XS.dup X32.here hx rfl (hb hby d29_32) rfl rfl ?_
    refine XS.aloadN X32.here hx rfl (hb hby d29_33) rfl rfl ?_
    refine XS.iconst X32.here hx rfl (hb hby d29_34) ?_
    refine st33 _ ?_
    exact retOut X33 hx hret rfl (Or.inr (Or.inr (Or.inr (Or.inr ⟨rfl, rfl, rfl⟩)))) (hb hby d29_38) hr
theorem w_228 {a0 : Array Value} {Z : State} (hw : ∀ d ∈ tables_1, d.before a0 Z = true) : Jvm.Cond.before (Jvm.Cond.code ({ cls := "java/util/ImmutableCollections", name := "listFromArray", desc := "([Ljava/lang/Object;)Ljava/util/List;" } : Jvm.MethodName) jdk_56_method_4_code (3 : Nat) (Option.some (Jvm.ClassFile.FieldType.object "java/util/List"))) a0 Z = true := hw _ (List.mem_of_getElem? (i := 228) rfl)
theorem w_226 {a0 : Array Value} {Z : State} (hw : ∀ d ∈ tables_1, d.before a0 Z = true) : Jvm.Cond.before (Jvm.Cond.methodLink "java/util/List" (109 : Nat) ({ cls := "java/util/ImmutableCollections", name := "listFromArray", desc := "([Ljava/lang/Object;)Ljava/util/List;" } : Jvm.MethodName)) a0 Z = true := hw _ (List.mem_of_getElem? (i := 226) rfl)
theorem w_227 {a0 : Array Value} {Z : State} (hw : ∀ d ∈ tables_1, d.before a0 Z = true) : Jvm.Cond.before (Jvm.Cond.static ({ cls := "java/util/ImmutableCollections", name := "listFromArray", desc := "([Ljava/lang/Object;)Ljava/util/List;" } : Jvm.MethodName)) a0 Z = true := hw _ (List.mem_of_getElem? (i := 227) rfl)
theorem d23_63 : decode jdk_40_method_47_code 63 = .ok (.areturn, 1) := by decide +kernel
-- java/util/List.of([Ljava/lang/Object;)Ljava/util/List;
abbrev Rm40 : Room := { frames := 6, cells := 2, slots := 5, locals := 77 }
def Q40 (Z : State) (a1 : Addr) (a2 : Addr) (k3 : ClassId) (h0 : Heap) (n0 : Nat) (v : Option Value) (h : Heap) (L : List Loc) : Prop := ∃ b5_b32 : Addr, ∃ b5_b5 : Addr, ∃ k5_k5 : ClassId, v = some (.ref b5_b32) ∧ Fr n0 L ∧ Keep h0 h [] ∧ h0.size ≤ b5_b32 ∧ Exa Z h b5_b32 "java/util/ImmutableCollections$ListN" ∧ Fld Z h b5_b32 "java/util/ImmutableCollections$ListN" "allowNulls" "Z" (.int (0 : Int32)) ∧ Fld Z h b5_b32 "java/util/ImmutableCollections$ListN" "elements" "[Ljava/lang/Object;" (.ref b5_b5) ∧ h0.size ≤ b5_b5 ∧ Exa Z h b5_b5 "[Ljava/lang/Object;" ∧ Ovr Z k5_k5 "java/lang/Object" ∧ Arv Z h b5_b5 k5_k5 (.object "java/lang/Object") (3 : Int32) [(.ref a2), (.ref a2), (.ref a2)] .null ∧ b5_b32 ≠ b5_b5
theorem ef40 (a1 : Addr) (m : MethodId) : entryFrame m #[(.ref a1)] 2 = mkF m 0 #[.val (.ref a1), .unset] [] := by first | (simp [entryFrame, mkF, argsToLocals, Value.category]; done) | rfl
theorem rm40 (l : Launch) (Z : State) (a0 : Array Value) (hw : ∀ d ∈ tables_1, d.before a0 Z = true) (ws : List Jvm.Cond) (a1 : Addr) (a2 : Addr) (k3 : ClassId) (h0 : Heap) (n0 : Nat) (Z0 : n0 ≤ h0.size) (V_a1 : Arv Z h0 a1 k3 (.object "java/lang/Object") (3 : Int32) [(.ref a2), (.ref a2), (.ref a2)] .null) (E_a2 : Exa Z h0 a2 "com/example/feedergen/feedergen/core/GeoPoint") :
    OwnMet l Z y_25 jdk_40_method_47_code 2 (some (.object "java/util/List")) ws Rm40 #[(.ref a1)] h0 (Q40 Z a1 a2 k3 h0 n0) := by
  refine own_body (plainFor_of_name pn_12) (ef40 a1) ?_
  intro p e s m below meth c s₁ hx hby hml hown hnm hret hZ X0 e0
  have N0 := Fr.nil n0
  obtain ⟨cl4, Ar4, q4, S4, M4, Hs4, G4⟩ := id V_a1
  obtain ⟨_, T5, L5, X5, hQ5, st5⟩ := own_callS X0 hx hZ hown (y := y_31) (w_226 hw) (w_227 hw) (w_135 hw) (w_228 hw) (rm39 l Z a0 hw [] a1 a2 k3 h0 n0 Z0 V_a1 E_a2) e0 (Ls := #[.val (.ref a1), .unset]) (by rw [hml]; rfl) (argsL := [(.ref a1)]) (rest := []) (lenOf pd_15 rfl) (hb hby d23_60) (W := 0)
  obtain ⟨b5_b32, b5_b5, k5_k5, rfl, Nq5, K5, o5_0, o5_1, o5_2, o5_3, o5_4, o5_5, o5_6, o5_7, o5_8⟩ := hQ5
  have N5 := Fr.app N0 Nq5
  have s0 := K5.1
  have sz_b5_b32 : h0.size ≤ b5_b32 := o5_0
  have sz_b5_b5 : h0.size ≤ b5_b5 := o5_4
  have Kp0 : Keep h0 T5.heap [] := (Keep.refl h0 []).trans K5 all0
  refine ⟨T5, _, _, _, (some (.ref b5_b32)), X5, nofun, by decide, by decide, ?_, fun fs hr => ?_⟩
  · show Q40 Z a1 a2 k3 h0 n0 _ T5.heap _
    exact ⟨b5_b32, b5_b5, k5_k5, rfl, N5, Kp0, sz_b5_b32, o5_1, o5_2, o5_3, sz_b5_b5, o5_5, o5_6, o5_7, o5_8⟩
  · show Steps p.tables e below (s₁.setTop (mkF m 0 #[.val (.ref a1), .unset] [])) _
    refine XS.aloadN X0.here hx rfl (hb hby d23_0) rfl rfl ?_
    refine X0.arraylength hx (by rw [e0]; exact Ar4.1) (State.isArrayOf_alike hZ.alike Ar4.2.1) (g := (mkF m 1 #[.val (.ref a1), .unset] [(.ref a1)])) rfl rfl (hb hby d23_1) _ ?_
    show Steps p.tables e below (s₁.setTop (mkF m 2 #[.val (.ref a1), .unset] [(.int cl4.slots.size.toInt32)])) _
    rw [len_of S4 M4]
    refine XS.tswOut X0.here hx rfl (pc0 := 2) (pc' := 59) rfl (hb hby d23_2) rfl (by decide) (by decide) (by decide) ?_
    refine XS.aloadN X0.here hx rfl (hb hby d23_59) rfl rfl ?_
    refine st5 _ ?_
    exact retOut X5 hx hret rfl (Or.inr (Or.inr (Or.inr (Or.inr ⟨rfl, rfl, rfl⟩)))) (hb hby d23_63) hr
-- java/util/ImmutableCollections.listCopy(Ljava/util/Collection;)Ljava/util/List;
abbrev Rm41 : Room := { frames := 7, cells := 3, slots := 8, locals := 90 }
def Q41 (Z : State) (a1 : Addr) (a5 : Addr) (a6 : Addr) (a7 : Addr) (k8 : ClassId) (h0 : Heap) (n0 : Nat) (v : Option Value) (h : Heap) (L : List Loc) : Prop := ∃ b11_b5_b32 : Addr, ∃ b11_b5_b5 : Addr, ∃ k11_k5_k5 : ClassId, v = some (.ref b11_b5_b32) ∧ Fr n0 L ∧ Keep h0 h [] ∧ h0.size ≤ b11_b5_b32 ∧ Exa Z h b11_b5_b32 "java/util/ImmutableCollections$ListN" ∧ Fld Z h b11_b5_b32 "java/util/ImmutableCollections$ListN" "allowNulls" "Z" (.int (0 : Int32)) ∧ Fld Z h b11_b5_b32 "java/util/ImmutableCollections$ListN" "elements" "[Ljava/lang/Object;" (.ref b11_b5_b5) ∧ h0.size ≤ b11_b5_b5 ∧ Exa Z h b11_b5_b5 "[Ljava/lang/Object;" ∧ Ovr Z k11_k5_k5 "java/lang/Object" ∧ Arv Z h b11_b5_b5 k11_k5_k5 (.object "java/lang/Object") (3 : Int32) [(.ref a7), (.ref a7), (.ref a7)] .null ∧ b11_b5_b32 ≠ b11_b5_b5
theorem ef41 (a1 : Addr) (m : MethodId) : entryFrame m #[(.ref a1)] 2 = mkF m 0 #[.val (.ref a1), .unset] [] := by first | (simp [entryFrame, mkF, argsToLocals, Value.category]; done) | rfl
theorem rm41 (l : Launch) (Z : State) (a0 : Array Value) (hw : ∀ d ∈ tables_1, d.before a0 Z = true) (ws : List Jvm.Cond) (a1 : Addr) (a5 : Addr) (a6 : Addr) (a7 : Addr) (k8 : ClassId) (h0 : Heap) (n0 : Nat) (Z0 : n0 ≤ h0.size) (E_a1 : Exa Z h0 a1 "java/util/ArrayList") (F_size_a1 : Fld Z h0 a1 "java/util/ArrayList" "size" "I" (.int (3 : Int32))) (F_elementData_a1 : Fld Z h0 a1 "java/util/ArrayList" "elementData" "[Ljava/lang/Object;" (.ref a5)) (E_a5 : Exa Z h0 a5 "[Ljava/lang/Object;") (M_1 : OwnMir Z "[Ljava/lang/Object;" a6) (V_a5 : Arv Z h0 a5 k8 (.object "java/lang/Object") (10 : Int32) [(.ref a7), (.ref a7), (.ref a7), .null, .null, .null, .null, .null, .null, .null] .null) (E_a7 : Exa Z h0 a7 "com/example/feedergen/feedergen/core/GeoPoint") :
    OwnMet l Z y_26 jdk_56_method_3_code 2 (some (.object "java/util/List")) ws Rm41 #[(.ref a1)] h0 (Q41 Z a1 a5 a6 a7 k8 h0 n0) := by
  refine own_body (plainFor_of_name pn_13) (ef41 a1) ?_
  intro p e s m below meth c s₁ hx hby hml hown hnm hret hZ X0 e0
  have N0 := Fr.nil n0
  obtain ⟨T2, X2, e2, st2⟩ := instNo X0 hx hZ hown (w_137 hw) e0 E_a1 (own_NSno (w_138 hw) (w_186 hw) (NS.step (w_138 hw) (NS.step (w_139 hw) (NS.step (w_140 hw) (own_NSroot (w_141 hw) (w_186 hw) (by decide)) (by decide)) (by decide)) (by decide)) (by decide)) (g := (mkF m 1 #[.val (.ref a1), .unset] [(.ref a1)])) rfl rfl (hb hby d17_1)
  obtain ⟨T3, X3, e3, st3⟩ := instNo X2 hx hZ hown (w_142 hw) e2 E_a1 (own_NSno (w_138 hw) (w_231 hw) (NS.step (w_138 hw) (NS.step (w_139 hw) (NS.step (w_140 hw) (own_NSroot (w_141 hw) (w_231 hw) (by decide)) (by decide)) (by decide)) (by decide)) (by decide)) (g := (mkF m 8 #[.val (.ref a1), .unset] [(.ref a1)])) rfl rfl (hb hby d17_8)
  obtain ⟨_, T4, L4, X4, hQ4, st4⟩ := own_iface X3 hx hZ hown (y := y_15) (z := y_14) E_a1 (w_143 hw) (w_144 hw) (w_145 hw) (w_146 hw) (w_147 hw) (w_148 hw) (w_149 hw) (w_150 hw) (w_30 hw) (w_151 hw) (rm33 l Z a0 hw [] a1 h0 n0 Z0 F_size_a1) e3 (Ls := #[.val (.ref a1), .unset]) (by rw [hml]; rfl) (argsL := []) (rest := []) (lenOf pd_10 rfl) (hb hby d17_32) (W := 0)
  obtain ⟨rfl, Nq4, e4⟩ := hQ4
  have N4 := Fr.app N0 Nq4
  obtain ⟨_, T9, L9, X9, hQ9, st9⟩ := own_iface X4 hx hZ hown (y := y_20) (z := y_19) E_a1 (w_152 hw) (w_153 hw) (w_154 hw) (w_155 hw) (w_156 hw) (w_157 hw) (w_158 hw) (w_150 hw) (w_30 hw) (w_159 hw) (rm37 l Z a0 hw [] a1 a5 a6 a7 k8 h0 n0 Z0 F_elementData_a1 F_size_a1 E_a5 M_1 V_a5 E_a7) e4 (Ls := #[.val (.ref a1), .unset]) (by rw [hml]; rfl) (argsL := []) (rest := []) (lenOf pd_5 rfl) (hb hby d17_45) (W := 0)
  obtain ⟨b9_b8_b6_b4, k9_k8_k6_k4, rfl, Nq9, K9, o9_0, o9_1, o9_2, o9_3⟩ := hQ9
  have N9 := Fr.app N4 Nq9
  have s0 := K9.1
  have Ex10 := (E_a7.keep K9)
  have z1 := Nat.le_trans Z0 s0
  obtain ⟨_, T11, L11, X11, hQ11, st11⟩ := own_callS X9 hx hZ hown (y := y_25) (w_182 hw) (w_183 hw) (w_131 hw) (w_184 hw) (rm40 l Z a0 hw [] b9_b8_b6_b4 a7 k9_k8_k6_k4 T9.heap n0 z1 o9_3 Ex10) rfl (Ls := #[.val (.ref a1), .unset]) (by rw [hml]; rfl) (argsL := [(.ref b9_b8_b6_b4)]) (rest := []) (lenOf pd_15 rfl) (hb hby d17_50) (W := 0)
  obtain ⟨b11_b5_b32, b11_b5_b5, k11_k5_k5, rfl, Nq11, K11, o11_0, o11_1, o11_2, o11_3, o11_4, o11_5, o11_6, o11_7, o11_8⟩ := hQ11
  have N11 := Fr.app N9 Nq11
  have s1 := K11.1
  have sz_b11_b5_b32 : h0.size ≤ b11_b5_b32 := Nat.le_trans s0 o11_0
  have sz_b11_b5_b5 : h0.size ≤ b11_b5_b5 := Nat.le_trans s0 o11_4
  have Kp0 : Keep h0 T9.heap [] := (Keep.refl h0 []).trans K9 all0
  have Kp1 : Keep h0 T11.heap [] := Kp0.trans K11 all0
  refine ⟨T11, _, _, _, (some (.ref b11_b5_b32)), X11, nofun, by decide, by decide, ?_, fun fs hr => ?_⟩
  · show Q41 Z a1 a5 a6 a7 k8 h0 n0 _ T11.heap _
    exact ⟨b11_b5_b32, b11_b5_b5, k11_k5_k5, rfl, N11, Kp1, sz_b11_b5_b32, o11_1, o11_2, o11_3, sz_b11_b5_b5, o11_5, o11_6, o11_7, o11_8⟩
  · show Steps p.tables e below (s₁.setTop (mkF m 0 #[.val (.ref a1), .unset] [])) _
    refine XS.aloadN X0.here hx rfl (hb hby d17_0) rfl rfl ?_
    refine st2 _ ?_
    refine XS.ifNo X2.here hx rfl (hb hby d17_4) rfl ((if0 _ _).trans (teq ((by decide : (0 : Int32) = (0 : Int32)) : (0 : Int32) = (0 : Int32))).2) ?_
    refine XS.aloadN X2.here hx rfl (hb hby d17_7) rfl rfl ?_
    refine st3 _ ?_
    refine XS.ifYes X3.here hx rfl (pc0 := 11) (pc' := 31) rfl (hb hby d17_11) rfl ((if0 _ _).trans (teq ((by decide : (0 : Int32) = (0 : Int32)) : (0 : Int32) = (0 : Int32))).1) (by decide) (by decide) ?_
    refine XS.aloadN X3.here hx rfl (hb hby d17_31) rfl rfl ?_
    refine st4 _ ?_
    refine XS.ifYes X4.here hx rfl (pc0 := 37) (pc' := 44) rfl (hb hby d17_37) rfl ((if0 _ _).trans (teq ((by decide : (0 : Int32) = (0 : Int32)) : (0 : Int32) = (0 : Int32))).1) (by decide) (by decide) ?_
    refine XS.aloadN X4.here hx rfl (hb hby d17_44) rfl rfl ?_
    refine st9 _ ?_
    refine st11 _ ?_
    show Steps p.tables e below (T11.setTop (mkF m 53 #[.val (.ref a1), .unset] [(.ref b11_b5_b32)])) _
    exact retOut X11 hx hret rfl (Or.inr (Or.inr (Or.inr (Or.inr ⟨rfl, rfl, rfl⟩)))) (hb hby d17_53) hr
-- java/util/List.copyOf(Ljava/util/Collection;)Ljava/util/List;
abbrev Rm42 : Room := { frames := 8, cells := 3, slots := 8, locals := 103 }
def Q42 (Z : State) (a1 : Addr) (a2 : Addr) (a3 : Addr) (a4 : Addr) (k5 : ClassId) (h0 : Heap) (n0 : Nat) (v : Option Value) (h : Heap) (L : List Loc) : Prop := ∃ b6_b11_b5_b32 : Addr, ∃ b6_b11_b5_b5 : Addr, ∃ k6_k11_k5_k5 : ClassId, v = some (.ref b6_b11_b5_b32) ∧ Fr n0 L ∧ Keep h0 h [] ∧ h0.size ≤ b6_b11_b5_b32 ∧ Exa Z h b6_b11_b5_b32 "java/util/ImmutableCollections$ListN" ∧ Fld Z h b6_b11_b5_b32 "java/util/ImmutableCollections$ListN" "allowNulls" "Z" (.int (0 : Int32)) ∧ Fld Z h b6_b11_b5_b32 "java/util/ImmutableCollections$ListN" "elements" "[Ljava/lang/Object;" (.ref b6_b11_b5_b5) ∧ h0.size ≤ b6_b11_b5_b5 ∧ Exa Z h b6_b11_b5_b5 "[Ljava/lang/Object;" ∧ Ovr Z k6_k11_k5_k5 "java/lang/Object" ∧ Arv Z h b6_b11_b5_b5 k6_k11_k5_k5 (.object "java/lang/Object") (3 : Int32) [(.ref a4), (.ref a4), (.ref a4)] .null ∧ b6_b11_b5_b32 ≠ b6_b11_b5_b5
theorem ef42 (a1 : Addr) (m : MethodId) : entryFrame m #[(.ref a1)] 1 = mkF m 0 #[.val (.ref a1)] [] := by first | (simp [entryFrame, mkF, argsToLocals, Value.category]; done) | rfl
theorem rm42 (l : Launch) (Z : State) (a0 : Array Value) (hw : ∀ d ∈ tables_1, d.before a0 Z = true) (ws : List Jvm.Cond) (a1 : Addr) (a2 : Addr) (a3 : Addr) (a4 : Addr) (k5 : ClassId) (h0 : Heap) (n0 : Nat) (Z0 : n0 ≤ h0.size) (E_a1 : Exa Z h0 a1 "java/util/ArrayList") (F_size_a1 : Fld Z h0 a1 "java/util/ArrayList" "size" "I" (.int (3 : Int32))) (F_elementData_a1 : Fld Z h0 a1 "java/util/ArrayList" "elementData" "[Ljava/lang/Object;" (.ref a2)) (E_a2 : Exa Z h0 a2 "[Ljava/lang/Object;") (M_1 : OwnMir Z "[Ljava/lang/Object;" a3) (V_a2 : Arv Z h0 a2 k5 (.object "java/lang/Object") (10 : Int32) [(.ref a4), (.ref a4), (.ref a4), .null, .null, .null, .null, .null, .null, .null] .null) (E_a4 : Exa Z h0 a4 "com/example/feedergen/feedergen/core/GeoPoint") :
    OwnMet l Z y_27 jdk_40_method_48_code 1 (some (.object "java/util/List")) ws Rm42 #[(.ref a1)] h0 (Q42 Z a1 a2 a3 a4 k5 h0 n0) := by
  refine own_body (plainFor_of_name pn_12) (ef42 a1) ?_
  intro p e s m below meth c s₁ hx hby hml hown hnm hret hZ X0 e0
  have N0 := Fr.nil n0
  obtain ⟨_, T6, L6, X6, hQ6, st6⟩ := own_callS X0 hx hZ hown (y := y_26) (w_133 hw) (w_134 hw) (w_135 hw) (w_136 hw) (rm41 l Z a0 hw [] a1 a2 a3 a4 k5 h0 n0 Z0 E_a1 F_size_a1 F_elementData_a1 E_a2 M_1 V_a2 E_a4) e0 (Ls := #[.val (.ref a1)]) (by rw [hml]; rfl) (argsL := [(.ref a1)]) (rest := []) (lenOf pd_16 rfl) (hb hby d16_1) (W := 0)
  obtain ⟨b6_b11_b5_b32, b6_b11_b5_b5, k6_k11_k5_k5, rfl, Nq6, K6, o6_0, o6_1, o6_2, o6_3, o6_4, o6_5, o6_6, o6_7, o6_8⟩ := hQ6
  have N6 := Fr.app N0 Nq6
  have s0 := K6.1
  have sz_b6_b11_b5_b32 : h0.size ≤ b6_b11_b5_b32 := o6_0
  have sz_b6_b11_b5_b5 : h0.size ≤ b6_b11_b5_b5 := o6_4
  have Kp0 : Keep h0 T6.heap [] := (Keep.refl h0 []).trans K6 all0
  refine ⟨T6, _, _, _, (some (.ref b6_b11_b5_b32)), X6, nofun, by decide, by decide, ?_, fun fs hr => ?_⟩
  · show Q42 Z a1 a2 a3 a4 k5 h0 n0 _ T6.heap _
    exact ⟨b6_b11_b5_b32, b6_b11_b5_b5, k6_k11_k5_k5, rfl, N6, Kp0, sz_b6_b11_b5_b32, o6_1, o6_2, o6_3, sz_b6_b11_b5_b5, o6_5, o6_6, o6_7, o6_8⟩
  · show Steps p.tables e below (s₁.setTop (mkF m 0 #[.val (.ref a1)] [])) _
    refine XS.aloadN X0.here hx rfl (hb hby d16_0) rfl rfl ?_
    refine st6 _ ?_
    exact retOut X6 hx hret rfl (Or.inr (Or.inr (Or.inr (Or.inr ⟨rfl, rfl, rfl⟩)))) (hb hby d16_4) hr
-- com/example/feedergen/feedergen/core/StreetLink.<init>(Lcom/example/feedergen/feedergen/core/StreetWay;[JLjava/util/List;)V
abbrev Rm43 : Room := { frames := 9, cells := 4, slots := 11, locals := 115 }
def Q43 (Z : State) (a1 : Addr) (a2 : Addr) (a3 : Addr) (a4 : Addr) (q6 : Int64) (q7 : Int64) (q8 : Int64) (k9 : ClassId) (a16 : Addr) (a19 : Addr) (a20 : Addr) (k21 : ClassId) (h0 : Heap) (n0 : Nat) (v : Option Value) (h : Heap) (L : List Loc) : Prop := ∃ b12 : Addr, ∃ b24_b6_b11_b5_b32 : Addr, ∃ b24_b6_b11_b5_b5 : Addr, ∃ k24_k6_k11_k5_k5 : ClassId, v = none ∧ Fr n0 L ∧ Keep h0 h [a1] ∧ Exa Z h a1 "com/example/feedergen/feedergen/core/StreetLink" ∧ Fld Z h a1 "com/example/feedergen/feedergen/core/StreetLink" "nodes" "[J" (.ref b12) ∧ Fld Z h a1 "com/example/feedergen/feedergen/core/StreetLink" "points" "Ljava/util/List;" (.ref b24_b6_b11_b5_b32) ∧ Fld Z h a1 "com/example/feedergen/feedergen/core/StreetLink" "way" "Lcom/example/feedergen/feedergen/core/StreetWay;" (.ref a2) ∧ h0.size ≤ b12 ∧ Exa Z h b12 "[J" ∧ Arv Z h b12 k9 .long (3 : Int32) [(.long q6), (.long q7), (.long q8)] (.long (0 : Int64)) ∧ h0.size ≤ b24_b6_b11_b5_b32 ∧ Exa Z h b24_b6_b11_b5_b32 "java/util/ImmutableCollections$ListN" ∧ Fld Z h b24_b6_b11_b5_b32 "java/util/ImmutableCollections$ListN" "allowNulls" "Z" (.int (0 : Int32)) ∧ Fld Z h b24_b6_b11_b5_b32 "java/util/ImmutableCollections$ListN" "elements" "[Ljava/lang/Object;" (.ref b24_b6_b11_b5_b5) ∧ h0.size ≤ b24_b6_b11_b5_b5 ∧ Exa Z h b24_b6_b11_b5_b5 "[Ljava/lang/Object;" ∧ Ovr Z k24_k6_k11_k5_k5 "java/lang/Object" ∧ Arv Z h b24_b6_b11_b5_b5 k24_k6_k11_k5_k5 (.object "java/lang/Object") (3 : Int32) [(.ref a20), (.ref a20), (.ref a20)] .null ∧ b12 ≠ b24_b6_b11_b5_b32 ∧ b12 ≠ b24_b6_b11_b5_b5 ∧ b24_b6_b11_b5_b32 ≠ b24_b6_b11_b5_b5
theorem ef43 (a1 : Addr) (a2 : Addr) (a3 : Addr) (a4 : Addr) (m : MethodId) : entryFrame m #[(.ref a1), (.ref a2), (.ref a3), (.ref a4)] 4 = mkF m 0 #[.val (.ref a1), .val (.ref a2), .val (.ref a3), .val (.ref a4)] [] := by first | (simp [entryFrame, mkF, argsToLocals, Value.category]; done) | rfl
theorem rm43 (l : Launch) (Z : State) (a0 : Array Value) (hw : ∀ d ∈ tables_1, d.before a0 Z = true) (ws : List Jvm.Cond) (a1 : Addr) (a2 : Addr) (a3 : Addr) (a4 : Addr) (q6 : Int64) (q7 : Int64) (q8 : Int64) (k9 : ClassId) (a16 : Addr) (a19 : Addr) (a20 : Addr) (k21 : ClassId) (h0 : Heap) (n0 : Nat) (Z0 : n0 ≤ h0.size) (V_a3 : Arv Z h0 a3 k9 .long (3 : Int32) [(.long q6), (.long q7), (.long q8)] (.long (0 : Int64))) (E_a4 : Exa Z h0 a4 "java/util/ArrayList") (F_size_a4 : Fld Z h0 a4 "java/util/ArrayList" "size" "I" (.int (3 : Int32))) (E_a3 : Exa Z h0 a3 "[J") (F_elementData_a4 : Fld Z h0 a4 "java/util/ArrayList" "elementData" "[Ljava/lang/Object;" (.ref a16)) (E_a16 : Exa Z h0 a16 "[Ljava/lang/Object;") (M_1 : OwnMir Z "[Ljava/lang/Object;" a19) (V_a16 : Arv Z h0 a16 k21 (.object "java/lang/Object") (10 : Int32) [(.ref a20), (.ref a20), (.ref a20), .null, .null, .null, .null, .null, .null, .null] .null) (E_a20 : Exa Z h0 a20 "com/example/feedergen/feedergen/core/GeoPoint") (F_way_a1 : Fld Z h0 a1 "com/example/feedergen/feedergen/core/StreetLink" "way" "Lcom/example/feedergen/feedergen/core/StreetWay;" .null) (E_a1 : Exa Z h0 a1 "com/example/feedergen/feedergen/core/StreetLink") (g_a1 : n0 ≤ a1) (F_nodes_a1 : Fld Z h0 a1 "com/example/feedergen/feedergen/core/StreetLink" "nodes" "[J" .null) (F_points_a1 : Fld Z h0 a1 "com/example/feedergen/feedergen/core/StreetLink" "points" "Ljava/util/List;" .null) :
    OwnMet l Z y_28 prog_31_method_1_code 4 none ws Rm43 #[(.ref a1), (.ref a2), (.ref a3), (.ref a4)] h0 (Q43 Z a1 a2 a3 a4 q6 q7 q8 k9 a16 a19 a20 k21 h0 n0) := by
  refine own_body (plainFor_of_name pn_14) (ef43 a1 a2 a3 a4) ?_
  intro p e s m below meth c s₁ hx hby hml hown hnm hret hZ X0 e0
  have N0 := Fr.nil n0
  obtain ⟨_, T5, L5, X5, hQ5, st5⟩ := own_special X0 hx hZ hown (y := y_0) (a := a1) (w_117 hw) (w_9 hw) (w_11 hw) (w_12 hw) (rm1 l Z a0 hw [] a1 h0 n0 Z0) e0 (Ls := #[.val (.ref a1), .val (.ref a2), .val (.ref a3), .val (.ref a4)]) (by rw [hml]; rfl) (argsL := []) (rest := []) (lenOf pd_0 rfl) (hb hby d14_1) (W := 0)
  obtain ⟨rfl, Nq5, e5⟩ := hQ5
  have N5 := Fr.app N0 Nq5
  obtain ⟨cl10, Ar10, q10, S10, M10, Hs10, G10⟩ := id V_a3
  obtain ⟨_, T11, L11, X11, hQ11, st11⟩ := own_iface X5 hx hZ hown (y := y_13) (z := y_12) E_a4 (w_118 hw) (w_119 hw) (w_120 hw) (w_121 hw) (w_122 hw) (w_123 hw) (w_124 hw) (w_125 hw) (w_30 hw) (w_126 hw) (rm32 l Z a0 hw [] a4 h0 n0 Z0 F_size_a4) e5 (Ls := #[.val (.ref a1), .val (.ref a2), .val (.ref a3), .val (.ref a4)]) (by rw [hml]; rfl) (argsL := []) (rest := []) (lenOf pd_9 rfl) (hb hby d14_11) (W := 0)
  obtain ⟨rfl, Nq11, e11⟩ := hQ11
  have N11 := Fr.app N5 Nq11
  obtain ⟨T12, h12, X12, e12, E12, V12, B12, st12⟩ := cloneH X11 hx hZ hown (w_127 hw) (w_91 hw) (w_95 hw) (w_93 hw) (w_94 hw) (w_96 hw) e11 (Arv.arh V_a3) E_a3 (g := (mkF m 47 #[.val (.ref a1), .val (.ref a2), .val (.ref a3), .val (.ref a4)] [(.ref a3)])) rfl (by rw [hml]; rfl) rfl (hb hby d14_47) (by decide) (W := 0) (cap := 3) (by show 2 * 0 + _ ≤ _; exact Nat.le_of_eq rfl) (by decide) (by decide) (by decide) (by decide)
  obtain ⟨b12, g12⟩ : ∃ z, z = h0.size := ⟨_, rfl⟩
  rw [← g12] at V12 B12 st12
  have s0 := E12.1
  have Vn12 : Arv Z h12 b12 k9 .long (3 : Int32) [(.long q6), (.long q7), (.long q8)] (.long (0 : Int64)) := own_arv_of_arh V12
  obtain ⟨T13, X13, e13, st13⟩ := castY X12 hx hZ hown (w_128 hw) e12 (Ins.self B12) (g := (mkF m 50 #[.val (.ref a1), .val (.ref a2), .val (.ref a3), .val (.ref a4)] [(.ref b12)])) rfl rfl (hb hby d14_50)
  have Ex14 := (E_a4.ext E12)
  have Fl15 := (F_size_a4.ext E12)
  have Fl17 := (F_elementData_a4.ext E12)
  have Ex18 := (E_a16.ext E12)
  have Va22 := (V_a16.ext E12)
  have Ex23 := (E_a20.ext E12)
  have z1 := Nat.le_trans Z0 s0
  obtain ⟨_, T24, L24, X24, hQ24, st24⟩ := own_callS X13 hx hZ hown (y := y_27) (w_129 hw) (w_130 hw) (w_131 hw) (w_132 hw) (rm42 l Z a0 hw [] a4 a16 a19 a20 k21 h12 n0 z1 Ex14 Fl15 Fl17 Ex18 M_1 Va22 Ex23) e13 (Ls := #[.val (.ref a1), .val (.ref a2), .val (.ref b12), .val (.ref a4)]) (by rw [hml]; rfl) (argsL := [(.ref a4)]) (rest := []) (lenOf pd_16 rfl) (hb hby d14_55) (W := 0)
  obtain ⟨b24_b6_b11_b5_b32, b24_b6_b11_b5_b5, k24_k6_k11_k5_k5, rfl, Nq24, K24, o24_0, o24_1, o24_2, o24_3, o24_4, o24_5, o24_6, o24_7, o24_8⟩ := hQ24
  have N24 := Fr.app N11 Nq24
  have s1 := K24.1
  have Fl25 := ((F_way_a1.ext E12).keep K24 nin0)
  have Ex26 := ((E_a1.ext E12).keep K24)
  obtain ⟨T27, h27, X27, e27, W27, st27⟩ := putF X24 hx hZ hown (host := "") (Or.inl (w_214 hw)) Via.refl rfl Fl25 Ex26 (Or.inr ⟨(w_215 hw), rfl, hnm⟩) (w_112 hw) (ty := (.object "com/example/feedergen/feedergen/core/StreetWay")) (by decide) rfl rfl (g := (mkF m 61 #[.val (.ref a1), .val (.ref a2), .val (.ref b12), .val (.ref b24_b6_b11_b5_b32)] [(.ref a2), (.ref a1)])) rfl rfl (hb hby d14_61)
  have s2 := (Keep.of_wr W27).1
  have N27 := Fr.snoc X27 N24 g_a1
  have Fw27 : Fld Z h27 a1 "com/example/feedergen/feedergen/core/StreetLink" "way" "Lcom/example/feedergen/feedergen/core/StreetWay;" (.ref a2) := Fl25.same W27
  have Ex28 := (Ex26.wr W27)
  have Fl29 := (((F_nodes_a1.ext E12).keep K24 nin0).other W27 (Or.inr (slot_ne (Or.inr (w_217 hw)) (Or.inr (w_215 hw)) (by decide) (t := (.array .long)) (t' := (.object "com/example/feedergen/feedergen/core/StreetWay")) (by decide) (by decide))))
  obtain ⟨T30, h30, X30, e30, W30, st30⟩ := putF X27 hx hZ hown (host := "") (Or.inl (w_216 hw)) Via.refl e27 Fl29 Ex28 (Or.inr ⟨(w_217 hw), rfl, hnm⟩) (w_112 hw) (ty := (.array .long)) (by decide) rfl rfl (g := (mkF m 66 #[.val (.ref a1), .val (.ref a2), .val (.ref b12), .val (.ref b24_b6_b11_b5_b32)] [(.ref b12), (.ref a1)])) rfl rfl (hb hby d14_66)
  have s3 := (Keep.of_wr W30).1
  have N30 := Fr.snoc X30 N27 g_a1
  have Fw30 : Fld Z h30 a1 "com/example/feedergen/feedergen/core/StreetLink" "nodes" "[J" (.ref b12) := Fl29.same W30
  have Ex31 := (Ex28.wr W30)
  have Fl32 := ((((F_points_a1.ext E12).keep K24 nin0).other W27 (Or.inr (slot_ne (Or.inr (w_219 hw)) (Or.inr (w_215 hw)) (by decide) (t := (.object "java/util/List")) (t' := (.object "com/example/feedergen/feedergen/core/StreetWay")) (by decide) (by decide)))).other W30 (Or.inr (slot_ne (Or.inr (w_219 hw)) (Or.inr (w_217 hw)) (by decide) (t := (.object "java/util/List")) (t' := (.array .long)) (by decide) (by decide))))
  obtain ⟨T33, h33, X33, e33, W33, st33⟩ := putF X30 hx hZ hown (host := "") (Or.inl (w_218 hw)) Via.refl e30 Fl32 Ex31 (Or.inr ⟨(w_219 hw), rfl, hnm⟩) (w_112 hw) (ty := (.object "java/util/List")) (by decide) rfl rfl (g := (mkF m 71 #[.val (.ref a1), .val (.ref a2), .val (.ref b12), .val (.ref b24_b6_b11_b5_b32)] [(.ref b24_b6_b11_b5_b32), (.ref a1)])) rfl rfl (hb hby d14_71)
  have s4 := (Keep.of_wr W33).1
  have N33 := Fr.snoc X33 N30 g_a1
  have Fw33 : Fld Z h33 a1 "com/example/feedergen/feedergen/core/StreetLink" "points" "Ljava/util/List;" (.ref b24_b6_b11_b5_b32) := Fl32.same W33
  have Ex34 := (Ex31.wr W33)
  have Fl35 := (Fw30.other W33 (Or.inr (slot_ne (Or.inr (w_217 hw)) (Or.inr (w_219 hw)) (by decide) (t := (.array .long)) (t' := (.object "java/util/List")) (by decide) (by decide))))
  have Fl36 := ((Fw27.other W30 (Or.inr (slot_ne (Or.inr (w_215 hw)) (Or.inr (w_217 hw)) (by decide) (t := (.object "com/example/feedergen/feedergen/core/StreetWay")) (t' := (.array .long)) (by decide) (by decide)))).other W33 (Or.inr (slot_ne (Or.inr (w_215 hw)) (Or.inr (w_219 hw)) (by decide) (t := (.object "com/example/feedergen/feedergen/core/StreetWay")) (t' := (.object "java/util/List")) (by decide) (by decide))))
  have sz_b12 : h0.size ≤ b12 := (Nat.le_of_eq g12.symm)
  have Ex37 := ((((B12.keep K24).wr W27).wr W30).wr W33)
  have ne_a1_b12 := Nat.ne_of_lt (Nat.lt_of_lt_of_le F_way_a1.lt (Nat.le_of_eq g12.symm))
  have Va38 := ((((Vn12.keep K24 nin0).other W27 (Ne.symm ne_a1_b12)).other W30 (Ne.symm ne_a1_b12)).other W33 (Ne.symm ne_a1_b12))
  have sz_b24_b6_b11_b5_b32 : h0.size ≤ b24_b6_b11_b5_b32 := Nat.le_trans s0 o24_0
  have Ex39 := (((o24_1.wr W27).wr W30).wr W33)
  have ne_a1_b24_b6_b11_b5_b32 := Nat.ne_of_lt (Nat.lt_of_lt_of_le (Nat.lt_of_lt_of_le F_way_a1.lt s0) o24_0)
  have Fl40 := (((o24_2.other W27 (Or.inl (Ne.symm ne_a1_b24_b6_b11_b5_b32))).other W30 (Or.inl (Ne.symm ne_a1_b24_b6_b11_b5_b32))).other W33 (Or.inl (Ne.symm ne_a1_b24_b6_b11_b5_b32)))
  have Fl41 := (((o24_3.other W27 (Or.inl (Ne.symm ne_a1_b24_b6_b11_b5_b32))).other W30 (Or.inl (Ne.symm ne_a1_b24_b6_b11_b5_b32))).other W33 (Or.inl (Ne.symm ne_a1_b24_b6_b11_b5_b32)))
  have sz_b24_b6_b11_b5_b5 : h0.size ≤ b24_b6_b11_b5_b5 := Nat.le_trans s0 o24_4
  have Ex42 := (((o24_5.wr W27).wr W30).wr W33)
  have ne_a1_b24_b6_b11_b5_b5 := Nat.ne_of_lt (Nat.lt_of_lt_of_le (Nat.lt_of_lt_of_le F_way_a1.lt s0) o24_4)
  have Va43 := (((o24_7.other W27 (Ne.symm ne_a1_b24_b6_b11_b5_b5)).other W30 (Ne.symm ne_a1_b24_b6_b11_b5_b5)).other W33 (Ne.symm ne_a1_b24_b6_b11_b5_b5))
  have ne_b12_b24_b6_b11_b5_b32 := Nat.ne_of_lt (Nat.lt_of_lt_of_le Vn12.lt o24_0)
  have ne_b12_b24_b6_b11_b5_b5 := Nat.ne_of_lt (Nat.lt_of_lt_of_le Vn12.lt o24_4)
  have Kp0 : Keep h0 h12 [a1] := (Keep.refl h0 [a1]).ext E12
  have Kp1 : Keep h0 T24.heap [a1] := Kp0.trans K24 all0
  have Kp2 : Keep h0 h27 [a1] := Kp1.wr W27 (Or.inl (List.mem_of_getElem? (i := 0) rfl))
  have Kp3 : Keep h0 h30 [a1] := Kp2.wr W30 (Or.inl (List.mem_of_getElem? (i := 0) rfl))
  have Kp4 : Keep h0 h33 [a1] := Kp3.wr W33 (Or.inl (List.mem_of_getElem? (i := 0) rfl))
  refine ⟨T33, _, _, _, none, X33, (fun _ => rfl), by decide, by decide, ?_, fun fs hr => ?_⟩
  · show Q43 Z a1 a2 a3 a4 q6 q7 q8 k9 a16 a19 a20 k21 h0 n0 _ T33.heap _
    rw [e33]
    exact ⟨b12, b24_b6_b11_b5_b32, b24_b6_b11_b5_b5, k24_k6_k11_k5_k5, rfl, N33, Kp4, Ex34, Fl35, Fw33, Fl36, sz_b12, Ex37, Va38, sz_b24_b6_b11_b5_b32, Ex39, Fl40, Fl41, sz_b24_b6_b11_b5_b5, Ex42, o24_6, Va43, ne_b12_b24_b6_b11_b5_b32, ne_b12_b24_b6_b11_b5_b5, o24_8⟩
  · show Steps p.tables e below (s₁.setTop (mkF m 0 #[.val (.ref a1), .val (.ref a2), .val (.ref a3), .val (.ref a4)] [])) _
    refine XS.aloadN X0.here hx rfl (hb hby d14_0) rfl rfl ?_
    refine st5 _ ?_
    refine XS.aloadN X5.here hx rfl (hb hby d14_4) rfl rfl ?_
    refine X5.arraylength hx (by rw [e5]; exact Ar10.1) (State.isArrayOf_alike hZ.alike Ar10.2.1) (g := (mkF m 5 #[.val (.ref a1), .val (.ref a2), .val (.ref a3), .val (.ref a4)] [(.ref a3)])) rfl rfl (hb hby d14_5) _ ?_
    show Steps p.tables e below (T5.setTop (mkF m 6 #[.val (.ref a1), .val (.ref a2), .val (.ref a3), .val (.ref a4)] [(.int cl10.slots.size.toInt32)])) _
    rw [len_of S10 M10]
    refine XS.iconst X5.here hx rfl (hb hby d14_6) ?_
    refine XS.icmpNo X5.here hx rfl (hb hby d14_7) rfl (flt ((by decide : ¬ ((3 : Int32) < (2 : Int32))) : ¬ ((3 : Int32) < (2 : Int32)))).1 ?_
    refine XS.aloadN X5.here hx rfl (hb hby d14_10) rfl rfl ?_
    refine st11 _ ?_
    refine XS.aloadN X11.here hx rfl (hb hby d14_16) rfl rfl ?_
    refine X11.arraylength hx (by rw [e11]; exact Ar10.1) (State.isArrayOf_alike hZ.alike Ar10.2.1) (g := (mkF m 17 #[.val (.ref a1), .val (.ref a2), .val (.ref a3), .val (.ref a4)] [(.ref a3), (.int (3 : Int32))])) rfl rfl (hb hby d14_17) _ ?_
    show Steps p.tables e below (T11.setTop (mkF m 18 #[.val (.ref a1), .val (.ref a2), .val (.ref a3), .val (.ref a4)] [(.int cl10.slots.size.toInt32), (.int (3 : Int32))])) _
    rw [len_of S10 M10]
    refine XS.icmpYes X11.here hx rfl (pc0 := 18) (pc' := 46) rfl (hb hby d14_18) rfl (teq ((by decide : (3 : Int32) = (3 : Int32)) : (3 : Int32) = (3 : Int32))).1 (by decide) (by decide) ?_
    refine XS.aloadN X11.here hx rfl (hb hby d14_46) rfl rfl ?_
    refine st12 _ ?_
    refine st13 _ ?_
    refine XS.astoreN X13.here hx rfl (hb hby d14_53) rfl rfl (l' := #[.val (.ref a1), .val (.ref a2), .val (.ref b12), .val (.ref a4)]) rfl ?_
    refine XS.aloadN X13.here hx rfl (hb hby d14_54) rfl rfl ?_
    refine st24 _ ?_
    refine XS.astoreN X24.here hx rfl (hb hby d14_58) rfl rfl (l' := #[.val (.ref a1), .val (.ref a2), .val (.ref b12), .val (.ref b24_b6_b11_b5_b32)]) rfl ?_
    refine XS.aloadN X24.here hx rfl (hb hby d14_59) rfl rfl ?_
    refine XS.aloadN X24.here hx rfl (hb hby d14_60) rfl rfl ?_
    refine st27 _ ?_
    show Steps p.tables e below (T27.setTop (mkF m 64 #[.val (.ref a1), .val (.ref a2), .val (.ref b12), .val (.ref b24_b6_b11_b5_b32)] [])) _
    refine XS.aloadN X27.here hx rfl (hb hby d14_64) rfl rfl ?_
    refine XS.aloadN X27.here hx rfl (hb hby d14_65) rfl rfl ?_
    refine st30 _ ?_
    refine XS.aloadN X30.here hx rfl (hb hby d14_69) rfl rfl ?_
    refine XS.aloadN X30.here hx rfl (hb hby d14_70) rfl rfl ?_
    refine st33 _ ?_
    exact X33.returnOut hx hret (hb hby d14_74) hr
-- com/example/feedergen/feedergen/core/StreetLink.last()J
abbrev Rm44 : Room := { frames := 0, cells := 0, slots := 0, locals := 0 }
def Q44 (Z : State) (a1 : Addr) (a2 : Addr) (q5 : Int64) (q6 : Int64) (q7 : Int64) (k8 : ClassId) (h0 : Heap) (n0 : Nat) (v : Option Value) (h : Heap) (L : List Loc) : Prop := v = some (.long q7) ∧ Fr n0 L ∧ h = h0
theorem ef44 (a1 : Addr) (m : MethodId) : entryFrame m #[(.ref a1)] 1 = mkF m 0 #[.val (.ref a1)] [] := by first | (simp [entryFrame, mkF, argsToLocals, Value.category]; done) | rfl
theorem rm44 (l : Launch) (Z : State) (a0 : Array Value) (hw : ∀ d ∈ tables_1, d.before a0 Z = true) (ws : List Jvm.Cond) (a1 : Addr) (a2 : Addr) (q5 : Int64) (q6 : Int64) (q7 : Int64) (k8 : ClassId) (h0 : Heap) (n0 : Nat) (Z0 : n0 ≤ h0.size) (F_nodes_a1 : Fld Z h0 a1 "com/example/feedergen/feedergen/core/StreetLink" "nodes" "[J" (.ref a2)) (V_a2 : Arv Z h0 a2 k8 .long (3 : Int32) [(.long q5), (.long q6), (.long q7)] (.long (0 : Int64))) :
    OwnMet l Z y_29 prog_31_method_3_code 1 (some .long) ws Rm44 #[(.ref a1)] h0 (Q44 Z a1 a2 q5 q6 q7 k8 h0 n0) := by
  refine own_body (plainFor_of_name pn_14) (ef44 a1) ?_
  intro p e s m below meth c s₁ hx hby hml hown hnm hret hZ X0 e0
  have N0 := Fr.nil n0
  obtain ⟨T3, X3, e3, st3⟩ := getF X0 hx hZ hown (host := "") (Or.inl (w_216 hw)) Via.refl e0 F_nodes_a1 (g := (mkF m 1 #[.val (.ref a1)] [(.ref a1)])) rfl rfl (hb hby d28_1)
  obtain ⟨T4, X4, e4, st4⟩ := getF X3 hx hZ hown (host := "") (Or.inl (w_216 hw)) Via.refl e3 F_nodes_a1 (g := (mkF m 5 #[.val (.ref a1)] [(.ref a1), (.ref a2)])) rfl rfl (hb hby d28_5)
  obtain ⟨cl9, Ar9, q9, S9, M9, Hs9, G9⟩ := id V_a2
  have hin10 : ¬ ((2 : Int32) < 0 ∨ cl9.slots.size ≤ ((2 : Int32)).toNatClampNeg) := inb_of S9 ⟨(by decide : ¬ ((2 : Int32) < (0 : Int32))), (by decide : (2 : Int32) < (3 : Int32))⟩
  refine ⟨T4, _, _, _, (some (.long q7)), X4, nofun, by decide, by decide, ?_, fun fs hr => ?_⟩
  · show Q44 Z a1 a2 q5 q6 q7 k8 h0 n0 _ T4.heap _
    rw [e4]
    exact ⟨rfl, N0, rfl⟩
  · show Steps p.tables e below (s₁.setTop (mkF m 0 #[.val (.ref a1)] [])) _
    refine XS.aloadN X0.here hx rfl (hb hby d28_0) rfl rfl ?_
    refine st3 _ ?_
    refine XS.aloadN X3.here hx rfl (hb hby d28_4) rfl rfl ?_
    refine st4 _ ?_
    refine X4.arraylength hx (by rw [e4]; exact Ar9.1) (State.isArrayOf_alike hZ.alike Ar9.2.1) (g := (mkF m 8 #[.val (.ref a1)] [(.ref a2), (.ref a2)])) rfl rfl (hb hby d28_8) _ ?_
    show Steps p.tables e below (T4.setTop (mkF m 9 #[.val (.ref a1)] [(.int cl9.slots.size.toInt32), (.ref a2)])) _
    rw [len_of S9 M9]
    refine XS.iconst X4.here hx rfl (hb hby d28_9) ?_
    refine XS.isub X4.here hx rfl (hb hby d28_10) rfl ?_
    refine X4.laload hx (j := (2 : Int32)) (v := (.long q7)) (by rw [e4]; exact Ar9.1) (State.isArrayOf_alike hZ.alike Ar9.2.1) Ar9.2.2 hin10 (Has.at Hs9 hin10 rfl) (g := (mkF m 11 #[.val (.ref a1)] [(.int (2 : Int32)), (.ref a2)])) rfl rfl (hb hby d28_11) _ ?_
    exact retOut X4 hx hret rfl (Or.inr (Or.inl ⟨rfl, rfl, _, rfl⟩)) (hb hby d28_12) hr
theorem rm0_1 (l : Launch) (Z : State) (a0 : Array Value) (hw : ∀ d ∈ tables_1, d.before a0 Z = true) (ws : List Jvm.Cond) (p1 : Int64) (p2 : Int64) (p3 : Int64) (p4 : Int64) (p5 : Int32) (sa1 : Addr) (sa2 : Addr) (sk4 : ClassId) (sk6 : ClassId) (smr : Addr) (h0 : Heap) (n0 : Nat) (Z0 : n0 ≤ h0.size) (Od0 : Old Z n0 h0) (S3_EMPTY_ELEMENTDATA : Sta Z Z.heap "java/util/ArrayList" "EMPTY_ELEMENTDATA" "[Ljava/lang/Object;" (.ref sa1)) (E_sa1 : Exa Z h0 sa1 "[Ljava/lang/Object;") (V_sa1 : Arv Z h0 sa1 sk4 (.object "java/lang/Object") (0 : Int32) [] .null) (S5_DEFAULTCAPACITY_EMPTY_ELEMENTDATA : Sta Z Z.heap "java/util/ArrayList" "DEFAULTCAPACITY_EMPTY_ELEMENTDATA" "[Ljava/lang/Object;" (.ref sa2)) (E_sa2 : Exa Z h0 sa2 "[Ljava/lang/Object;") (V_sa2 : Arv Z h0 sa2 sk6 (.object "java/lang/Object") (0 : Int32) [] .null) (M_top : OwnMir Z "[Ljava/lang/Object;" smr) (hk : ((p5 &&& (2147483647 : Int32)) - ((p5 &&& (2147483647 : Int32)) / (3 : Int32)) * (3 : Int32)) = (1 : Int32)) :
    OwnMet l Z x code maxLocals ret ws room_1 #[(.long p1), (.long p2), (.long p3), (.long p4), (.int p5)] h0 (Q0 n0) := by
  refine own_body (plainFor_of_name pn_15) (ef0 p1 p2 p3 p4 p5) ?_
  intro p e s m below meth c s₁ hx hby hml hown hnm hret hZ X0 e0
  have N0 := Fr.nil n0
  obtain ⟨T1, h1, k1, X1, e1, E1, A1, B1, st1⟩ := newPE (aty := .long) X0 hx hZ (w_1 hw) e0 (g := (mkF m 13 #[.val (.long p1), .second, .val (.long p2), .second, .val (.long p3), .second, .val (.long p4), .second, .val (.int p5), .val (.int (3 : Int32)), .unset, .unset, .unset, .unset, .unset, .unset, .unset, .unset, .unset] [(.int (3 : Int32))])) rfl (hb hby at_13) rfl (by decide) (cap := 3) (by decide) (by decide) (by decide) (by decide) (ad := "[J") (by decide)
  obtain ⟨b1, g1⟩ : ∃ z, z = h0.size := ⟨_, rfl⟩
  rw [← g1] at A1 B1 st1
  have s0 := E1.1
  have Vn1 : Arv Z h1 b1 k1 .long (3 : Int32) [(.long (0 : Int64)), (.long (0 : Int64)), (.long (0 : Int64))] (.long (0 : Int64)) := (Arv.new A1 (by decide)).pad (pad_rep [] (.long (0 : Int64)) 3)
  obtain ⟨cl2, Ar2, q2, S2, M2, Hs2, G2⟩ := id Vn1
  have hin3 : ¬ ((0 : Int32) < 0 ∨ cl2.slots.size ≤ ((0 : Int32)).toNatClampNeg) := inb_of S2 ⟨(by decide : ¬ ((0 : Int32) < (0 : Int32))), (by decide : (0 : Int32) < (3 : Int32))⟩
  obtain ⟨T4, h4, X4, e4, W4, st4⟩ := stJ X1 hx hZ e1 Ar2 (j := (0 : Int32)) hin3 (g := (mkF m 21 #[.val (.long p1), .second, .val (.long p2), .second, .val (.long p3), .second, .val (.long p4), .second, .val (.int p5), .val (.int (3 : Int32)), .val (.ref b1), .unset, .unset, .unset, .unset, .unset, .unset, .unset, .unset] [(.long p1), (.int (0 : Int32)), (.ref b1)])) rfl rfl (hb hby at_21)
  have s1 := (Keep.of_wr W4).1
  have g_b1 : n0 ≤ b1 := Nat.le_trans Z0 (Nat.le_of_eq g1.symm)
  have N4 := Fr.snoc X4 N0 g_b1
  have Vs4 : Arv Z h4 b1 k1 .long (3 : Int32) [(.long p1), (.long (0 : Int64)), (.long (0 : Int64))] (.long (0 : Int64)) := Arv.set Ar2 q2 S2 M2 Hs2 G2 rfl W4 0 rfl (Nat.le_of_ble_eq_true rfl)
  obtain ⟨cl5, Ar5, q5, S5, M5, Hs5, G5⟩ := id Vs4
  have hin6 : ¬ ((1 : Int32) < 0 ∨ cl5.slots.size ≤ ((1 : Int32)).toNatClampNeg) := inb_of S5 ⟨(by decide : ¬ ((1 : Int32) < (0 : Int32))), (by decide : (1 : Int32) < (3 : Int32))⟩
  obtain ⟨T7, h7, X7, e7, W7, st7⟩ := stJ X4 hx hZ e4 Ar5 (j := (1 : Int32)) hin6 (g := (mkF m 26 #[.val (.long p1), .second, .val (.long p2), .second, .val (.long p3), .second, .val (.long p4), .second, .val (.int p5), .val (.int (3 : Int32)), .val (.ref b1), .unset, .unset, .unset, .unset, .unset, .unset, .unset, .unset] [(.long p2), (.int (1 : Int32)), (.ref b1)])) rfl rfl (hb hby at_26)
  have s2 := (Keep.of_wr W7).1
  have N7 := Fr.snoc X7 N4 g_b1
  have Vs7 : Arv Z h7 b1 k1 .long (3 : Int32) [(.long p1), (.long p2), (.long (0 : Int64))] (.long (0 : Int64)) := Arv.set Ar5 q5 S5 M5 Hs5 G5 rfl W7 1 rfl (Nat.le_of_ble_eq_true rfl)
  obtain ⟨cl8, Ar8, q8, S8, M8, Hs8, G8⟩ := id Vs7
  have hin9 : ¬ ((2 : Int32) < 0 ∨ cl8.slots.size ≤ ((2 : Int32)).toNatClampNeg) := inb_of S8 ⟨(by decide : ¬ ((2 : Int32) < (0 : Int32))), (by decide : (2 : Int32) < (3 : Int32))⟩
  obtain ⟨T10, h10, X10, e10, W10, st10⟩ := stJ X7 hx hZ e7 Ar8 (j := (2 : Int32)) hin9 (g := (mkF m 38 #[.val (.long p1), .second, .val (.long p2), .second, .val (.long p3), .second, .val (.long p4), .second, .val (.int p5), .val (.int (3 : Int32)), .val (.ref b1), .unset, .unset, .unset, .unset, .unset, .unset, .unset, .unset] [(.long p3), (.int (2 : Int32)), (.ref b1)])) rfl rfl (hb hby at_38)
  have s3 := (Keep.of_wr W10).1
  have N10 := Fr.snoc X10 N7 g_b1
  have Vs10 : Arv Z h10 b1 k1 .long (3 : Int32) [(.long p1), (.long p2), (.long p3)] (.long (0 : Int64)) := Arv.set Ar8 q8 S8 M8 Hs8 G8 rfl W10 2 rfl (Nat.le_of_ble_eq_true rfl)
  obtain ⟨T11, h11, X11, e11, E11, A11, D11, -, st11⟩ := newO X10 hx hZ hown (w_2 hw) (w_3 hw) (w_4 hw) e10 (g := (mkF m 76 #[.val (.long p1), .second, .val (.long p2), .second, .val (.long p3), .second, .val (.long p4), .second, .val (.int p5), .val (.int (3 : Int32)), .val (.ref b1), .val (.long p3), .second, .unset, .unset, .unset, .unset, .unset, .unset] [])) rfl (hb hby at_76) (by decide) (by decide)
  obtain ⟨b11, g11⟩ : ∃ z, z = h10.size := ⟨_, rfl⟩
  rw [← g11] at A11 D11 st11
  have s4 := E11.1
  have Fn11_lon : Fld Z h11 b11 "com/example/feedergen/feedergen/core/GeoPoint" "lon" "D" (.double (0 : UInt64)) := D11 (Or.inr (w_25 hw)) (ty := .double) (by decide)
  have Fn11_lat : Fld Z h11 b11 "com/example/feedergen/feedergen/core/GeoPoint" "lat" "D" (.double (0 : UInt64)) := D11 (Or.inr (w_27 hw)) (ty := .double) (by decide)
  have z4 := Nat.le_trans Z0 (Nat.le_trans (Nat.le_trans (Nat.le_trans s0 s1) s2) s3)
  have g_b11 : n0 ≤ b11 := Nat.le_trans z4 (Nat.le_of_eq g11.symm)
  have z5 := Nat.le_trans Z0 (Nat.le_trans (Nat.le_trans (Nat.le_trans (Nat.le_trans s0 s1) s2) s3) s4)
  obtain ⟨_, T12, L12, X12, hQ12, st12⟩ := own_special X11 hx hZ hown (y := y_2) (a := b11) (w_5 hw) (w_6 hw) (w_4 hw) (w_7 hw) (rm3 l Z a0 hw [] b11 h11 n0 z5 Fn11_lon A11 g_b11 Fn11_lat) e11 (Ls := #[.val (.long p1), .second, .val (.long p2), .second, .val (.long p3), .second, .val (.long p4), .second, .val (.int p5), .val (.int (3 : Int32)), .val (.ref b1), .val (.long p3), .second, .unset, .unset, .unset, .unset, .unset, .unset]) (by rw [hml]; rfl) (argsL := [(.double (0 : UInt64)), (.double (0 : UInt64))]) (rest := [(.ref b11)]) (lenOf pd_2 rfl) (hb hby at_82) (W := 1)
  obtain ⟨rfl, Nq12, K12, o12_0, o12_1, o12_2⟩ := hQ12
  have N12 := Fr.app N10 Nq12
  have s5 := K12.1
  obtain ⟨T13, h13, X13, e13, E13, A13, D13, -, st13⟩ := newO X12 hx hZ hown (w_28 hw) (w_29 hw) (w_30 hw) rfl (g := (mkF m 87 #[.val (.long p1), .second, .val (.long p2), .second, .val (.long p3), .second, .val (.long p4), .second, .val (.int p5), .val (.int (3 : Int32)), .val (.ref b1), .val (.long p3), .second, .val (.ref b11), .unset, .unset, .unset, .unset, .unset] [])) rfl (hb hby at_87) (by decide) (by decide)
  obtain ⟨b13, g13⟩ : ∃ z, z = T12.heap.size := ⟨_, rfl⟩
  rw [← g13] at A13 D13 st13
  have s6 := E13.1
  have Fn13_modCount : Fld Z h13 b13 "java/util/AbstractList" "modCount" "I" (.int (0 : Int32)) := D13 (Or.inl (w_48 hw)) (ty := .int) (by decide)
  have Fn13_elementData : Fld Z h13 b13 "java/util/ArrayList" "elementData" "[Ljava/lang/Object;" .null := D13 (Or.inl (w_51 hw)) (ty := (.array (.object "java/lang/Object"))) (by decide)
  have Fn13_size : Fld Z h13 b13 "java/util/ArrayList" "size" "I" (.int (0 : Int32)) := D13 (Or.inl (w_60 hw)) (ty := .int) (by decide)
  have z6 := Nat.le_trans Z0 (Nat.le_trans (Nat.le_trans (Nat.le_trans (Nat.le_trans (Nat.le_trans s0 s1) s2) s3) s4) s5)
  have g_b13 : n0 ≤ b13 := Nat.le_trans z6 (Nat.le_of_eq g13.symm)
  have Od1 : Old Z n0 h1 := Od0.ext E1
  have Od2 : Old Z n0 h4 := Od1.wr W4 g_b1
  have Od3 : Old Z n0 h7 := Od2.wr W7 g_b1
  have Od4 : Old Z n0 h10 := Od3.wr W10 g_b1
  have Od5 : Old Z n0 h11 := Od4.ext E11
  have Od6 : Old Z n0 T12.heap := Od5.keep K12 (allS g_b11 all0)
  have Od7 : Old Z n0 h13 := Od6.ext E13
  have z7 := Nat.le_trans Z0 (Nat.le_trans (Nat.le_trans (Nat.le_trans (Nat.le_trans (Nat.le_trans (Nat.le_trans s0 s1) s2) s3) s4) s5) s6)
  obtain ⟨_, T14, L14, X14, hQ14, st14⟩ := own_special X13 hx hZ hown (y := y_5) (a := b13) (w_31 hw) (w_32 hw) (w_30 hw) (w_33 hw) (rm6 l Z a0 hw [] b13 sa2 h13 n0 z7 Fn13_modCount A13 g_b13 Fn13_elementData Fn13_size S5_DEFAULTCAPACITY_EMPTY_ELEMENTDATA Od7) e13 (Ls := #[.val (.long p1), .second, .val (.long p2), .second, .val (.long p3), .second, .val (.long p4), .second, .val (.int p5), .val (.int (3 : Int32)), .val (.ref b1), .val (.long p3), .second, .val (.ref b11), .unset, .unset, .unset, .unset, .unset]) (by rw [hml]; rfl) (argsL := []) (rest := [(.ref b13)]) (lenOf pd_0 rfl) (hb hby at_91) (W := 1)
  obtain ⟨rfl, Nq14, K14, o14_0, o14_1, o14_2, o14_3⟩ := hQ14
  have N14 := Fr.app N12 Nq14
  have s7 := K14.1
  have ne_sa2_b1 := Nat.ne_of_lt (Nat.lt_of_lt_of_le V_sa2.lt (Nat.le_of_eq g1.symm))
  have ne_sa2_b11 := Nat.ne_of_lt (Nat.lt_of_lt_of_le (Nat.lt_of_lt_of_le V_sa2.lt (Nat.le_trans (Nat.le_trans (Nat.le_trans s0 s1) s2) s3)) (Nat.le_of_eq g11.symm))
  have ne_sa2_b13 := Nat.ne_of_lt (Nat.lt_of_lt_of_le (Nat.lt_of_lt_of_le V_sa2.lt (Nat.le_trans (Nat.le_trans (Nat.le_trans (Nat.le_trans (Nat.le_trans s0 s1) s2) s3) s4) s5)) (Nat.le_of_eq g13.symm))
  have Va15 := ((((((((V_sa2.ext E1).other W4 ne_sa2_b1).other W7 ne_sa2_b1).other W10 ne_sa2_b1).ext E11).keep K12 (ninS ne_sa2_b11 nin0)).ext E13).keep K14 (ninS ne_sa2_b13 nin0))
  have Od8 : Old Z n0 T14.heap := Od7.keep K14 (allS g_b13 all0)
  have Ex16 := ((o12_0.ext E13).keep K14)
  have z8 := Nat.le_trans Z0 (Nat.le_trans (Nat.le_trans (Nat.le_trans (Nat.le_trans (Nat.le_trans (Nat.le_trans (Nat.le_trans s0 s1) s2) s3) s4) s5) s6) s7)
  obtain ⟨_, T17, L17, X17, hQ17, st17⟩ := own_virtual X14 hx hZ hown (y := y_10) (z := y_10) o14_0 (w_52 hw) (w_53 hw) (notFace_of_selects (args := #[]) (mvT hZ (w_55 hw))) (w_55 hw) (w_54 hw) (w_30 hw) (w_56 hw) (rm11 l Z a0 hw [] b13 b11 sa2 sk6 T14.heap n0 z8 o14_1 o14_0 g_b13 o14_2 o14_3 Va15 ne_sa2_b13 S5_DEFAULTCAPACITY_EMPTY_ELEMENTDATA Od8 Ex16) rfl (Ls := #[.val (.long p1), .second, .val (.long p2), .second, .val (.long p3), .second, .val (.long p4), .second, .val (.int p5), .val (.int (3 : Int32)), .val (.ref b1), .val (.long p3), .second, .val (.ref b11), .val (.ref b13), .unset, .unset, .unset, .unset]) (by rw [hml]; rfl) (argsL := [(.ref b11)]) (rest := []) (lenOf pd_7 rfl) (hb hby at_100) (W := 0)
  obtain ⟨b17_b14_b6_b5_b9, k17_k14_k6_k5_k9, rfl, Nq17, K17, o17_0, o17_1, o17_2, o17_3, o17_4, o17_5, o17_6, o17_7⟩ := hQ17
  have N17 := Fr.app N14 Nq17
  have s8 := K17.1
  have ne_b13_b17_b14_b6_b5_b9 := Nat.ne_of_lt (Nat.lt_of_lt_of_le o14_3.lt o17_4)
  have Ex18 := (Ex16.keep K17)
  have g_b17_b14_b6_b5_b9 : n0 ≤ b17_b14_b6_b5_b9 := Nat.le_trans z8 o17_4
  have z9 := Nat.le_trans Z0 (Nat.le_trans (Nat.le_trans (Nat.le_trans (Nat.le_trans (Nat.le_trans (Nat.le_trans (Nat.le_trans (Nat.le_trans s0 s1) s2) s3) s4) s5) s6) s7) s8)
  obtain ⟨_, T19, L19, X19, hQ19, st19⟩ := own_virtual X17 hx hZ hown (y := y_10) (z := y_10) o17_0 (w_52 hw) (w_53 hw) (notFace_of_selects (args := #[]) (mvT hZ (w_55 hw))) (w_55 hw) (w_54 hw) (w_30 hw) (w_56 hw) (rm13 l Z a0 hw [] b13 b11 b17_b14_b6_b5_b9 k17_k14_k6_k5_k9 T17.heap n0 z9 o17_1 o17_0 g_b13 o17_2 o17_3 o17_7 (Ne.symm ne_b13_b17_b14_b6_b5_b9) o17_6 Ex18 g_b17_b14_b6_b5_b9 o17_5) rfl (Ls := #[.val (.long p1), .second, .val (.long p2), .second, .val (.long p3), .second, .val (.long p4), .second, .val (.int p5), .val (.int (3 : Int32)), .val (.ref b1), .val (.long p3), .second, .val (.ref b11), .val (.ref b13), .unset, .unset, .unset, .unset]) (by rw [hml]; rfl) (argsL := [(.ref b11)]) (rest := []) (lenOf pd_7 rfl) (hb hby at_108) (W := 0)
  obtain ⟨rfl, Nq19, K19, o19_0, o19_1, o19_2, o19_3, o19_4, o19_5⟩ := hQ19
  have N19 := Fr.app N17 Nq19
  have s9 := K19.1
  have Ex20 := (Ex18.keep K19)
  have z10 := Nat.le_trans Z0 (Nat.le_trans (Nat.le_trans (Nat.le_trans (Nat.le_trans (Nat.le_trans (Nat.le_trans (Nat.le_trans (Nat.le_trans (Nat.le_trans s0 s1) s2) s3) s4) s5) s6) s7) s8) s9)
  obtain ⟨_, T21, L21, X21, hQ21, st21⟩ := own_virtual X19 hx hZ hown (y := y_10) (z := y_10) o19_0 (w_52 hw) (w_53 hw) (notFace_of_selects (args := #[]) (mvT hZ (w_55 hw))) (w_55 hw) (w_54 hw) (w_30 hw) (w_56 hw) (rm31 l Z a0 hw [] b13 b11 b17_b14_b6_b5_b9 k17_k14_k6_k5_k9 T19.heap n0 z10 o19_1 o19_0 g_b13 o19_2 o19_3 o19_5 (Ne.symm ne_b13_b17_b14_b6_b5_b9) o17_6 Ex20 g_b17_b14_b6_b5_b9 o19_4) rfl (Ls := #[.val (.long p1), .second, .val (.long p2), .second, .val (.long p3), .second, .val (.long p4), .second, .val (.int p5), .val (.int (3 : Int32)), .val (.ref b1), .val (.long p3), .second, .val (.ref b11), .val (.ref b13), .unset, .unset, .unset, .unset]) (by rw [hml]; rfl) (argsL := [(.ref b11)]) (rest := []) (lenOf pd_7 rfl) (hb hby at_122) (W := 0)
  obtain ⟨rfl, Nq21, K21, o21_0, o21_1, o21_2, o21_3, o21_4, o21_5⟩ := hQ21
  have N21 := Fr.app N19 Nq21
  have s10 := K21.1
  obtain ⟨T22, h22, X22, e22, E22, A22, D22, -, st22⟩ := newO X21 hx hZ hown (w_83 hw) (w_84 hw) (w_85 hw) rfl (g := (mkF m 140 #[.val (.long p1), .second, .val (.long p2), .second, .val (.long p3), .second, .val (.long p4), .second, .val (.int p5), .val (.int (3 : Int32)), .val (.ref b1), .val (.long p3), .second, .val (.ref b11), .val (.ref b13), .unset, .unset, .unset, .unset] [])) rfl (hb hby at_140) (by decide) (by decide)
  obtain ⟨b22, g22⟩ : ∃ z, z = T21.heap.size := ⟨_, rfl⟩
  rw [← g22] at A22 D22 st22
  have s11 := E22.1
  have Fn22_id : Fld Z h22 b22 "com/example/feedergen/feedergen/core/StreetWay" "id" "J" (.long (0 : Int64)) := D22 (Or.inr (w_100 hw)) (ty := .long) (by decide)
  have Fn22_name : Fld Z h22 b22 "com/example/feedergen/feedergen/core/StreetWay" "name" "Ljava/lang/String;" .null := D22 (Or.inr (w_102 hw)) (ty := (.object "java/lang/String")) (by decide)
  have Fn22_streetClass : Fld Z h22 b22 "com/example/feedergen/feedergen/core/StreetWay" "streetClass" "Lcom/example/feedergen/feedergen/core/StreetClass;" .null := D22 (Or.inr (w_104 hw)) (ty := (.object "com/example/feedergen/feedergen/core/StreetClass")) (by decide)
  have Fn22_oneway : Fld Z h22 b22 "com/example/feedergen/feedergen/core/StreetWay" "oneway" "Z" (.int (0 : Int32)) := D22 (Or.inr (w_106 hw)) (ty := .boolean) (by decide)
  have Fn22_travel : Fld Z h22 b22 "com/example/feedergen/feedergen/core/StreetWay" "travel" "Lcom/example/feedergen/feedergen/core/TravelDirection;" .null := D22 (Or.inr (w_108 hw)) (ty := (.object "com/example/feedergen/feedergen/core/TravelDirection")) (by decide)
  have Fn22_nodes : Fld Z h22 b22 "com/example/feedergen/feedergen/core/StreetWay" "nodes" "[J" .null := D22 (Or.inr (w_110 hw)) (ty := (.array .long)) (by decide)
  obtain ⟨T23, h23, k23, X23, e23, E23, A23, B23, st23⟩ := newPE (aty := .long) X22 hx hZ (w_1 hw) e22 (g := (mkF m 150 #[.val (.long p1), .second, .val (.long p2), .second, .val (.long p3), .second, .val (.long p4), .second, .val (.int p5), .val (.int (3 : Int32)), .val (.ref b1), .val (.long p3), .second, .val (.ref b11), .val (.ref b13), .unset, .unset, .unset, .unset] [(.int (2 : Int32)), .null, (.int (0 : Int32)), .null, .null, (.long p1), (.ref b22), (.ref b22)])) rfl (hb hby at_150) rfl (by decide) (cap := 2) (by decide) (by decide) (by decide) (by decide) (ad := "[J") (by decide)
  obtain ⟨b23, g23⟩ : ∃ z, z = h22.size := ⟨_, rfl⟩
  rw [← g23] at A23 B23 st23
  have s12 := E23.1
  have Vn23 : Arv Z h23 b23 k23 .long (2 : Int32) [(.long (0 : Int64)), (.long (0 : Int64))] (.long (0 : Int64)) := (Arv.new A23 (by decide)).pad (pad_rep [] (.long (0 : Int64)) 2)
  obtain ⟨cl24, Ar24, q24, S24, M24, Hs24, G24⟩ := id Vn23
  have hin25 : ¬ ((0 : Int32) < 0 ∨ cl24.slots.size ≤ ((0 : Int32)).toNatClampNeg) := inb_of S24 ⟨(by decide : ¬ ((0 : Int32) < (0 : Int32))), (by decide : (0 : Int32) < (2 : Int32))⟩
  obtain ⟨T26, h26, X26, e26, W26, st26⟩ := stJ X23 hx hZ e23 Ar24 (j := (0 : Int32)) hin25 (g := (mkF m 155 #[.val (.long p1), .second, .val (.long p2), .second, .val (.long p3), .second, .val (.long p4), .second, .val (.int p5), .val (.int (3 : Int32)), .val (.ref b1), .val (.long p3), .second, .val (.ref b11), .val (.ref b13), .unset, .unset, .unset, .unset] [(.long p1), (.int (0 : Int32)), (.ref b23), (.ref b23), .null, (.int (0 : Int32)), .null, .null, (.long p1), (.ref b22), (.ref b22)])) rfl rfl (hb hby at_155)
  have s13 := (Keep.of_wr W26).1
  have z12 := Nat.le_trans Z0 (Nat.le_trans (Nat.le_trans (Nat.le_trans (Nat.le_trans (Nat.le_trans (Nat.le_trans (Nat.le_trans (Nat.le_trans (Nat.le_trans (Nat.le_trans (Nat.le_trans s0 s1) s2) s3) s4) s5) s6) s7) s8) s9) s10) s11)
  have g_b23 : n0 ≤ b23 := Nat.le_trans z12 (Nat.le_of_eq g23.symm)
  have N26 := Fr.snoc X26 N21 g_b23
  have Vs26 : Arv Z h26 b23 k23 .long (2 : Int32) [(.long p1), (.long (0 : Int64))] (.long (0 : Int64)) := Arv.set Ar24 q24 S24 M24 Hs24 G24 rfl W26 0 rfl (Nat.le_of_ble_eq_true rfl)
  obtain ⟨cl27, Ar27, q27, S27, M27, Hs27, G27⟩ := id Vs26
  have hin28 : ¬ ((1 : Int32) < 0 ∨ cl27.slots.size ≤ ((1 : Int32)).toNatClampNeg) := inb_of S27 ⟨(by decide : ¬ ((1 : Int32) < (0 : Int32))), (by decide : (1 : Int32) < (2 : Int32))⟩
  obtain ⟨T29, h29, X29, e29, W29, st29⟩ := stJ X26 hx hZ e26 Ar27 (j := (1 : Int32)) hin28 (g := (mkF m 159 #[.val (.long p1), .second, .val (.long p2), .second, .val (.long p3), .second, .val (.long p4), .second, .val (.int p5), .val (.int (3 : Int32)), .val (.ref b1), .val (.long p3), .second, .val (.ref b11), .val (.ref b13), .unset, .unset, .unset, .unset] [(.long p2), (.int (1 : Int32)), (.ref b23), (.ref b23), .null, (.int (0 : Int32)), .null, .null, (.long p1), (.ref b22), (.ref b22)])) rfl rfl (hb hby at_159)
  have s14 := (Keep.of_wr W29).1
  have N29 := Fr.snoc X29 N26 g_b23
  have Vs29 : Arv Z h29 b23 k23 .long (2 : Int32) [(.long p1), (.long p2)] (.long (0 : Int64)) := Arv.set Ar27 q27 S27 M27 Hs27 G27 rfl W29 1 rfl (Nat.le_of_ble_eq_true rfl)
  have Ex30 := ((B23.wr W26).wr W29)
  have ne_b22_b23 := Nat.ne_of_lt (Nat.lt_of_lt_of_le Fn22_travel.lt (Nat.le_of_eq g23.symm))
  have Fl31 := (((Fn22_id.ext E23).other W26 (Or.inl ne_b22_b23)).other W29 (Or.inl ne_b22_b23))
  have Ex32 := (((A22.ext E23).wr W26).wr W29)
  have z11 := Nat.le_trans Z0 (Nat.le_trans (Nat.le_trans (Nat.le_trans (Nat.le_trans (Nat.le_trans (Nat.le_trans (Nat.le_trans (Nat.le_trans (Nat.le_trans (Nat.le_trans s0 s1) s2) s3) s4) s5) s6) s7) s8) s9) s10)
  have g_b22 : n0 ≤ b22 := Nat.le_trans z11 (Nat.le_of_eq g22.symm)
  have Fl33 := (((Fn22_name.ext E23).other W26 (Or.inl ne_b22_b23)).other W29 (Or.inl ne_b22_b23))
  have Fl34 := (((Fn22_streetClass.ext E23).other W26 (Or.inl ne_b22_b23)).other W29 (Or.inl ne_b22_b23))
  have Fl35 := (((Fn22_oneway.ext E23).other W26 (Or.inl ne_b22_b23)).other W29 (Or.inl ne_b22_b23))
  have Fl36 := (((Fn22_travel.ext E23).other W26 (Or.inl ne_b22_b23)).other W29 (Or.inl ne_b22_b23))
  have Fl37 := (((Fn22_nodes.ext E23).other W26 (Or.inl ne_b22_b23)).other W29 (Or.inl ne_b22_b23))
  have z15 := Nat.le_trans Z0 (Nat.le_trans (Nat.le_trans (Nat.le_trans (Nat.le_trans (Nat.le_trans (Nat.le_trans (Nat.le_trans (Nat.le_trans (Nat.le_trans (Nat.le_trans (Nat.le_trans (Nat.le_trans (Nat.le_trans (Nat.le_trans s0 s1) s2) s3) s4) s5) s6) s7) s8) s9) s10) s11) s12) s13) s14)
  obtain ⟨_, T38, L38, X38, hQ38, st38⟩ := own_special X29 hx hZ hown (y := y_11) (a := b22) (w_86 hw) (w_87 hw) (w_85 hw) (w_88 hw) (rm14 l Z a0 hw [] b22 p1 b23 p2 k23 h29 n0 z15 Vs29 Ex30 Fl31 Ex32 g_b22 Fl33 Fl34 Fl35 Fl36 Fl37) e29 (Ls := #[.val (.long p1), .second, .val (.long p2), .second, .val (.long p3), .second, .val (.long p4), .second, .val (.int p5), .val (.int (3 : Int32)), .val (.ref b1), .val (.long p3), .second, .val (.ref b11), .val (.ref b13), .unset, .unset, .unset, .unset]) (by rw [hml]; rfl) (argsL := [(.long p1), .null, .null, (.int (0 : Int32)), .null, (.ref b23)]) (rest := [(.ref b22)]) (lenOf pd_8 rfl) (hb hby at_160) (W := 1)
  obtain ⟨b38_b8, rfl, Nq38, K38, o38_0, o38_1, o38_2, o38_3, o38_4, o38_5, o38_6, o38_7, o38_8, o38_9⟩ := hQ38
  have N38 := Fr.app N29 Nq38
  have s15 := K38.1
  obtain ⟨T39, h39, X39, e39, E39, A39, D39, -, st39⟩ := newO X38 hx hZ hown (w_111 hw) (w_112 hw) (w_113 hw) rfl (g := (mkF m 165 #[.val (.long p1), .second, .val (.long p2), .second, .val (.long p3), .second, .val (.long p4), .second, .val (.int p5), .val (.int (3 : Int32)), .val (.ref b1), .val (.long p3), .second, .val (.ref b11), .val (.ref b13), .val (.ref b22), .unset, .unset, .unset] [])) rfl (hb hby at_165) (by decide) (by decide)
  obtain ⟨b39, g39⟩ : ∃ z, z = T38.heap.size := ⟨_, rfl⟩
  rw [← g39] at A39 D39 st39
  have s16 := E39.1
  have Fn39_way : Fld Z h39 b39 "com/example/feedergen/feedergen/core/StreetLink" "way" "Lcom/example/feedergen/feedergen/core/StreetWay;" .null := D39 (Or.inr (w_215 hw)) (ty := (.object "com/example/feedergen/feedergen/core/StreetWay")) (by decide)
  have Fn39_nodes : Fld Z h39 b39 "com/example/feedergen/feedergen/core/StreetLink" "nodes" "[J" .null := D39 (Or.inr (w_217 hw)) (ty := (.array .long)) (by decide)
  have Fn39_points : Fld Z h39 b39 "com/example/feedergen/feedergen/core/StreetLink" "points" "Ljava/util/List;" .null := D39 (Or.inr (w_219 hw)) (ty := (.object "java/util/List")) (by decide)
  have ne_b1_b11 := Nat.ne_of_lt (Nat.lt_of_lt_of_le Vs10.lt (Nat.le_of_eq g11.symm))
  have ne_b1_b13 := Nat.ne_of_lt (Nat.lt_of_lt_of_le (Nat.lt_of_lt_of_le Vs10.lt (Nat.le_trans s4 s5)) (Nat.le_of_eq g13.symm))
  have ne_b1_b17_b14_b6_b5_b9 := Nat.ne_of_lt (Nat.lt_of_lt_of_le (Nat.lt_of_lt_of_le Vs10.lt (Nat.le_trans (Nat.le_trans (Nat.le_trans s4 s5) s6) s7)) o17_4)
  have ne_b1_b23 := Nat.ne_of_lt (Nat.lt_of_lt_of_le (Nat.lt_of_lt_of_le Vs10.lt (Nat.le_trans (Nat.le_trans (Nat.le_trans (Nat.le_trans (Nat.le_trans (Nat.le_trans (Nat.le_trans s4 s5) s6) s7) s8) s9) s10) s11)) (Nat.le_of_eq g23.symm))
  have ne_b1_b22 := Nat.ne_of_lt (Nat.lt_of_lt_of_le (Nat.lt_of_lt_of_le Vs10.lt (Nat.le_trans (Nat.le_trans (Nat.le_trans (Nat.le_trans (Nat.le_trans (Nat.le_trans s4 s5) s6) s7) s8) s9) s10)) (Nat.le_of_eq g22.symm))
  have Va40 := (((((((((((((Vs10.ext E11).keep K12 (ninS ne_b1_b11 nin0)).ext E13).keep K14 (ninS ne_b1_b13 nin0)).keep K17 (ninS ne_b1_b13 nin0)).keep K19 (ninS ne_b1_b13 (ninS ne_b1_b17_b14_b6_b5_b9 nin0))).keep K21 (ninS ne_b1_b13 (ninS ne_b1_b17_b14_b6_b5_b9 nin0))).ext E22).ext E23).other W26 ne_b1_b23).other W29 ne_b1_b23).keep K38 (ninS ne_b1_b22 nin0)).ext E39)
  have Ex41 := ((((((o21_0.ext E22).ext E23).wr W26).wr W29).keep K38).ext E39)
  have ne_b13_b23 := Nat.ne_of_lt (Nat.lt_of_lt_of_le (Nat.lt_of_lt_of_le o21_3.lt s11) (Nat.le_of_eq g23.symm))
  have ne_b13_b22 := Nat.ne_of_lt (Nat.lt_of_lt_of_le o21_3.lt (Nat.le_of_eq g22.symm))
  have Fl42 := ((((((o21_3.ext E22).ext E23).other W26 (Or.inl ne_b13_b23)).other W29 (Or.inl ne_b13_b23)).keep K38 (ninS ne_b13_b22 nin0)).ext E39)
  have Ex43 := ((((((((((((((((B1.wr W4).wr W7).wr W10).ext E11).keep K12).ext E13).keep K14).keep K17).keep K19).keep K21).ext E22).ext E23).wr W26).wr W29).keep K38).ext E39)
  have Fl44 := ((((((o21_2.ext E22).ext E23).other W26 (Or.inl ne_b13_b23)).other W29 (Or.inl ne_b13_b23)).keep K38 (ninS ne_b13_b22 nin0)).ext E39)
  have Ex45 := ((((((o21_4.ext E22).ext E23).wr W26).wr W29).keep K38).ext E39)
  have ne_b17_b14_b6_b5_b9_b23 := Nat.ne_of_lt (Nat.lt_of_lt_of_le (Nat.lt_of_lt_of_le o21_5.lt s11) (Nat.le_of_eq g23.symm))
  have ne_b17_b14_b6_b5_b9_b22 := Nat.ne_of_lt (Nat.lt_of_lt_of_le o21_5.lt (Nat.le_of_eq g22.symm))
  have Va46 := ((((((o21_5.ext E22).ext E23).other W26 ne_b17_b14_b6_b5_b9_b23).other W29 ne_b17_b14_b6_b5_b9_b23).keep K38 (ninS ne_b17_b14_b6_b5_b9_b22 nin0)).ext E39)
  have Ex47 := (((((((Ex20.keep K21).ext E22).ext E23).wr W26).wr W29).keep K38).ext E39)
  have z16 := Nat.le_trans Z0 (Nat.le_trans (Nat.le_trans (Nat.le_trans (Nat.le_trans (Nat.le_trans (Nat.le_trans (Nat.le_trans (Nat.le_trans (Nat.le_trans (Nat.le_trans (Nat.le_trans (Nat.le_trans (Nat.le_trans (Nat.le_trans (Nat.le_trans s0 s1) s2) s3) s4) s5) s6) s7) s8) s9) s10) s11) s12) s13) s14) s15)
  have g_b39 : n0 ≤ b39 := Nat.le_trans z16 (Nat.le_of_eq g39.symm)
  have z17 := Nat.le_trans Z0 (Nat.le_trans (Nat.le_trans (Nat.le_trans (Nat.le_trans (Nat.le_trans (Nat.le_trans (Nat.le_trans (Nat.le_trans (Nat.le_trans (Nat.le_trans (Nat.le_trans (Nat.le_trans (Nat.le_trans (Nat.le_trans (Nat.le_trans (Nat.le_trans s0 s1) s2) s3) s4) s5) s6) s7) s8) s9) s10) s11) s12) s13) s14) s15) s16)
  obtain ⟨_, T48, L48, X48, hQ48, st48⟩ := own_special X39 hx hZ hown (y := y_28) (a := b39) (w_114 hw) (w_115 hw) (w_113 hw) (w_116 hw) (rm43 l Z a0 hw [] b39 b22 b1 b13 p1 p2 p3 k1 b17_b14_b6_b5_b9 smr b11 k17_k14_k6_k5_k9 h39 n0 z17 Va40 Ex41 Fl42 Ex43 Fl44 Ex45 M_top Va46 Ex47 Fn39_way A39 g_b39 Fn39_nodes Fn39_points) e39 (Ls := #[.val (.long p1), .second, .val (.long p2), .second, .val (.long p3), .second, .val (.long p4), .second, .val (.int p5), .val (.int (3 : Int32)), .val (.ref b1), .val (.long p3), .second, .val (.ref b11), .val (.ref b13), .val (.ref b22), .unset, .unset, .unset]) (by rw [hml]; rfl) (argsL := [(.ref b22), (.ref b1), (.ref b13)]) (rest := [(.ref b39)]) (lenOf pd_17 rfl) (hb hby at_175) (W := 1)
  obtain ⟨b48_b12, b48_b24_b6_b11_b5_b32, b48_b24_b6_b11_b5_b5, k48_k24_k6_k11_k5_k5, rfl, Nq48, K48, o48_0, o48_1, o48_2, o48_3, o48_4, o48_5, o48_6, o48_7, o48_8, o48_9, o48_10, o48_11, o48_12, o48_13, o48_14, o48_15, o48_16, o48_17⟩ := hQ48
  have N48 := Fr.app N38 Nq48
  have s17 := K48.1
  have z18 := Nat.le_trans Z0 (Nat.le_trans (Nat.le_trans (Nat.le_trans (Nat.le_trans (Nat.le_trans (Nat.le_trans (Nat.le_trans (Nat.le_trans (Nat.le_trans (Nat.le_trans (Nat.le_trans (Nat.le_trans (Nat.le_trans (Nat.le_trans (Nat.le_trans (Nat.le_trans (Nat.le_trans s0 s1) s2) s3) s4) s5) s6) s7) s8) s9) s10) s11) s12) s13) s14) s15) s16) s17)
  obtain ⟨_, T49, L49, X49, hQ49, st49⟩ := own_virtual X48 hx hZ hown (y := y_29) (z := y_29) o48_0 (w_220 hw) (w_221 hw) (notFace_of_selects (args := #[]) (mvT hZ (w_223 hw))) (w_223 hw) (w_222 hw) (w_113 hw) (w_224 hw) (rm44 l Z a0 hw [] b39 b48_b12 p1 p2 p3 k1 T48.heap n0 z18 o48_1 o48_6) rfl (Ls := #[.val (.long p1), .second, .val (.long p2), .second, .val (.long p3), .second, .val (.long p4), .second, .val (.int p5), .val (.int (3 : Int32)), .val (.ref b1), .val (.long p3), .second, .val (.ref b11), .val (.ref b13), .val (.ref b22), .val (.ref b39), .unset, .unset]) (by rw [hml]; rfl) (argsL := []) (rest := []) (lenOf pd_18 rfl) (hb hby at_182) (W := 0)
  obtain ⟨rfl, Nq49, e49⟩ := hQ49
  have N49 := Fr.app N48 Nq49
  have ne_b1_b39 := Nat.ne_of_lt (Nat.lt_of_lt_of_le (Nat.lt_of_lt_of_le Vs10.lt (Nat.le_trans (Nat.le_trans (Nat.le_trans (Nat.le_trans (Nat.le_trans (Nat.le_trans (Nat.le_trans (Nat.le_trans (Nat.le_trans (Nat.le_trans (Nat.le_trans s4 s5) s6) s7) s8) s9) s10) s11) s12) s13) s14) s15)) (Nat.le_of_eq g39.symm))
  have Va50 := (Va40.keep K48 (ninS ne_b1_b39 nin0))
  obtain ⟨cl51, Ar51, q51, S51, M51, Hs51, G51⟩ := id Va50
  have hin52 : ¬ ((2 : Int32) < 0 ∨ cl51.slots.size ≤ ((2 : Int32)).toNatClampNeg) := inb_of S51 ⟨(by decide : ¬ ((2 : Int32) < (0 : Int32))), (by decide : (2 : Int32) < (3 : Int32))⟩
  obtain ⟨T53, h53, X53, e53, W53, st53⟩ := stJ X49 hx hZ e49 Ar51 (j := (2 : Int32)) hin52 (g := (mkF m 210 #[.val (.long p1), .second, .val (.long p2), .second, .val (.long p3), .second, .val (.long p4), .second, .val (.int p5), .val (.int (3 : Int32)), .val (.ref b1), .val (.long p3), .second, .val (.ref b11), .val (.ref b13), .val (.ref b22), .val (.ref b39), .val (.int (1 : Int32)), .unset] [(.long (p3 ^^^ (-1 : Int64))), (.int (2 : Int32)), (.ref b1)])) rfl rfl (hb hby at_210)
  have s18 := (Keep.of_wr W53).1
  have N53 := Fr.snoc X53 N49 g_b1
  have Vs53 : Arv Z h53 b1 k1 .long (3 : Int32) [(.long p1), (.long p2), (.long (p3 ^^^ (-1 : Int64)))] (.long (0 : Int64)) := Arv.set Ar51 q51 S51 M51 Hs51 G51 rfl W53 2 rfl (Nat.le_of_ble_eq_true rfl)
  have Ex54 := (o48_0.wr W53)
  have Fl55 := (o48_1.other W53 (Or.inl (Ne.symm ne_b1_b39)))
  have ne_b1_b48_b12 := Nat.ne_of_lt (Nat.lt_of_lt_of_le Va40.lt o48_4)
  have Va56 := (o48_6.other W53 (Ne.symm ne_b1_b48_b12))
  have z19 := Nat.le_trans Z0 (Nat.le_trans (Nat.le_trans (Nat.le_trans (Nat.le_trans (Nat.le_trans (Nat.le_trans (Nat.le_trans (Nat.le_trans (Nat.le_trans (Nat.le_trans (Nat.le_trans (Nat.le_trans (Nat.le_trans (Nat.le_trans (Nat.le_trans (Nat.le_trans (Nat.le_trans (Nat.le_trans s0 s1) s2) s3) s4) s5) s6) s7) s8) s9) s10) s11) s12) s13) s14) s15) s16) s17) s18)
  obtain ⟨_, T57, L57, X57, hQ57, st57⟩ := own_virtual X53 hx hZ hown (y := y_29) (z := y_29) Ex54 (w_220 hw) (w_221 hw) (notFace_of_selects (args := #[]) (mvT hZ (w_223 hw))) (w_223 hw) (w_222 hw) (w_113 hw) (w_224 hw) (rm44 l Z a0 hw [] b39 b48_b12 p1 p2 p3 k1 h53 n0 z19 Fl55 Va56) e53 (Ls := #[.val (.long p1), .second, .val (.long p2), .second, .val (.long p3), .second, .val (.long p4), .second, .val (.int p5), .val (.int (3 : Int32)), .val (.ref b1), .val (.long p3), .second, .val (.ref b11), .val (.ref b13), .val (.ref b22), .val (.ref b39), .val (.int (1 : Int32)), .unset]) (by rw [hml]; rfl) (argsL := []) (rest := []) (lenOf pd_18 rfl) (hb hby at_213) (W := 0)
  obtain ⟨rfl, Nq57, e57⟩ := hQ57
  have N57 := Fr.app N53 Nq57
  refine ⟨T57, _, _, _, (some (.int (1 : Int32))), X57, nofun, by decide, by decide, ?_, fun fs hr => ?_⟩
  · show Q0 n0 _ T57.heap _
    rw [e57]
    exact ⟨rfl, N57⟩
  · show Steps p.tables e below (s₁.setTop (mkF m 0 #[.val (.long p1), .second, .val (.long p2), .second, .val (.long p3), .second, .val (.long p4), .second, .val (.int p5), .unset, .unset, .unset, .unset, .unset, .unset, .unset, .unset, .unset, .unset] [])) _
    refine XS.iconst X0.here hx rfl (hb hby at_0) ?_
    refine XS.iload X0.here hx rfl (hb hby at_1) rfl ?_
    refine X0.ldcInt hx hown (mvT hZ (w_0 hw)) (g := (mkF m 3 #[.val (.long p1), .second, .val (.long p2), .second, .val (.long p3), .second, .val (.long p4), .second, .val (.int p5), .unset, .unset, .unset, .unset, .unset, .unset, .unset, .unset, .unset, .unset] [(.int p5), (.int (2 : Int32))])) rfl (hb hby at_3) _ ?_
    refine XS.iand X0.here hx rfl (hb hby at_5) rfl ?_
    refine XS.iconst X0.here hx rfl (hb hby at_6) ?_
    refine XS.irem X0.here hx rfl (hb hby at_7) rfl (by decide : ¬ ((3 : Int32) = (0 : Int32))) ?_
    show Steps p.tables e below (s₁.setTop (mkF m 8 #[.val (.long p1), .second, .val (.long p2), .second, .val (.long p3), .second, .val (.long p4), .second, .val (.int p5), .unset, .unset, .unset, .unset, .unset, .unset, .unset, .unset, .unset, .unset] [(.int ((p5 &&& (2147483647 : Int32)) - ((p5 &&& (2147483647 : Int32)) / (3 : Int32)) * (3 : Int32))), (.int (2 : Int32))])) _
    rw [hk]
    refine XS.iadd X0.here hx rfl (hb hby at_8) rfl ?_
    refine XS.istore X0.here hx rfl (hb hby at_9) rfl (l' := #[.val (.long p1), .second, .val (.long p2), .second, .val (.long p3), .second, .val (.long p4), .second, .val (.int p5), .val (.int (3 : Int32)), .unset, .unset, .unset, .unset, .unset, .unset, .unset, .unset, .unset]) rfl ?_
    refine XS.iload X0.here hx rfl (hb hby at_11) rfl ?_
    refine st1 _ ?_
    refine XS.astore X1.here hx rfl (hb hby at_15) rfl rfl (l' := #[.val (.long p1), .second, .val (.long p2), .second, .val (.long p3), .second, .val (.long p4), .second, .val (.int p5), .val (.int (3 : Int32)), .val (.ref b1), .unset, .unset, .unset, .unset, .unset, .unset, .unset, .unset]) rfl ?_
    refine XS.aload X1.here hx rfl (hb hby at_17) rfl rfl ?_
    refine XS.iconst X1.here hx rfl (hb hby at_19) ?_
    refine XS.lloadN X1.here hx rfl (hb hby at_20) rfl ?_
    refine st4 _ ?_
    refine XS.aload X4.here hx rfl (hb hby at_22) rfl rfl ?_
    refine XS.iconst X4.here hx rfl (hb hby at_24) ?_
    show Steps p.tables e below (T4.setTop (mkF m 25 #[.val (.long p1), .second, .val (.long p2), .second, .val (.long p3), .second, .val (.long p4), .second, .val (.int p5), .val (.int (3 : Int32)), .val (.ref b1), .unset, .unset, .unset, .unset, .unset, .unset, .unset, .unset] [(.int (1 : Int32)), (.ref b1)])) _
    refine XS.lloadN X4.here hx rfl (hb hby at_25) rfl ?_
    refine st7 _ ?_
    refine XS.iload X7.here hx rfl (hb hby at_27) rfl ?_
    refine XS.iconst X7.here hx rfl (hb hby at_29) ?_
    refine XS.icmpNo X7.here hx rfl (hb hby at_30) rfl (flt ((by decide : ¬ ((3 : Int32) < (3 : Int32))) : ¬ ((3 : Int32) < (3 : Int32)))).1 ?_
    refine XS.aload X7.here hx rfl (hb hby at_33) rfl rfl ?_
    refine XS.iconst X7.here hx rfl (hb hby at_35) ?_
    refine XS.lload X7.here hx rfl (hb hby at_36) rfl ?_
    refine st10 _ ?_
    refine XS.iload X10.here hx rfl (hb hby at_39) rfl ?_
    refine XS.iconst X10.here hx rfl (hb hby at_41) ?_
    refine XS.icmpYes X10.here hx rfl (pc0 := 42) (pc' := 51) rfl (hb hby at_42) rfl (tlt ((by decide : (3 : Int32) < (4 : Int32)) : (3 : Int32) < (4 : Int32))).1 (by decide) (by decide) ?_
    show Steps p.tables e below (T10.setTop (mkF m 51 #[.val (.long p1), .second, .val (.long p2), .second, .val (.long p3), .second, .val (.long p4), .second, .val (.int p5), .val (.int (3 : Int32)), .val (.ref b1), .unset, .unset, .unset, .unset, .unset, .unset, .unset, .unset] [])) _
    refine XS.iload X10.here hx rfl (hb hby at_51) rfl ?_
    refine XS.iconst X10.here hx rfl (hb hby at_53) ?_
    refine XS.icmpYes X10.here hx rfl (pc0 := 54) (pc' := 61) rfl (hb hby at_54) rfl (feq ((by decide : ¬ ((3 : Int32) = (2 : Int32))) : ¬ ((3 : Int32) = (2 : Int32)))).2 (by decide) (by decide) ?_
    refine XS.iload X10.here hx rfl (hb hby at_61) rfl ?_
    refine XS.iconst X10.here hx rfl (hb hby at_63) ?_
    refine XS.icmpNo X10.here hx rfl (hb hby at_64) rfl (teq ((by decide : (3 : Int32) = (3 : Int32)) : (3 : Int32) = (3 : Int32))).2 ?_
    refine XS.lload X10.here hx rfl (hb hby at_67) rfl ?_
    refine XS.goto X10.here hx rfl (pc0 := 69) (pc' := 74) rfl (hb hby at_69) (by decide) (by decide) ?_
    refine XS.lstore X10.here hx rfl (hb hby at_74) rfl (l' := #[.val (.long p1), .second, .val (.long p2), .second, .val (.long p3), .second, .val (.long p4), .second, .val (.int p5), .val (.int (3 : Int32)), .val (.ref b1), .val (.long p3), .second, .unset, .unset, .unset, .unset, .unset, .unset]) rfl ?_
    refine st11 _ ?_
    refine XS.dup X11.here hx rfl (hb hby at_79) rfl rfl ?_
    refine XS.dconst0 X11.here hx rfl (hb hby at_80) rfl ?_
    show Steps p.tables e below (T11.setTop (mkF m 81 #[.val (.long p1), .second, .val (.long p2), .second, .val (.long p3), .second, .val (.long p4), .second, .val (.int p5), .val (.int (3 : Int32)), .val (.ref b1), .val (.long p3), .second, .unset, .unset, .unset, .unset, .unset, .unset] [(.double (0 : UInt64)), (.ref b11), (.ref b11)])) _
    refine XS.dconst0 X11.here hx rfl (hb hby at_81) rfl ?_
    refine st12 _ ?_
    refine XS.astore X12.here hx rfl (hb hby at_85) rfl rfl (l' := #[.val (.long p1), .second, .val (.long p2), .second, .val (.long p3), .second, .val (.long p4), .second, .val (.int p5), .val (.int (3 : Int32)), .val (.ref b1), .val (.long p3), .second, .val (.ref b11), .unset, .unset, .unset, .unset, .unset]) rfl ?_
    refine st13 _ ?_
    refine XS.dup X13.here hx rfl (hb hby at_90) rfl rfl ?_
    refine st14 _ ?_
    refine XS.astore X14.here hx rfl (hb hby at_94) rfl rfl (l' := #[.val (.long p1), .second, .val (.long p2), .second, .val (.long p3), .second, .val (.long p4), .second, .val (.int p5), .val (.int (3 : Int32)), .val (.ref b1), .val (.long p3), .second, .val (.ref b11), .val (.ref b13), .unset, .unset, .unset, .unset]) rfl ?_
    refine XS.aload X14.here hx rfl (hb hby at_96) rfl rfl ?_
    refine XS.aload X14.here hx rfl (hb hby at_98) rfl rfl ?_
    refine st17 _ ?_
    refine XS.pop X17.here hx rfl (hb hby at_103) rfl rfl ?_
    refine XS.aload X17.here hx rfl (hb hby at_104) rfl rfl ?_
    show Steps p.tables e below (T17.setTop (mkF m 106 #[.val (.long p1), .second, .val (.long p2), .second, .val (.long p3), .second, .val (.long p4), .second, .val (.int p5), .val (.int (3 : Int32)), .val (.ref b1), .val (.long p3), .second, .val (.ref b11), .val (.ref b13), .unset, .unset, .unset, .unset] [(.ref b13)])) _
    refine XS.aload X17.here hx rfl (hb hby at_106) rfl rfl ?_
    refine st19 _ ?_
    refine XS.pop X19.here hx rfl (hb hby at_111) rfl rfl ?_
    refine XS.iload X19.here hx rfl (hb hby at_112) rfl ?_
    refine XS.iconst X19.here hx rfl (hb hby at_114) ?_
    refine XS.icmpNo X19.here hx rfl (hb hby at_115) rfl (flt ((by decide : ¬ ((3 : Int32) < (3 : Int32))) : ¬ ((3 : Int32) < (3 : Int32)))).1 ?_
    refine XS.aload X19.here hx rfl (hb hby at_118) rfl rfl ?_
    refine XS.aload X19.here hx rfl (hb hby at_120) rfl rfl ?_
    refine st21 _ ?_
    refine XS.pop X21.here hx rfl (hb hby at_125) rfl rfl ?_
    refine XS.iload X21.here hx rfl (hb hby at_126) rfl ?_
    refine XS.iconst X21.here hx rfl (hb hby at_128) ?_
    show Steps p.tables e below (T21.setTop (mkF m 129 #[.val (.long p1), .second, .val (.long p2), .second, .val (.long p3), .second, .val (.long p4), .second, .val (.int p5), .val (.int (3 : Int32)), .val (.ref b1), .val (.long p3), .second, .val (.ref b11), .val (.ref b13), .unset, .unset, .unset, .unset] [(.int (4 : Int32)), (.int (3 : Int32))])) _
    refine XS.icmpYes X21.here hx rfl (pc0 := 129) (pc' := 140) rfl (hb hby at_129) rfl (tlt ((by decide : (3 : Int32) < (4 : Int32)) : (3 : Int32) < (4 : Int32))).1 (by decide) (by decide) ?_
    refine st22 _ ?_
    refine XS.dup X22.here hx rfl (hb hby at_143) rfl rfl ?_
    refine XS.lloadN X22.here hx rfl (hb hby at_144) rfl ?_
    refine XS.aconstNull X22.here hx rfl (hb hby at_145) ?_
    refine XS.aconstNull X22.here hx rfl (hb hby at_146) ?_
    refine XS.iconst X22.here hx rfl (hb hby at_147) ?_
    refine XS.aconstNull X22.here hx rfl (hb hby at_148) ?_
    refine XS.iconst X22.here hx rfl (hb hby at_149) ?_
    refine st23 _ ?_
    refine XS.dup X23.here hx rfl (hb hby at_152) rfl rfl ?_
    refine XS.iconst X23.here hx rfl (hb hby at_153) ?_
    show Steps p.tables e below (T23.setTop (mkF m 154 #[.val (.long p1), .second, .val (.long p2), .second, .val (.long p3), .second, .val (.long p4), .second, .val (.int p5), .val (.int (3 : Int32)), .val (.ref b1), .val (.long p3), .second, .val (.ref b11), .val (.ref b13), .unset, .unset, .unset, .unset] [(.int (0 : Int32)), (.ref b23), (.ref b23), .null, (.int (0 : Int32)), .null, .null, (.long p1), (.ref b22), (.ref b22)])) _
    refine XS.lloadN X23.here hx rfl (hb hby at_154) rfl ?_
    refine st26 _ ?_
    refine XS.dup X26.here hx rfl (hb hby at_156) rfl rfl ?_
    refine XS.iconst X26.here hx rfl (hb hby at_157) ?_
    refine XS.lloadN X26.here hx rfl (hb hby at_158) rfl ?_
    refine st29 _ ?_
    refine st38 _ ?_
    refine XS.astore X38.here hx rfl (hb hby at_163) rfl rfl (l' := #[.val (.long p1), .second, .val (.long p2), .second, .val (.long p3), .second, .val (.long p4), .second, .val (.int p5), .val (.int (3 : Int32)), .val (.ref b1), .val (.long p3), .second, .val (.ref b11), .val (.ref b13), .val (.ref b22), .unset, .unset, .unset]) rfl ?_
    refine st39 _ ?_
    refine XS.dup X39.here hx rfl (hb hby at_168) rfl rfl ?_
    refine XS.aload X39.here hx rfl (hb hby at_169) rfl rfl ?_
    refine XS.aload X39.here hx rfl (hb hby at_171) rfl rfl ?_
    show Steps p.tables e below (T39.setTop (mkF m 173 #[.val (.long p1), .second, .val (.long p2), .second, .val (.long p3), .second, .val (.long p4), .second, .val (.int p5), .val (.int (3 : Int32)), .val (.ref b1), .val (.long p3), .second, .val (.ref b11), .val (.ref b13), .val (.ref b22), .unset, .unset, .unset] [(.ref b1), (.ref b22), (.ref b39), (.ref b39)])) _
    refine XS.aload X39.here hx rfl (hb hby at_173) rfl rfl ?_
    refine st48 _ ?_
    refine XS.astore X48.here hx rfl (hb hby at_178) rfl rfl (l' := #[.val (.long p1), .second, .val (.long p2), .second, .val (.long p3), .second, .val (.long p4), .second, .val (.int p5), .val (.int (3 : Int32)), .val (.ref b1), .val (.long p3), .second, .val (.ref b11), .val (.ref b13), .val (.ref b22), .val (.ref b39), .unset, .unset]) rfl ?_
    refine XS.aload X48.here hx rfl (hb hby at_180) rfl rfl ?_
    refine st49 _ ?_
    refine XS.lload X49.here hx rfl (hb hby at_185) rfl ?_
    refine XS.lcmp X49.here hx rfl (hb hby at_187) rfl ?_
    refine XS.ifNo X49.here hx rfl (hb hby at_188) rfl ((if0 _ _).trans (teq (((lw_eq _ _).mpr rfl) : (lcmpW p3 p3) = (0 : Int32))).2) ?_
    refine XS.iconst X49.here hx rfl (hb hby at_191) ?_
    refine XS.goto X49.here hx rfl (pc0 := 192) (pc' := 196) rfl (hb hby at_192) (by decide) (by decide) ?_
    refine XS.istore X49.here hx rfl (hb hby at_196) rfl (l' := #[.val (.long p1), .second, .val (.long p2), .second, .val (.long p3), .second, .val (.long p4), .second, .val (.int p5), .val (.int (3 : Int32)), .val (.ref b1), .val (.long p3), .second, .val (.ref b11), .val (.ref b13), .val (.ref b22), .val (.ref b39), .val (.int (1 : Int32)), .unset]) rfl ?_
    refine XS.aload X49.here hx rfl (hb hby at_198) rfl rfl ?_
    show Steps p.tables e below (T49.setTop (mkF m 200 #[.val (.long p1), .second, .val (.long p2), .second, .val (.long p3), .second, .val (.long p4), .second, .val (.int p5), .val (.int (3 : Int32)), .val (.ref b1), .val (.long p3), .second, .val (.ref b11), .val (.ref b13), .val (.ref b22), .val (.ref b39), .val (.int (1 : Int32)), .unset] [(.ref b1)])) _
    refine XS.iload X49.here hx rfl (hb hby at_200) rfl ?_
    refine XS.iconst X49.here hx rfl (hb hby at_202) ?_
    refine XS.isub X49.here hx rfl (hb hby at_203) rfl ?_
    refine XS.lload X49.here hx rfl (hb hby at_204) rfl ?_
    refine X49.ldc2Long hx hown (mvT hZ (w_225 hw)) (g := (mkF m 206 #[.val (.long p1), .second, .val (.long p2), .second, .val (.long p3), .second, .val (.long p4), .second, .val (.int p5), .val (.int (3 : Int32)), .val (.ref b1), .val (.long p3), .second, .val (.ref b11), .val (.ref b13), .val (.ref b22), .val (.ref b39), .val (.int (1 : Int32)), .unset] [(.long p3), (.int (2 : Int32)), (.ref b1)])) rfl (hb hby at_206) _ ?_
    refine XS.lxor X49.here hx rfl (hb hby at_209) rfl ?_
    refine st53 _ ?_
    refine XS.aload X53.here hx rfl (hb hby at_211) rfl rfl ?_
    refine st57 _ ?_
    refine XS.lload X57.here hx rfl (hb hby at_216) rfl ?_
    refine XS.lcmp X57.here hx rfl (hb hby at_218) rfl ?_
    refine XS.ifNo X57.here hx rfl (hb hby at_219) rfl ((if0 _ _).trans (teq (((lw_eq _ _).mpr rfl) : (lcmpW p3 p3) = (0 : Int32))).2) ?_
    show Steps p.tables e below (T57.setTop (mkF m 222 #[.val (.long p1), .second, .val (.long p2), .second, .val (.long p3), .second, .val (.long p4), .second, .val (.int p5), .val (.int (3 : Int32)), .val (.ref b1), .val (.long p3), .second, .val (.ref b11), .val (.ref b13), .val (.ref b22), .val (.ref b39), .val (.int (1 : Int32)), .unset] [])) _
    refine XS.iconst X57.here hx rfl (hb hby at_222) ?_
    refine XS.goto X57.here hx rfl (pc0 := 223) (pc' := 227) rfl (hb hby at_223) (by decide) (by decide) ?_
    refine XS.istore X57.here hx rfl (hb hby at_227) rfl (l' := #[.val (.long p1), .second, .val (.long p2), .second, .val (.long p3), .second, .val (.long p4), .second, .val (.int p5), .val (.int (3 : Int32)), .val (.ref b1), .val (.long p3), .second, .val (.ref b11), .val (.ref b13), .val (.ref b22), .val (.ref b39), .val (.int (1 : Int32)), .val (.int (1 : Int32))]) rfl ?_
    refine XS.iload X57.here hx rfl (hb hby at_229) rfl ?_
    refine XS.ifNo X57.here hx rfl (hb hby at_231) rfl ((if0 _ _).trans (feq ((by decide : ¬ ((1 : Int32) = (0 : Int32))) : ¬ ((1 : Int32) = (0 : Int32)))).1) ?_
    refine XS.iload X57.here hx rfl (hb hby at_234) rfl ?_
    refine XS.ifNo X57.here hx rfl (hb hby at_236) rfl ((if0 _ _).trans (feq ((by decide : ¬ ((1 : Int32) = (0 : Int32))) : ¬ ((1 : Int32) = (0 : Int32)))).1) ?_
    refine XS.iconst X57.here hx rfl (hb hby at_239) ?_
    refine XS.goto X57.here hx rfl (pc0 := 240) (pc' := 244) rfl (hb hby at_240) (by decide) (by decide) ?_
    exact retN X57 hx (t := .boolean) hret (by simp) (hb hby at_244) hr
-- java/util/ArrayList.add(Ljava/lang/Object;[Ljava/lang/Object;I)V
abbrev Rm45 : Room := { frames := 0, cells := 0, slots := 0, locals := 0 }
def Q45 (Z : State) (a1 : Addr) (a2 : Addr) (a3 : Addr) (k4 : ClassId) (h0 : Heap) (n0 : Nat) (v : Option Value) (h : Heap) (L : List Loc) : Prop := v = none ∧ Fr n0 L ∧ Keep h0 h [a3, a1] ∧ Exa Z h a3 "[Ljava/lang/Object;" ∧ Arv Z h a3 k4 (.object "java/lang/Object") (10 : Int32) [(.ref a2), (.ref a2), (.ref a2), (.ref a2), .null, .null, .null, .null, .null, .null] .null ∧ Exa Z h a1 "java/util/ArrayList" ∧ Fld Z h a1 "java/util/AbstractList" "modCount" "I" (.int (4 : Int32)) ∧ Fld Z h a1 "java/util/ArrayList" "elementData" "[Ljava/lang/Object;" (.ref a3) ∧ Fld Z h a1 "java/util/ArrayList" "size" "I" (.int (4 : Int32))
theorem ef45 (a1 : Addr) (a2 : Addr) (a3 : Addr) (m : MethodId) : entryFrame m #[(.ref a1), (.ref a2), (.ref a3), (.int (3 : Int32))] 4 = mkF m 0 #[.val (.ref a1), .val (.ref a2), .val (.ref a3), .val (.int (3 : Int32))] [] := by first | (simp [entryFrame, mkF, argsToLocals, Value.category]; done) | rfl
theorem rm45 (l : Launch) (Z : State) (a0 : Array Value) (hw : ∀ d ∈ tables_1, d.before a0 Z = true) (ws : List Jvm.Cond) (a1 : Addr) (a2 : Addr) (a3 : Addr) (k4 : ClassId) (h0 : Heap) (n0 : Nat) (Z0 : n0 ≤ h0.size) (V_a3 : Arv Z h0 a3 k4 (.object "java/lang/Object") (10 : Int32) [(.ref a2), (.ref a2), (.ref a2), .null, .null, .null, .null, .null, .null, .null] .null) (O_k4 : Ovr Z k4 "java/lang/Object") (E_a2 : Exa Z h0 a2 "com/example/feedergen/feedergen/core/GeoPoint") (g_a3 : n0 ≤ a3) (F_size_a1 : Fld Z h0 a1 "java/util/ArrayList" "size" "I" (.int (3 : Int32))) (ne_a1_a3 : a1 ≠ a3) (E_a1 : Exa Z h0 a1 "java/util/ArrayList") (g_a1 : n0 ≤ a1) (E_a3 : Exa Z h0 a3 "[Ljava/lang/Object;") (F_modCount_a1 : Fld Z h0 a1 "java/util/AbstractList" "modCount" "I" (.int (4 : Int32))) (F_elementData_a1 : Fld Z h0 a1 "java/util/ArrayList" "elementData" "[Ljava/lang/Object;" (.ref a3)) :
    OwnMet l Z y_9 jdk_38_method_24_code 4 none ws Rm45 #[(.ref a1), (.ref a2), (.ref a3), (.int (3 : Int32))] h0 (Q45 Z a1 a2 a3 k4 h0 n0) := by
  refine own_body (plainFor_of_name pn_5) (ef45 a1 a2 a3) ?_
  intro p e s m below meth c s₁ hx hby hml hown hnm hret hZ X0 e0
  have N0 := Fr.nil n0
  obtain ⟨cl5, Ar5, q5, S5, M5, Hs5, G5⟩ := id V_a3
  have hin6 : ¬ ((3 : Int32) < 0 ∨ cl5.slots.size ≤ ((3 : Int32)).toNatClampNeg) := inb_of S5 ⟨(by decide : ¬ ((3 : Int32) < (0 : Int32))), (by decide : (3 : Int32) < (10 : Int32))⟩
  obtain ⟨T7, h7, X7, e7, W7, st7⟩ := stR X0 hx hZ e0 Ar5 (j := (3 : Int32)) hin6 rfl (Sto.ofV Ar5 q5 O_k4 (Ins.of_exa E_a2 (w_82 hw))) (g := (mkF m 14 #[.val (.ref a1), .val (.ref a2), .val (.ref a3), .val (.int (3 : Int32))] [(.ref a2), (.int (3 : Int32)), (.ref a3)])) rfl rfl (hb hby d9_14)
  have s0 := (Keep.of_wr W7).1
  have N7 := Fr.snoc X7 N0 g_a3
  have Vs7 : Arv Z h7 a3 k4 (.object "java/lang/Object") (10 : Int32) [(.ref a2), (.ref a2), (.ref a2), (.ref a2), .null, .null, .null, .null, .null, .null] .null := Arv.set Ar5 q5 S5 M5 Hs5 G5 rfl W7 3 rfl (Nat.le_of_ble_eq_true rfl)
  have Fl8 := (F_size_a1.other W7 (Or.inl ne_a1_a3))
  have Ex9 := (E_a1.wr W7)
  obtain ⟨T10, h10, X10, e10, W10, st10⟩ := putF X7 hx hZ hown (host := "") (Or.inl (w_59 hw)) Via.refl e7 Fl8 Ex9 (Or.inl (w_60 hw)) (w_29 hw) (ty := .int) (by decide) rfl rfl (g := (mkF m 19 #[.val (.ref a1), .val (.ref a2), .val (.ref a3), .val (.int (3 : Int32))] [(.int (4 : Int32)), (.ref a1)])) rfl rfl (hb hby d9_19)
  have s1 := (Keep.of_wr W10).1
  have N10 := Fr.snoc X10 N7 g_a1
  have Fw10 : Fld Z h10 a1 "java/util/ArrayList" "size" "I" (.int (4 : Int32)) := Fl8.same W10
  have Ex11 := ((E_a3.wr W7).wr W10)
  have Va12 := (Vs7.other W10 (Ne.symm ne_a1_a3))
  have Ex13 := (Ex9.wr W10)
  have Fl14 := ((F_modCount_a1.other W7 (Or.inl ne_a1_a3)).other W10 (Or.inr (slot_ne (Or.inl (w_48 hw)) (Or.inl (w_60 hw)) (by decide) (t := .int) (t' := .int) (by decide) (by decide))))
  have Fl15 := ((F_elementData_a1.other W7 (Or.inl ne_a1_a3)).other W10 (Or.inr (slot_ne (Or.inl (w_51 hw)) (Or.inl (w_60 hw)) (by decide) (t := (.array (.object "java/lang/Object"))) (t' := .int) (by decide) (by decide))))
  have Kp0 : Keep h0 h7 [a3, a1] := (Keep.refl h0 [a3, a1]).wr W7 (Or.inl (List.mem_of_getElem? (i := 0) rfl))
  have Kp1 : Keep h0 h10 [a3, a1] := Kp0.wr W10 (Or.inl (List.mem_of_getElem? (i := 1) rfl))
  refine ⟨T10, _, _, _, none, X10, (fun _ => rfl), by decide, by decide, ?_, fun fs hr => ?_⟩
  · show Q45 Z a1 a2 a3 k4 h0 n0 _ T10.heap _
    rw [e10]
    exact ⟨rfl, N10, Kp1, Ex11, Va12, Ex13, Fl14, Fl15, Fw10⟩
  · show Steps p.tables e below (s₁.setTop (mkF m 0 #[.val (.ref a1), .val (.ref a2), .val (.ref a3), .val (.int (3 : Int32))] [])) _
    refine XS.iloadN X0.here hx rfl (hb hby d9_0) rfl ?_
    refine XS.aloadN X0.here hx rfl (hb hby d9_1) rfl rfl ?_
    refine X0.arraylength hx (by rw [e0]; exact Ar5.1) (State.isArrayOf_alike hZ.alike Ar5.2.1) (g := (mkF m 2 #[.val (.ref a1), .val (.ref a2), .val (.ref a3), .val (.int (3 : Int32))] [(.ref a3), (.int (3 : Int32))])) rfl rfl (hb hby d9_2) _ ?_
    show Steps p.tables e below (s₁.setTop (mkF m 3 #[.val (.ref a1), .val (.ref a2), .val (.ref a3), .val (.int (3 : Int32))] [(.int cl5.slots.size.toInt32), (.int (3 : Int32))])) _
    rw [len_of S5 M5]
    refine XS.icmpYes X0.here hx rfl (pc0 := 3) (pc' := 11) rfl (hb hby d9_3) rfl (feq ((by decide : ¬ ((3 : Int32) = (10 : Int32))) : ¬ ((3 : Int32) = (10 : Int32)))).2 (by decide) (by decide) ?_
    refine XS.aloadN X0.here hx rfl (hb hby d9_11) rfl rfl ?_
    refine XS.iloadN X0.here hx rfl (hb hby d9_12) rfl ?_
    refine XS.aloadN X0.here hx rfl (hb hby d9_13) rfl rfl ?_
    refine st7 _ ?_
    refine XS.aloadN X7.here hx rfl (hb hby d9_15) rfl rfl ?_
    refine XS.iloadN X7.here hx rfl (hb hby d9_16) rfl ?_
    refine XS.iconst X7.here hx rfl (hb hby d9_17) ?_
    refine XS.iadd X7.here hx rfl (hb hby d9_18) rfl ?_
    refine st10 _ ?_
    exact X10.returnOut hx hret (hb hby d9_22) hr
-- java/util/ArrayList.add(Ljava/lang/Object;)Z
abbrev Rm46 : Room := { frames := 1, cells := 0, slots := 0, locals := 15 }
def Q46 (Z : State) (a1 : Addr) (a2 : Addr) (a5 : Addr) (k11 : ClassId) (h0 : Heap) (n0 : Nat) (v : Option Value) (h : Heap) (L : List Loc) : Prop := v = some (.int (1 : Int32)) ∧ Fr n0 L ∧ Keep h0 h [a1, a5] ∧ Exa Z h a1 "java/util/ArrayList" ∧ Fld Z h a1 "java/util/AbstractList" "modCount" "I" (.int (4 : Int32)) ∧ Fld Z h a1 "java/util/ArrayList" "elementData" "[Ljava/lang/Object;" (.ref a5) ∧ Fld Z h a1 "java/util/ArrayList" "size" "I" (.int (4 : Int32)) ∧ Exa Z h a5 "[Ljava/lang/Object;" ∧ Arv Z h a5 k11 (.object "java/lang/Object") (10 : Int32) [(.ref a2), (.ref a2), (.ref a2), (.ref a2), .null, .null, .null, .null, .null, .null] .null
theorem ef46 (a1 : Addr) (a2 : Addr) (m : MethodId) : entryFrame m #[(.ref a1), (.ref a2)] 2 = mkF m 0 #[.val (.ref a1), .val (.ref a2)] [] := by first | (simp [entryFrame, mkF, argsToLocals, Value.category]; done) | rfl
theorem rm46 (l : Launch) (Z : State) (a0 : Array Value) (hw : ∀ d ∈ tables_1, d.before a0 Z = true) (ws : List Jvm.Cond) (a1 : Addr) (a2 : Addr) (a5 : Addr) (k11 : ClassId) (h0 : Heap) (n0 : Nat) (Z0 : n0 ≤ h0.size) (F_modCount_a1 : Fld Z h0 a1 "java/util/AbstractList" "modCount" "I" (.int (3 : Int32))) (E_a1 : Exa Z h0 a1 "java/util/ArrayList") (g_a1 : n0 ≤ a1) (F_elementData_a1 : Fld Z h0 a1 "java/util/ArrayList" "elementData" "[Ljava/lang/Object;" (.ref a5)) (F_size_a1 : Fld Z h0 a1 "java/util/ArrayList" "size" "I" (.int (3 : Int32))) (V_a5 : Arv Z h0 a5 k11 (.object "java/lang/Object") (10 : Int32) [(.ref a2), (.ref a2), (.ref a2), .null, .null, .null, .null, .null, .null, .null] .null) (ne_a5_a1 : a5 ≠ a1) (O_k11 : Ovr Z k11 "java/lang/Object") (E_a2 : Exa Z h0 a2 "com/example/feedergen/feedergen/core/GeoPoint") (g_a5 : n0 ≤ a5) (E_a5 : Exa Z h0 a5 "[Ljava/lang/Object;") :
    OwnMet l Z y_10 jdk_38_method_25_code 2 (some .boolean) ws Rm46 #[(.ref a1), (.ref a2)] h0 (Q46 Z a1 a2 a5 k11 h0 n0) := by
  refine own_body (plainFor_of_name pn_5) (ef46 a1 a2) ?_
  intro p e s m below meth c s₁ hx hby hml hown hnm hret hZ X0 e0
  have N0 := Fr.nil n0
  obtain ⟨T3, X3, e3, st3⟩ := getF X0 hx hZ hown (host := "") (Or.inl (w_57 hw)) (Via.of (w_58 hw)) e0 F_modCount_a1 (g := (mkF m 2 #[.val (.ref a1), .val (.ref a2)] [(.ref a1), (.ref a1)])) rfl rfl (hb hby d8_2)
  obtain ⟨T4, h4, X4, e4, W4, st4⟩ := putF X3 hx hZ hown (host := "") (Or.inl (w_57 hw)) (Via.of (w_58 hw)) e3 F_modCount_a1 E_a1 (Or.inl (w_48 hw)) (w_29 hw) (ty := .int) (by decide) rfl rfl (g := (mkF m 7 #[.val (.ref a1), .val (.ref a2)] [(.int (4 : Int32)), (.ref a1)])) rfl rfl (hb hby d8_7)
  have s0 := (Keep.of_wr W4).1
  have N4 := Fr.snoc X4 N0 g_a1
  have Fw4 : Fld Z h4 a1 "java/util/AbstractList" "modCount" "I" (.int (4 : Int32)) := F_modCount_a1.same W4
  have Ex6 := (E_a1.wr W4)
  have Fl7 := (F_elementData_a1.other W4 (Or.inr (slot_ne (Or.inl (w_51 hw)) (Or.inl (w_48 hw)) (by decide) (t := (.array (.object "java/lang/Object"))) (t' := .int) (by decide) (by decide))))
  obtain ⟨T8, X8, e8, st8⟩ := getF X4 hx hZ hown (host := "") (Or.inl (w_50 hw)) Via.refl e4 Fl7 (g := (mkF m 13 #[.val (.ref a1), .val (.ref a2)] [(.ref a1), (.ref a2), (.ref a1)])) rfl rfl (hb hby d8_13)
  have Fl9 := (F_size_a1.other W4 (Or.inr (slot_ne (Or.inl (w_60 hw)) (Or.inl (w_48 hw)) (by decide) (t := .int) (t' := .int) (by decide) (by decide))))
  obtain ⟨T10, X10, e10, st10⟩ := getF X8 hx hZ hown (host := "") (Or.inl (w_59 hw)) Via.refl e8 Fl9 (g := (mkF m 17 #[.val (.ref a1), .val (.ref a2)] [(.ref a1), (.ref a5), (.ref a2), (.ref a1)])) rfl rfl (hb hby d8_17)
  have Va12 := (V_a5.other W4 ne_a5_a1)
  have Ex13 := (E_a2.wr W4)
  have Ex14 := (E_a5.wr W4)
  have z1 := Nat.le_trans Z0 s0
  obtain ⟨_, T15, L15, X15, hQ15, st15⟩ := own_private X10 hx hZ hown (y := y_9) Ex6 (w_61 hw) (w_62 hw) (mvT hZ (w_64 hw)) (w_63 hw) (w_30 hw) (w_65 hw) (rm45 l Z a0 hw [] a1 a2 a5 k11 h4 n0 z1 Va12 O_k11 Ex13 g_a5 Fl9 (Ne.symm ne_a5_a1) Ex6 g_a1 Ex14 Fw4 Fl7) e10 (Ls := #[.val (.ref a1), .val (.ref a2)]) (by rw [hml]; rfl) (argsL := [(.ref a2), (.ref a5), (.int (3 : Int32))]) (rest := []) (lenOf pd_6 rfl) (hb hby d8_20) (W := 0)
  obtain ⟨rfl, Nq15, K15, o15_0, o15_1, o15_2, o15_3, o15_4, o15_5⟩ := hQ15
  have N15 := Fr.app N4 Nq15
  have s1 := K15.1
  have Kp0 : Keep h0 h4 [a1, a5] := (Keep.refl h0 [a1, a5]).wr W4 (Or.inl (List.mem_of_getElem? (i := 0) rfl))
  have Kp1 : Keep h0 T15.heap [a1, a5] := Kp0.trans K15 (allS (Or.inl (List.mem_of_getElem? (i := 1) rfl)) (allS (Or.inl (List.mem_of_getElem? (i := 0) rfl)) all0))
  refine ⟨T15, _, _, _, (some (.int (1 : Int32))), X15, nofun, by decide, by decide, ?_, fun fs hr => ?_⟩
  · show Q46 Z a1 a2 a5 k11 h0 n0 _ T15.heap _
    exact ⟨rfl, N15, Kp1, o15_2, o15_3, o15_4, o15_5, o15_0, o15_1⟩
  · show Steps p.tables e below (s₁.setTop (mkF m 0 #[.val (.ref a1), .val (.ref a2)] [])) _
    refine XS.aloadN X0.here hx rfl (hb hby d8_0) rfl rfl ?_
    refine XS.dup X0.here hx rfl (hb hby d8_1) rfl rfl ?_
    refine st3 _ ?_
    refine XS.iconst X3.here hx rfl (hb hby d8_5) ?_
    refine XS.iadd X3.here hx rfl (hb hby d8_6) rfl ?_
    refine st4 _ ?_
    refine XS.aloadN X4.here hx rfl (hb hby d8_10) rfl rfl ?_
    refine XS.aloadN X4.here hx rfl (hb hby d8_11) rfl rfl ?_
    refine XS.aloadN X4.here hx rfl (hb hby d8_12) rfl rfl ?_
    refine st8 _ ?_
    refine XS.aloadN X8.here hx rfl (hb hby d8_16) rfl rfl ?_
    refine st10 _ ?_
    show Steps p.tables e below (T10.setTop (mkF m 20 #[.val (.ref a1), .val (.ref a2)] [(.int (3 : Int32)), (.ref a5), (.ref a2), (.ref a1)])) _
    refine st15 _ ?_
    refine XS.iconst X15.here hx rfl (hb hby d8_23) ?_
    exact retN X15 hx (t := .boolean) hret (by simp) (hb hby d8_24) hr
-- java/util/ArrayList.size()I
abbrev Rm47 : Room := { frames := 0, cells := 0, slots := 0, locals := 0 }
def Q47 (Z : State) (a1 : Addr) (h0 : Heap) (n0 : Nat) (v : Option Value) (h : Heap) (L : List Loc) : Prop := v = some (.int (4 : Int32)) ∧ Fr n0 L ∧ h = h0
theorem ef47 (a1 : Addr) (m : MethodId) : entryFrame m #[(.ref a1)] 1 = mkF m 0 #[.val (.ref a1)] [] := by first | (simp [entryFrame, mkF, argsToLocals, Value.category]; done) | rfl
theorem rm47 (l : Launch) (Z : State) (a0 : Array Value) (hw : ∀ d ∈ tables_1, d.before a0 Z = true) (ws : List Jvm.Cond) (a1 : Addr) (h0 : Heap) (n0 : Nat) (Z0 : n0 ≤ h0.size) (F_size_a1 : Fld Z h0 a1 "java/util/ArrayList" "size" "I" (.int (4 : Int32))) :
    OwnMet l Z y_12 jdk_38_method_8_code 1 (some .int) ws Rm47 #[(.ref a1)] h0 (Q47 Z a1 h0 n0) := by
  refine own_body (plainFor_of_name pn_5) (ef47 a1) ?_
  intro p e s m below meth c s₁ hx hby hml hown hnm hret hZ X0 e0
  have N0 := Fr.nil n0
  obtain ⟨T2, X2, e2, st2⟩ := getF X0 hx hZ hown (host := "") (Or.inl (w_59 hw)) Via.refl e0 F_size_a1 (g := (mkF m 1 #[.val (.ref a1)] [(.ref a1)])) rfl rfl (hb hby d15_1)
  refine ⟨T2, _, _, _, (some (.int (4 : Int32))), X2, nofun, by decide, by decide, ?_, fun fs hr => ?_⟩
  · show Q47 Z a1 h0 n0 _ T2.heap _
    rw [e2]
    exact ⟨rfl, N0, rfl⟩
  · show Steps p.tables e below (s₁.setTop (mkF m 0 #[.val (.ref a1)] [])) _
    refine XS.aloadN X0.here hx rfl (hb hby d15_0) rfl rfl ?_
    refine st2 _ ?_
    exact retI X2 hx hret (hb hby d15_4) hr
-- java/util/ArrayList.isEmpty()Z
abbrev Rm48 : Room := { frames := 0, cells := 0, slots := 0, locals := 0 }
def Q48 (Z : State) (a1 : Addr) (h0 : Heap) (n0 : Nat) (v : Option Value) (h : Heap) (L : List Loc) : Prop := v = some (.int (0 : Int32)) ∧ Fr n0 L ∧ h = h0
theorem ef48 (a1 : Addr) (m : MethodId) : entryFrame m #[(.ref a1)] 1 = mkF m 0 #[.val (.ref a1)] [] := by first | (simp [entryFrame, mkF, argsToLocals, Value.category]; done) | rfl
theorem rm48 (l : Launch) (Z : State) (a0 : Array Value) (hw : ∀ d ∈ tables_1, d.before a0 Z = true) (ws : List Jvm.Cond) (a1 : Addr) (h0 : Heap) (n0 : Nat) (Z0 : n0 ≤ h0.size) (F_size_a1 : Fld Z h0 a1 "java/util/ArrayList" "size" "I" (.int (4 : Int32))) :
    OwnMet l Z y_14 jdk_38_method_9_code 1 (some .boolean) ws Rm48 #[(.ref a1)] h0 (Q48 Z a1 h0 n0) := by
  refine own_body (plainFor_of_name pn_5) (ef48 a1) ?_
  intro p e s m below meth c s₁ hx hby hml hown hnm hret hZ X0 e0
  have N0 := Fr.nil n0
  obtain ⟨T2, X2, e2, st2⟩ := getF X0 hx hZ hown (host := "") (Or.inl (w_59 hw)) Via.refl e0 F_size_a1 (g := (mkF m 1 #[.val (.ref a1)] [(.ref a1)])) rfl rfl (hb hby d18_1)
  refine ⟨T2, _, _, _, (some (.int (0 : Int32))), X2, nofun, by decide, by decide, ?_, fun fs hr => ?_⟩
  · show Q48 Z a1 h0 n0 _ T2.heap _
    rw [e2]
    exact ⟨rfl, N0, rfl⟩
  · show Steps p.tables e below (s₁.setTop (mkF m 0 #[.val (.ref a1)] [])) _
    refine XS.aloadN X0.here hx rfl (hb hby d18_0) rfl rfl ?_
    refine st2 _ ?_
    refine XS.ifYes X2.here hx rfl (pc0 := 4) (pc' := 11) rfl (hb hby d18_4) rfl ((if0 _ _).trans (feq ((by decide : ¬ ((4 : Int32) = (0 : Int32))) : ¬ ((4 : Int32) = (0 : Int32)))).2) (by decide) (by decide) ?_
    refine XS.iconst X2.here hx rfl (hb hby d18_11) ?_
    exact retN X2 hx (t := .boolean) hret (by simp) (hb hby d18_12) hr
-- java/lang/Math.min(II)I
abbrev Rm49 : Room := { frames := 0, cells := 0, slots := 0, locals := 0 }
def Q49 (Z : State)  (h0 : Heap) (n0 : Nat) (v : Option Value) (h : Heap) (L : List Loc) : Prop := v = some (.int (4 : Int32)) ∧ Fr n0 L ∧ h = h0
theorem ef49  (m : MethodId) : entryFrame m #[(.int (10 : Int32)), (.int (4 : Int32))] 2 = mkF m 0 #[.val (.int (10 : Int32)), .val (.int (4 : Int32))] [] := by first | (simp [entryFrame, mkF, argsToLocals, Value.category]; done) | rfl
theorem rm49 (l : Launch) (Z : State) (a0 : Array Value) (hw : ∀ d ∈ tables_1, d.before a0 Z = true) (ws : List Jvm.Cond)  (h0 : Heap) (n0 : Nat) (Z0 : n0 ≤ h0.size) :
    OwnMet l Z y_16 jdk_29_method_69_code 2 (some .int) ws Rm49 #[(.int (10 : Int32)), (.int (4 : Int32))] h0 (Q49 Z  h0 n0) := by
  refine own_body (Jvm.Free.JP.mathPlain rfl (by decide +kernel)) (ef49) ?_
  intro p e s m below meth c s₁ hx hby hml hown hnm hret hZ X0 e0
  have N0 := Fr.nil n0
  refine ⟨s₁, _, _, _, (some (.int (4 : Int32))), X0, nofun, by decide, by decide, ?_, fun fs hr => ?_⟩
  · show Q49 Z  h0 n0 _ s₁.heap _
    rw [e0]
    exact ⟨rfl, N0, rfl⟩
  · show Steps p.tables e below (s₁.setTop (mkF m 0 #[.val (.int (10 : Int32)), .val (.int (4 : Int32))] [])) _
    refine XS.iloadN X0.here hx rfl (hb hby d22_0) rfl ?_
    refine XS.iloadN X0.here hx rfl (hb hby d22_1) rfl ?_
    refine XS.icmpYes X0.here hx rfl (pc0 := 2) (pc' := 9) rfl (hb hby d22_2) rfl (tlt ((by decide : (4 : Int32) < (10 : Int32)) : (4 : Int32) < (10 : Int32))).2.2.1 (by decide) (by decide) ?_
    refine XS.iloadN X0.here hx rfl (hb hby d22_9) rfl ?_
    exact retI X0 hx hret (hb hby d22_10) hr
-- java/util/Arrays.copyOf([Ljava/lang/Object;ILjava/lang/Class;)[Ljava/lang/Object;
abbrev Rm50 : Room := { frames := 1, cells := 1, slots := 4, locals := 18 }
def Q50 (Z : State) (a1 : Addr) (a2 : Addr) (a5 : Addr) (k6 : ClassId) (h0 : Heap) (n0 : Nat) (v : Option Value) (h : Heap) (L : List Loc) : Prop := ∃ b4 : Addr, ∃ k4 : ClassId, v = some (.ref b4) ∧ Fr n0 L ∧ Keep h0 h [] ∧ h0.size ≤ b4 ∧ Exa Z h b4 "[Ljava/lang/Object;" ∧ Ovr Z k4 "java/lang/Object" ∧ Arv Z h b4 k4 (.object "java/lang/Object") (4 : Int32) [(.ref a5), (.ref a5), (.ref a5), (.ref a5)] .null
theorem ef50 (a1 : Addr) (a2 : Addr) (m : MethodId) : entryFrame m #[(.ref a1), (.int (4 : Int32)), (.ref a2)] 4 = mkF m 0 #[.val (.ref a1), .val (.int (4 : Int32)), .val (.ref a2), .unset] [] := by first | (simp [entryFrame, mkF, argsToLocals, Value.category]; done) | rfl
theorem rm50 (l : Launch) (Z : State) (a0 : Array Value) (hw : ∀ d ∈ tables_1, d.before a0 Z = true) (ws : List Jvm.Cond) (a1 : Addr) (a2 : Addr) (a5 : Addr) (k6 : ClassId) (h0 : Heap) (n0 : Nat) (Z0 : n0 ≤ h0.size) (M_1 : OwnMir Z "[Ljava/lang/Object;" a2) (V_a1 : Arv Z h0 a1 k6 (.object "java/lang/Object") (10 : Int32) [(.ref a5), (.ref a5), (.ref a5), (.ref a5), .null, .null, .null, .null, .null, .null] .null) (E_a5 : Exa Z h0 a5 "com/example/feedergen/feedergen/core/GeoPoint") :
    OwnMet l Z y_17 jdk_65_method_120_code 4 (some (.array (.object "java/lang/Object"))) ws Rm50 #[(.ref a1), (.int (4 : Int32)), (.ref a2)] h0 (Q50 Z a1 a2 a5 k6 h0 n0) := by
  refine own_body (plainFor_of_name pn_7) (ef50 a1 a2) ?_
  intro p e s m below meth c s₁ hx hby hml hown hnm hret hZ X0 e0
  have N0 := Fr.nil n0
  obtain ⟨T3, X3, e3, st3⟩ := own_ldcM X0 hx hZ hown (w_173 hw) M_1 e0 (g := (mkF m 1 #[.val (.ref a1), .val (.int (4 : Int32)), .val (.ref a2), .unset] [(.ref a2)])) rfl (hb hby d21_1)
  obtain ⟨T4, h4, k4, X4, e4, E4, A4, B4, O4, st4⟩ := newRE X3 hx hZ hown (w_174 hw) (w_81 hw) e3 (g := (mkF m 7 #[.val (.ref a1), .val (.int (4 : Int32)), .val (.ref a2), .unset] [(.int (4 : Int32))])) rfl (hb hby d21_7) rfl (by decide) (cap := 4) (by decide) (by decide) (by decide) (by decide) (ad := "[Ljava/lang/Object;") (by decide)
  obtain ⟨b4, g4⟩ : ∃ z, z = h0.size := ⟨_, rfl⟩
  rw [← g4] at A4 B4 st4
  have s0 := E4.1
  have Vn4 : Arv Z h4 b4 k4 (.object "java/lang/Object") (4 : Int32) [.null, .null, .null, .null] .null := (Arv.new A4 (by decide)).pad (pad_rep [] .null 4)
  have Va7 := (V_a1.ext E4)
  obtain ⟨cl8, Ar8, q8, S8, M8, Hs8, G8⟩ := id Va7
  have z1 := Nat.le_trans Z0 s0
  obtain ⟨_, T9, L9, X9, hQ9, st9⟩ := own_callS X4 hx hZ hown (y := y_16) (w_175 hw) (w_176 hw) (w_78 hw) (w_177 hw) (rm49 l Z a0 hw []  h4 n0 z1) e4 (Ls := #[.val (.ref a1), .val (.int (4 : Int32)), .val (.ref a2), .val (.ref b4)]) (by rw [hml]; rfl) (argsL := [(.int (10 : Int32)), (.int (4 : Int32))]) (rest := [(.int (0 : Int32)), (.ref b4), (.int (0 : Int32)), (.ref a1)]) (lenOf pd_3 rfl) (hb hby d21_32) (W := 4)
  obtain ⟨rfl, Nq9, e9⟩ := hQ9
  have N9 := Fr.app N0 Nq9
  obtain ⟨cl10, Ar10, q10, S10, M10, Hs10, G10⟩ := id Vn4
  have Ex11 := (E_a5.ext E4)
  have g_b4 : n0 ≤ b4 := Nat.le_trans Z0 (Nat.le_of_eq g4.symm)
  obtain ⟨T12, h12, L12, X12, e12, N12, K12, V12, st12⟩ := cpA X9 hx hZ hown (w_178 hw) (w_181 hw) (w_179 hw) (w_180 hw) e9 Va7 Vn4 (us := [(.ref a5), (.ref a5), (.ref a5), (.ref a5)]) (Or.inr ⟨rfl, rfl, ⟨(Sto.ofV Ar10 q10 O4 (Ins.of_exa Ex11 (w_82 hw))), ⟨(Sto.ofV Ar10 q10 O4 (Ins.of_exa Ex11 (w_82 hw))), ⟨(Sto.ofV Ar10 q10 O4 (Ins.of_exa Ex11 (w_82 hw))), ⟨(Sto.ofV Ar10 q10 O4 (Ins.of_exa Ex11 (w_82 hw))), trivial⟩⟩⟩⟩⟩) (by decide) (by decide) (by decide) (by decide) (by decide) (by rfl) (by decide) N9 g_b4 (g := (mkF m 35 #[.val (.ref a1), .val (.int (4 : Int32)), .val (.ref a2), .val (.ref b4)] [(.int (4 : Int32)), (.int (0 : Int32)), (.ref b4), (.int (0 : Int32)), (.ref a1)])) rfl (by rw [hml]; rfl) rfl (hb hby d21_35) (by decide) (W := 0) (by show 2 * 0 + _ ≤ _; exact Nat.le_of_eq rfl) (by decide)
  have s1 := K12.1
  have Vc12 : Arv Z h12 b4 k4 (.object "java/lang/Object") (4 : Int32) [(.ref a5), (.ref a5), (.ref a5), (.ref a5)] .null := V12
  have sz_b4 : h0.size ≤ b4 := (Nat.le_of_eq g4.symm)
  have Ex13 := (B4.keep K12)
  have Kp0 : Keep h0 h4 [] := (Keep.refl h0 []).ext E4
  have Kp1 : Keep h0 h12 [] := Kp0.trans K12 (allS (Or.inr sz_b4) all0)
  refine ⟨T12, _, _, _, (some (.ref b4)), X12, nofun, by decide, by decide, ?_, fun fs hr => ?_⟩
  · show Q50 Z a1 a2 a5 k6 h0 n0 _ T12.heap _
    rw [e12]
    exact ⟨b4, k4, rfl, N12, Kp1, sz_b4, Ex13, O4, Vc12⟩
  · show Steps p.tables e below (s₁.setTop (mkF m 0 #[.val (.ref a1), .val (.int (4 : Int32)), .val (.ref a2), .unset] [])) _
    refine XS.aloadN X0.here hx rfl (hb hby d21_0) rfl rfl ?_
    refine st3 _ ?_
    refine Jvm.RoadKit.acmp (g := (mkF m 3 #[.val (.ref a1), .val (.int (4 : Int32)), .val (.ref a2), .unset] [(.ref a2), (.ref a2)])) X3 hx rfl rfl rfl (pc0 := 3) (pc' := 6) (same := true) rfl (hb hby d21_3) rfl (decide_eq_true rfl) (by decide) (by decide) ?_
    refine XS.iloadN X3.here hx rfl (hb hby d21_6) rfl ?_
    refine st4 _ ?_
    refine XS.goto X4.here hx rfl (pc0 := 10) (pc' := 24) rfl (hb hby d21_10) (by decide) (by decide) ?_
    refine XS.astoreN X4.here hx rfl (hb hby d21_24) rfl rfl (l' := #[.val (.ref a1), .val (.int (4 : Int32)), .val (.ref a2), .val (.ref b4)]) rfl ?_
    refine XS.aloadN X4.here hx rfl (hb hby d21_25) rfl rfl ?_
    refine XS.iconst X4.here hx rfl (hb hby d21_26) ?_
    refine XS.aloadN X4.here hx rfl (hb hby d21_27) rfl rfl ?_
    refine XS.iconst X4.here hx rfl (hb hby d21_28) ?_
    refine XS.aloadN X4.here hx rfl (hb hby d21_29) rfl rfl ?_
    show Steps p.tables e below (T4.setTop (mkF m 30 #[.val (.ref a1), .val (.int (4 : Int32)), .val (.ref a2), .val (.ref b4)] [(.ref a1), (.int (0 : Int32)), (.ref b4), (.int (0 : Int32)), (.ref a1)])) _
    refine X4.arraylength hx (by rw [e4]; exact Ar8.1) (State.isArrayOf_alike hZ.alike Ar8.2.1) (g := (mkF m 30 #[.val (.ref a1), .val (.int (4 : Int32)), .val (.ref a2), .val (.ref b4)] [(.ref a1), (.int (0 : Int32)), (.ref b4), (.int (0 : Int32)), (.ref a1)])) rfl rfl (hb hby d21_30) _ ?_
    show Steps p.tables e below (T4.setTop (mkF m 31 #[.val (.ref a1), .val (.int (4 : Int32)), .val (.ref a2), .val (.ref b4)] [(.int cl8.slots.size.toInt32), (.int (0 : Int32)), (.ref b4), (.int (0 : Int32)), (.ref a1)])) _
    rw [len_of S8 M8]
    refine XS.iloadN X4.here hx rfl (hb hby d21_31) rfl ?_
    refine st9 _ ?_
    refine st12 _ ?_
    refine XS.aloadN X12.here hx rfl (hb hby d21_38) rfl rfl ?_
    exact retOut X12 hx hret rfl (Or.inr (Or.inr (Or.inr (Or.inr ⟨rfl, rfl, rfl⟩)))) (hb hby d21_39) hr
-- java/util/Arrays.copyOf([Ljava/lang/Object;I)[Ljava/lang/Object;
abbrev Rm51 : Room := { frames := 2, cells := 1, slots := 4, locals := 33 }
def Q51 (Z : State) (a1 : Addr) (a2 : Addr) (a4 : Addr) (k5 : ClassId) (h0 : Heap) (n0 : Nat) (v : Option Value) (h : Heap) (L : List Loc) : Prop := ∃ b6_b4 : Addr, ∃ k6_k4 : ClassId, v = some (.ref b6_b4) ∧ Fr n0 L ∧ Keep h0 h [] ∧ h0.size ≤ b6_b4 ∧ Exa Z h b6_b4 "[Ljava/lang/Object;" ∧ Ovr Z k6_k4 "java/lang/Object" ∧ Arv Z h b6_b4 k6_k4 (.object "java/lang/Object") (4 : Int32) [(.ref a4), (.ref a4), (.ref a4), (.ref a4)] .null
theorem ef51 (a1 : Addr) (m : MethodId) : entryFrame m #[(.ref a1), (.int (4 : Int32))] 2 = mkF m 0 #[.val (.ref a1), .val (.int (4 : Int32))] [] := by first | (simp [entryFrame, mkF, argsToLocals, Value.category]; done) | rfl
theorem rm51 (l : Launch) (Z : State) (a0 : Array Value) (hw : ∀ d ∈ tables_1, d.before a0 Z = true) (ws : List Jvm.Cond) (a1 : Addr) (a2 : Addr) (a4 : Addr) (k5 : ClassId) (h0 : Heap) (n0 : Nat) (Z0 : n0 ≤ h0.size) (E_a1 : Exa Z h0 a1 "[Ljava/lang/Object;") (M_1 : OwnMir Z "[Ljava/lang/Object;" a2) (V_a1 : Arv Z h0 a1 k5 (.object "java/lang/Object") (10 : Int32) [(.ref a4), (.ref a4), (.ref a4), (.ref a4), .null, .null, .null, .null, .null, .null] .null) (E_a4 : Exa Z h0 a4 "com/example/feedergen/feedergen/core/GeoPoint") :
    OwnMet l Z y_18 jdk_65_method_119_code 2 (some (.array (.object "java/lang/Object"))) ws Rm51 #[(.ref a1), (.int (4 : Int32))] h0 (Q51 Z a1 a2 a4 k5 h0 n0) := by
  refine own_body (plainFor_of_name pn_7) (ef51 a1) ?_
  intro p e s m below meth c s₁ hx hby hml hown hnm hret hZ X0 e0
  have N0 := Fr.nil n0
  obtain ⟨T3, X3, e3, st3⟩ := own_gcls X0 hx hZ hown (w_164 hw) (w_165 hw) (w_141 hw) (w_167 hw) (w_166 hw) (w_168 hw) e0 E_a1 M_1 (g := (mkF m 3 #[.val (.ref a1), .val (.int (4 : Int32))] [(.ref a1), (.int (4 : Int32)), (.ref a1)])) rfl (by rw [hml]; rfl) rfl (hb hby d20_3) (by decide) (W := 2) (by show 2 * 0 + _ ≤ _; exact Nat.le_of_eq rfl) (by decide)
  obtain ⟨_, T6, L6, X6, hQ6, st6⟩ := own_callS X3 hx hZ hown (y := y_17) (w_170 hw) (w_171 hw) (w_162 hw) (w_172 hw) (rm50 l Z a0 hw [] a1 a2 a4 k5 h0 n0 Z0 M_1 V_a1 E_a4) e3 (Ls := #[.val (.ref a1), .val (.int (4 : Int32))]) (by rw [hml]; rfl) (argsL := [(.ref a1), (.int (4 : Int32)), (.ref a2)]) (rest := []) (lenOf pd_11 rfl) (hb hby d20_6) (W := 0)
  obtain ⟨b6_b4, k6_k4, rfl, Nq6, K6, o6_0, o6_1, o6_2, o6_3⟩ := hQ6
  have N6 := Fr.app N0 Nq6
  have s0 := K6.1
  have sz_b6_b4 : h0.size ≤ b6_b4 := o6_0
  have Kp0 : Keep h0 T6.heap [] := (Keep.refl h0 []).trans K6 all0
  refine ⟨T6, _, _, _, (some (.ref b6_b4)), X6, nofun, by decide, by decide, ?_, fun fs hr => ?_⟩
  · show Q51 Z a1 a2 a4 k5 h0 n0 _ T6.heap _
    exact ⟨b6_b4, k6_k4, rfl, N6, Kp0, sz_b6_b4, o6_1, o6_2, o6_3⟩
  · show Steps p.tables e below (s₁.setTop (mkF m 0 #[.val (.ref a1), .val (.int (4 : Int32))] [])) _
    refine XS.aloadN X0.here hx rfl (hb hby d20_0) rfl rfl ?_
    refine XS.iloadN X0.here hx rfl (hb hby d20_1) rfl ?_
    refine XS.aloadN X0.here hx rfl (hb hby d20_2) rfl rfl ?_
    refine st3 _ ?_
    refine st6 _ ?_
    exact retOut X6 hx hret rfl (Or.inr (Or.inr (Or.inr (Or.inr ⟨rfl, rfl, rfl⟩)))) (hb hby d20_9) hr
-- java/util/ArrayList.toArray()[Ljava/lang/Object;
abbrev Rm52 : Room := { frames := 3, cells := 1, slots := 4, locals := 46 }
def Q52 (Z : State) (a1 : Addr) (a2 : Addr) (a5 : Addr) (a6 : Addr) (k7 : ClassId) (h0 : Heap) (n0 : Nat) (v : Option Value) (h : Heap) (L : List Loc) : Prop := ∃ b8_b6_b4 : Addr, ∃ k8_k6_k4 : ClassId, v = some (.ref b8_b6_b4) ∧ Fr n0 L ∧ Keep h0 h [] ∧ h0.size ≤ b8_b6_b4 ∧ Exa Z h b8_b6_b4 "[Ljava/lang/Object;" ∧ Ovr Z k8_k6_k4 "java/lang/Object" ∧ Arv Z h b8_b6_b4 k8_k6_k4 (.object "java/lang/Object") (4 : Int32) [(.ref a6), (.ref a6), (.ref a6), (.ref a6)] .null
theorem ef52 (a1 : Addr) (m : MethodId) : entryFrame m #[(.ref a1)] 1 = mkF m 0 #[.val (.ref a1)] [] := by first | (simp [entryFrame, mkF, argsToLocals, Value.category]; done) | rfl
theorem rm52 (l : Launch) (Z : State) (a0 : Array Value) (hw : ∀ d ∈ tables_1, d.before a0 Z = true) (ws : List Jvm.Cond) (a1 : Addr) (a2 : Addr) (a5 : Addr) (a6 : Addr) (k7 : ClassId) (h0 : Heap) (n0 : Nat) (Z0 : n0 ≤ h0.size) (F_elementData_a1 : Fld Z h0 a1 "java/util/ArrayList" "elementData" "[Ljava/lang/Object;" (.ref a2)) (F_size_a1 : Fld Z h0 a1 "java/util/ArrayList" "size" "I" (.int (4 : Int32))) (E_a2 : Exa Z h0 a2 "[Ljava/lang/Object;") (M_1 : OwnMir Z "[Ljava/lang/Object;" a5) (V_a2 : Arv Z h0 a2 k7 (.object "java/lang/Object") (10 : Int32) [(.ref a6), (.ref a6), (.ref a6), (.ref a6), .null, .null, .null, .null, .null, .null] .null) (E_a6 : Exa Z h0 a6 "com/example/feedergen/feedergen/core/GeoPoint") :
    OwnMet l Z y_19 jdk_38_method_16_code 1 (some (.array (.object "java/lang/Object"))) ws Rm52 #[(.ref a1)] h0 (Q52 Z a1 a2 a5 a6 k7 h0 n0) := by
  refine own_body (plainFor_of_name pn_5) (ef52 a1) ?_
  intro p e s m below meth c s₁ hx hby hml hown hnm hret hZ X0 e0
  have N0 := Fr.nil n0
  obtain ⟨T3, X3, e3, st3⟩ := getF X0 hx hZ hown (host := "") (Or.inl (w_50 hw)) Via.refl e0 F_elementData_a1 (g := (mkF m 1 #[.val (.ref a1)] [(.ref a1)])) rfl rfl (hb hby d19_1)
  obtain ⟨T4, X4, e4, st4⟩ := getF X3 hx hZ hown (host := "") (Or.inl (w_59 hw)) Via.refl e3 F_size_a1 (g := (mkF m 5 #[.val (.ref a1)] [(.ref a1), (.ref a2)])) rfl rfl (hb hby d19_5)
  obtain ⟨_, T8, L8, X8, hQ8, st8⟩ := own_callS X4 hx hZ hown (y := y_18) (w_160 hw) (w_161 hw) (w_162 hw) (w_163 hw) (rm51 l Z a0 hw [] a2 a5 a6 k7 h0 n0 Z0 E_a2 M_1 V_a2 E_a6) e4 (Ls := #[.val (.ref a1)]) (by rw [hml]; rfl) (argsL := [(.ref a2), (.int (4 : Int32))]) (rest := []) (lenOf pd_12 rfl) (hb hby d19_8) (W := 0)
  obtain ⟨b8_b6_b4, k8_k6_k4, rfl, Nq8, K8, o8_0, o8_1, o8_2, o8_3⟩ := hQ8
  have N8 := Fr.app N0 Nq8
  have s0 := K8.1
  have sz_b8_b6_b4 : h0.size ≤ b8_b6_b4 := o8_0
  have Kp0 : Keep h0 T8.heap [] := (Keep.refl h0 []).trans K8 all0
  refine ⟨T8, _, _, _, (some (.ref b8_b6_b4)), X8, nofun, by decide, by decide, ?_, fun fs hr => ?_⟩
  · show Q52 Z a1 a2 a5 a6 k7 h0 n0 _ T8.heap _
    exact ⟨b8_b6_b4, k8_k6_k4, rfl, N8, Kp0, sz_b8_b6_b4, o8_1, o8_2, o8_3⟩
  · show Steps p.tables e below (s₁.setTop (mkF m 0 #[.val (.ref a1)] [])) _
    refine XS.aloadN X0.here hx rfl (hb hby d19_0) rfl rfl ?_
    refine st3 _ ?_
    refine XS.aloadN X3.here hx rfl (hb hby d19_4) rfl rfl ?_
    refine st4 _ ?_
    refine st8 _ ?_
    exact retOut X8 hx hret rfl (Or.inr (Or.inr (Or.inr (Or.inr ⟨rfl, rfl, rfl⟩)))) (hb hby d19_11) hr
-- java/util/ImmutableCollections.listFromArray([Ljava/lang/Object;)Ljava/util/List;
abbrev Rm53 : Room := { frames := 5, cells := 2, slots := 6, locals := 63 }
def Q53 (Z : State) (a1 : Addr) (a2 : Addr) (k3 : ClassId) (h0 : Heap) (n0 : Nat) (v : Option Value) (h : Heap) (L : List Loc) : Prop := ∃ b40 : Addr, ∃ b5 : Addr, ∃ k5 : ClassId, v = some (.ref b40) ∧ Fr n0 L ∧ Keep h0 h [] ∧ h0.size ≤ b40 ∧ Exa Z h b40 "java/util/ImmutableCollections$ListN" ∧ Fld Z h b40 "java/util/ImmutableCollections$ListN" "allowNulls" "Z" (.int (0 : Int32)) ∧ Fld Z h b40 "java/util/ImmutableCollections$ListN" "elements" "[Ljava/lang/Object;" (.ref b5) ∧ h0.size ≤ b5 ∧ Exa Z h b5 "[Ljava/lang/Object;" ∧ Ovr Z k5 "java/lang/Object" ∧ Arv Z h b5 k5 (.object "java/lang/Object") (4 : Int32) [(.ref a2), (.ref a2), (.ref a2), (.ref a2)] .null ∧ b40 ≠ b5
theorem ef53 (a1 : Addr) (m : MethodId) : entryFrame m #[(.ref a1)] 3 = mkF m 0 #[.val (.ref a1), .unset, .unset] [] := by first | (simp [entryFrame, mkF, argsToLocals, Value.category]; done) | rfl
theorem rm53 (l : Launch) (Z : State) (a0 : Array Value) (hw : ∀ d ∈ tables_1, d.before a0 Z = true) (ws : List Jvm.Cond) (a1 : Addr) (a2 : Addr) (k3 : ClassId) (h0 : Heap) (n0 : Nat) (Z0 : n0 ≤ h0.size) (V_a1 : Arv Z h0 a1 k3 (.object "java/lang/Object") (4 : Int32) [(.ref a2), (.ref a2), (.ref a2), (.ref a2)] .null) (E_a2 : Exa Z h0 a2 "com/example/feedergen/feedergen/core/GeoPoint") :
    OwnMet l Z y_31 jdk_56_method_4_code 3 (some (.object "java/util/List")) ws Rm53 #[(.ref a1)] h0 (Q53 Z a1 a2 k3 h0 n0) := by
  refine own_body (plainFor_of_name pn_13) (ef53 a1) ?_
  intro p e s m below meth c s₁ hx hby hml hown hnm hret hZ X0 e0
  have N0 := Fr.nil n0
  obtain ⟨cl4, Ar4, q4, S4, M4, Hs4, G4⟩ := id V_a1
  obtain ⟨T5, h5, k5, X5, e5, E5, A5, B5, O5, st5⟩ := newRE X0 hx hZ hown (w_229 hw) (w_81 hw) e0 (g := (mkF m 2 #[.val (.ref a1), .unset, .unset] [(.int (4 : Int32))])) rfl (hb hby d29_2) rfl (by decide) (cap := 4) (by decide) (by decide) (by decide) (by decide) (ad := "[Ljava/lang/Object;") (by decide)
  obtain ⟨b5, g5⟩ : ∃ z, z = h0.size := ⟨_, rfl⟩
  rw [← g5] at A5 B5 st5
  have s0 := E5.1
  have Vn5 : Arv Z h5 b5 k5 (.object "java/lang/Object") (4 : Int32) [.null, .null, .null, .null] .null := (Arv.new A5 (by decide)).pad (pad_rep [] .null 4)
  have Va6 := (V_a1.ext E5)
  obtain ⟨cl7, Ar7, q7, S7, M7, Hs7, G7⟩ := id Va6
  have hin8 : ¬ ((0 : Int32) < 0 ∨ cl7.slots.size ≤ ((0 : Int32)).toNatClampNeg) := inb_of S7 ⟨(by decide : ¬ ((0 : Int32) < (0 : Int32))), (by decide : (0 : Int32) < (4 : Int32))⟩
  have z1 := Nat.le_trans Z0 s0
  obtain ⟨_, T9, L9, X9, hQ9, st9⟩ := own_callS X5 hx hZ hown (y := y_23) (w_230 hw) (w_207 hw) (w_208 hw) (w_209 hw) (rm23 l Z a0 hw [] a2 h5 n0 z1) e5 (Ls := #[.val (.ref a1), .val (.ref b5), .val (.int (0 : Int32))]) (by rw [hml]; rfl) (argsL := [(.ref a2)]) (rest := [(.int (0 : Int32)), (.ref b5)]) (lenOf pd_13 rfl) (hb hby d29_19) (W := 2)
  obtain ⟨rfl, Nq9, e9⟩ := hQ9
  have N9 := Fr.app N0 Nq9
  obtain ⟨cl10, Ar10, q10, S10, M10, Hs10, G10⟩ := id Vn5
  have hin11 : ¬ ((0 : Int32) < 0 ∨ cl10.slots.size ≤ ((0 : Int32)).toNatClampNeg) := inb_of S10 ⟨(by decide : ¬ ((0 : Int32) < (0 : Int32))), (by decide : (0 : Int32) < (4 : Int32))⟩
  have Ex12 := (E_a2.ext E5)
  obtain ⟨T13, h13, X13, e13, W13, st13⟩ := stR X9 hx hZ e9 Ar10 (j := (0 : Int32)) hin11 rfl (Sto.ofV Ar10 q10 O5 (Ins.of_exa Ex12 (w_82 hw))) (g := (mkF m 22 #[.val (.ref a1), .val (.ref b5), .val (.int (0 : Int32))] [(.ref a2), (.int (0 : Int32)), (.ref b5)])) rfl rfl (hb hby d29_22)
  have s1 := (Keep.of_wr W13).1
  have g_b5 : n0 ≤ b5 := Nat.le_trans Z0 (Nat.le_of_eq g5.symm)
  have N13 := Fr.snoc X13 N9 g_b5
  have Vs13 : Arv Z h13 b5 k5 (.object "java/lang/Object") (4 : Int32) [(.ref a2), .null, .null, .null] .null := Arv.set Ar10 q10 S10 M10 Hs10 G10 rfl W13 0 rfl (Nat.le_of_ble_eq_true rfl)
  have ne_a1_b5 := Nat.ne_of_lt (Nat.lt_of_lt_of_le V_a1.lt (Nat.le_of_eq g5.symm))
  have Va14 := (Va6.other W13 ne_a1_b5)
  obtain ⟨cl15, Ar15, q15, S15, M15, Hs15, G15⟩ := id Va14
  have hin16 : ¬ ((1 : Int32) < 0 ∨ cl15.slots.size ≤ ((1 : Int32)).toNatClampNeg) := inb_of S15 ⟨(by decide : ¬ ((1 : Int32) < (0 : Int32))), (by decide : (1 : Int32) < (4 : Int32))⟩
  have z2 := Nat.le_trans Z0 (Nat.le_trans s0 s1)
  obtain ⟨_, T17, L17, X17, hQ17, st17⟩ := own_callS X13 hx hZ hown (y := y_23) (w_230 hw) (w_207 hw) (w_208 hw) (w_209 hw) (rm23 l Z a0 hw [] a2 h13 n0 z2) e13 (Ls := #[.val (.ref a1), .val (.ref b5), .val (.int (1 : Int32))]) (by rw [hml]; rfl) (argsL := [(.ref a2)]) (rest := [(.int (1 : Int32)), (.ref b5)]) (lenOf pd_13 rfl) (hb hby d29_19) (W := 2)
  obtain ⟨rfl, Nq17, e17⟩ := hQ17
  have N17 := Fr.app N13 Nq17
  obtain ⟨cl18, Ar18, q18, S18, M18, Hs18, G18⟩ := id Vs13
  have hin19 : ¬ ((1 : Int32) < 0 ∨ cl18.slots.size ≤ ((1 : Int32)).toNatClampNeg) := inb_of S18 ⟨(by decide : ¬ ((1 : Int32) < (0 : Int32))), (by decide : (1 : Int32) < (4 : Int32))⟩
  have Ex20 := (Ex12.wr W13)
  obtain ⟨T21, h21, X21, e21, W21, st21⟩ := stR X17 hx hZ e17 Ar18 (j := (1 : Int32)) hin19 rfl (Sto.ofV Ar18 q18 O5 (Ins.of_exa Ex20 (w_82 hw))) (g := (mkF m 22 #[.val (.ref a1), .val (.ref b5), .val (.int (1 : Int32))] [(.ref a2), (.int (1 : Int32)), (.ref b5)])) rfl rfl (hb hby d29_22)
  have s2 := (Keep.of_wr W21).1
  have N21 := Fr.snoc X21 N17 g_b5
  have Vs21 : Arv Z h21 b5 k5 (.object "java/lang/Object") (4 : Int32) [(.ref a2), (.ref a2), .null, .null] .null := Arv.set Ar18 q18 S18 M18 Hs18 G18 rfl W21 1 rfl (Nat.le_of_ble_eq_true rfl)
  have Va22 := (Va14.other W21 ne_a1_b5)
  obtain ⟨cl23, Ar23, q23, S23, M23, Hs23, G23⟩ := id Va22
  have hin24 : ¬ ((2 : Int32) < 0 ∨ cl23.slots.size ≤ ((2 : Int32)).toNatClampNeg) := inb_of S23 ⟨(by decide : ¬ ((2 : Int32) < (0 : Int32))), (by decide : (2 : Int32) < (4 : Int32))⟩
  have z3 := Nat.le_trans Z0 (Nat.le_trans (Nat.le_trans s0 s1) s2)
  obtain ⟨_, T25, L25, X25, hQ25, st25⟩ := own_callS X21 hx hZ hown (y := y_23) (w_230 hw) (w_207 hw) (w_208 hw) (w_209 hw) (rm23 l Z a0 hw [] a2 h21 n0 z3) e21 (Ls := #[.val (.ref a1), .val (.ref b5), .val (.int (2 : Int32))]) (by rw [hml]; rfl) (argsL := [(.ref a2)]) (rest := [(.int (2 : Int32)), (.ref b5)]) (lenOf pd_13 rfl) (hb hby d29_19) (W := 2)
  obtain ⟨rfl, Nq25, e25⟩ := hQ25
  have N25 := Fr.app N21 Nq25
  obtain ⟨cl26, Ar26, q26, S26, M26, Hs26, G26⟩ := id Vs21
  have hin27 : ¬ ((2 : Int32) < 0 ∨ cl26.slots.size ≤ ((2 : Int32)).toNatClampNeg) := inb_of S26 ⟨(by decide : ¬ ((2 : Int32) < (0 : Int32))), (by decide : (2 : Int32) < (4 : Int32))⟩
  have Ex28 := (Ex20.wr W21)
  obtain ⟨T29, h29, X29, e29, W29, st29⟩ := stR X25 hx hZ e25 Ar26 (j := (2 : Int32)) hin27 rfl (Sto.ofV Ar26 q26 O5 (Ins.of_exa Ex28 (w_82 hw))) (g := (mkF m 22 #[.val (.ref a1), .val (.ref b5), .val (.int (2 : Int32))] [(.ref a2), (.int (2 : Int32)), (.ref b5)])) rfl rfl (hb hby d29_22)
  have s3 := (Keep.of_wr W29).1
  have N29 := Fr.snoc X29 N25 g_b5
  have Vs29 : Arv Z h29 b5 k5 (.object "java/lang/Object") (4 : Int32) [(.ref a2), (.ref a2), (.ref a2), .null] .null := Arv.set Ar26 q26 S26 M26 Hs26 G26 rfl W29 2 rfl (Nat.le_of_ble_eq_true rfl)
  have Va30 := (Va22.other W29 ne_a1_b5)
  obtain ⟨cl31, Ar31, q31, S31, M31, Hs31, G31⟩ := id Va30
  have hin32 : ¬ ((3 : Int32) < 0 ∨ cl31.slots.size ≤ ((3 : Int32)).toNatClampNeg) := inb_of S31 ⟨(by decide : ¬ ((3 : Int32) < (0 : Int32))), (by decide : (3 : Int32) < (4 : Int32))⟩
  have z4 := Nat.le_trans Z0 (Nat.le_trans (Nat.le_trans (Nat.le_trans s0 s1) s2) s3)
  obtain ⟨_, T33, L33, X33, hQ33, st33⟩ := own_callS X29 hx hZ hown (y := y_23) (w_230 hw) (w_207 hw) (w_208 hw) (w_209 hw) (rm23 l Z a0 hw [] a2 h29 n0 z4) e29 (Ls := #[.val (.ref a1), .val (.ref b5), .val (.int (3 : Int32))]) (by rw [hml]; rfl) (argsL := [(.ref a2)]) (rest := [(.int (3 : Int32)), (.ref b5)]) (lenOf pd_13 rfl) (hb hby d29_19) (W := 2)
  obtain ⟨rfl, Nq33, e33⟩ := hQ33
  have N33 := Fr.app N29 Nq33
  obtain ⟨cl34, Ar34, q34, S34, M34, Hs34, G34⟩ := id Vs29
  have hin35 : ¬ ((3 : Int32) < 0 ∨ cl34.slots.size ≤ ((3 : Int32)).toNatClampNeg) := inb_of S34 ⟨(by decide : ¬ ((3 : Int32) < (0 : Int32))), (by decide : (3 : Int32) < (4 : Int32))⟩
  have Ex36 := (Ex28.wr W29)
  obtain ⟨T37, h37, X37, e37, W37, st37⟩ := stR X33 hx hZ e33 Ar34 (j := (3 : Int32)) hin35 rfl (Sto.ofV Ar34 q34 O5 (Ins.of_exa Ex36 (w_82 hw))) (g := (mkF m 22 #[.val (.ref a1), .val (.ref b5), .val (.int (3 : Int32))] [(.ref a2), (.int (3 : Int32)), (.ref b5)])) rfl rfl (hb hby d29_22)
  have s4 := (Keep.of_wr W37).1
  have N37 := Fr.snoc X37 N33 g_b5
  have Vs37 : Arv Z h37 b5 k5 (.object "java/lang/Object") (4 : Int32) [(.ref a2), (.ref a2), (.ref a2), (.ref a2)] .null := Arv.set Ar34 q34 S34 M34 Hs34 G34 rfl W37 3 rfl (Nat.le_of_ble_eq_true rfl)
  have Va38 := (Va30.other W37 ne_a1_b5)
  obtain ⟨cl39, Ar39, q39, S39, M39, Hs39, G39⟩ := id Va38
  obtain ⟨T40, h40, X40, e40, E40, A40, D40, -, st40⟩ := newO X37 hx hZ hown (w_142 hw) (w_231 hw) (w_232 hw) e37 (g := (mkF m 29 #[.val (.ref a1), .val (.ref b5), .val (.int (4 : Int32))] [])) rfl (hb hby d29_29) (by decide) (by decide)
  obtain ⟨b40, g40⟩ : ∃ z, z = h37.size := ⟨_, rfl⟩
  rw [← g40] at A40 D40 st40
  have s5 := E40.1
  have Fn40_elements : Fld Z h40 b40 "java/util/ImmutableCollections$ListN" "elements" "[Ljava/lang/Object;" .null := D40 (Or.inr (w_242 hw)) (ty := (.array (.object "java/lang/Object"))) (by decide)
  have Fn40_allowNulls : Fld Z h40 b40 "java/util/ImmutableCollections$ListN" "allowNulls" "Z" (.int (0 : Int32)) := D40 (Or.inr (w_244 hw)) (ty := .boolean) (by decide)
  have z5 := Nat.le_trans Z0 (Nat.le_trans (Nat.le_trans (Nat.le_trans (Nat.le_trans s0 s1) s2) s3) s4)
  have g_b40 : n0 ≤ b40 := Nat.le_trans z5 (Nat.le_of_eq g40.symm)
  have z6 := Nat.le_trans Z0 (Nat.le_trans (Nat.le_trans (Nat.le_trans (Nat.le_trans (Nat.le_trans s0 s1) s2) s3) s4) s5)
  obtain ⟨_, T41, L41, X41, hQ41, st41⟩ := own_specialNest X40 hx hZ hown (y := y_30) (a := b40) (own_mvNest hZ (w_233 hw)) (w_234 hw) (w_232 hw) (w_236 hw) (rm38 l Z a0 hw [] b40 b5 h40 n0 z6 Fn40_elements A40 g_b40 Fn40_allowNulls) e40 (Ls := #[.val (.ref a1), .val (.ref b5), .val (.int (4 : Int32))]) (by rw [hml]; rfl) (argsL := [(.ref b5), (.int (0 : Int32))]) (rest := [(.ref b40)]) (lenOf pd_19 rfl) (hb hby d29_35) (W := 1)
  obtain ⟨rfl, Nq41, K41, o41_0, o41_1, o41_2⟩ := hQ41
  have N41 := Fr.app N37 Nq41
  have s6 := K41.1
  have sz_b40 : h0.size ≤ b40 := Nat.le_trans (Nat.le_trans (Nat.le_trans (Nat.le_trans (Nat.le_trans s0 s1) s2) s3) s4) (Nat.le_of_eq g40.symm)
  have sz_b5 : h0.size ≤ b5 := (Nat.le_of_eq g5.symm)
  have Ex42 := ((((((B5.wr W13).wr W21).wr W29).wr W37).ext E40).keep K41)
  have ne_b5_b40 := Nat.ne_of_lt (Nat.lt_of_lt_of_le Vs37.lt (Nat.le_of_eq g40.symm))
  have Va43 := ((Vs37.ext E40).keep K41 (ninS ne_b5_b40 nin0))
  have Kp0 : Keep h0 h5 [] := (Keep.refl h0 []).ext E5
  have Kp1 : Keep h0 h13 [] := Kp0.wr W13 (Or.inr sz_b5)
  have Kp2 : Keep h0 h21 [] := Kp1.wr W21 (Or.inr sz_b5)
  have Kp3 : Keep h0 h29 [] := Kp2.wr W29 (Or.inr sz_b5)
  have Kp4 : Keep h0 h37 [] := Kp3.wr W37 (Or.inr sz_b5)
  have Kp5 : Keep h0 h40 [] := Kp4.ext E40
  have Kp6 : Keep h0 T41.heap [] := Kp5.trans K41 (allS (Or.inr sz_b40) all0)
  refine ⟨T41, _, _, _, (some (.ref b40)), X41, nofun, by decide, by decide, ?_, fun fs hr => ?_⟩
  · show Q53 Z a1 a2 k3 h0 n0 _ T41.heap _
    exact ⟨b40, b5, k5, rfl, N41, Kp6, sz_b40, o41_0, o41_1, o41_2, sz_b5, Ex42, O5, Va43, (Ne.symm ne_b5_b40)⟩
  · show Steps p.tables e below (s₁.setTop (mkF m 0 #[.val (.ref a1), .unset, .unset] [])) _
    refine XS.aloadN X0.here hx rfl (hb hby d29_0) rfl rfl ?_
    refine X0.arraylength hx (by rw [e0]; exact Ar4.1) (State.isArrayOf_alike hZ.alike Ar4.2.1) (g := (mkF m 1 #[.val (.ref a1), .unset, .unset] [(.ref a1)])) rfl rfl (hb hby d29_1) _ ?_
    show Steps p.tables e below (s₁.setTop (mkF m 2 #[.val (.ref a1), .unset, .unset] [(.int cl4.slots.size.toInt32)])) _
    rw [len_of S4 M4]
    refine st5 _ ?_
    refine XS.astoreN X5.here hx rfl (hb hby d29_5) rfl rfl (l' := #[.val (.ref a1), .val (.ref b5), .unset]) rfl ?_
    refine XS.iconst X5.here hx rfl (hb hby d29_6) ?_
    refine XS.istoreN X5.here hx rfl (hb hby d29_7) rfl (l' := #[.val (.ref a1), .val (.ref b5), .val (.int (0 : Int32))]) rfl ?_
    refine XS.iloadN X5.here hx rfl (hb hby d29_8) rfl ?_
    refine XS.aloadN X5.here hx rfl (hb hby d29_9) rfl rfl ?_
    refine X5.arraylength hx (by rw [e5]; exact Ar7.1) (State.isArrayOf_alike hZ.alike Ar7.2.1) (g := (mkF m 10 #[.val (.ref a1), .val (.ref b5), .val (.int (0 : Int32))] [(.ref a1), (.int (0 : Int32))])) rfl rfl (hb hby d29_10) _ ?_
    show Steps p.tables e below (T5.setTop (mkF m 11 #[.val (.ref a1), .val (.ref b5), .val (.int (0 : Int32))] [(.int cl7.slots.size.toInt32), (.int (0 : Int32))])) _
    rw [len_of S7 M7]
    refine XS.icmpNo X5.here hx rfl (hb hby d29_11) rfl (tlt ((by decide : (0 : Int32) < (4 : Int32)) : (0 : Int32) < (4 : Int32))).2.1 ?_
    refine XS.aloadN X5.here hx rfl (hb hby d29_14) rfl rfl ?_
    refine XS.iloadN X5.here hx rfl (hb hby d29_15) rfl ?_
    refine XS.aloadN X5.here hx rfl (hb hby d29_16) rfl rfl ?_
    refine XS.iloadN X5.here hx rfl (hb hby d29_17) rfl ?_
    refine X5.aaload hx (j := (0 : Int32)) (v := (.ref a2)) (by rw [e5]; exact Ar7.1) (State.isArrayOf_alike hZ.alike Ar7.2.1) rfl Ar7.2.2 hin8 (Has.at Hs7 hin8 rfl) (g := (mkF m 18 #[.val (.ref a1), .val (.ref b5), .val (.int (0 : Int32))] [(.int (0 : Int32)), (.ref a1), (.int (0 : Int32)), (.ref b5)])) rfl rfl (hb hby d29_18) _ ?_
    refine st9 _ ?_
    refine st13 _ ?_
    refine XS.iinc X13.here hx rfl (hb hby d29_23) rfl (l' := #[.val (.ref a1), .val (.ref b5), .val (.int (1 : Int32))]) rfl ?_
    refine XS.goto X13.here hx rfl (pc0 := 26) (pc' := 8) rfl (hb hby d29_26) (by decide) (by decide) ?_
    refine XS.iloadN X13.here hx rfl (hb hby d29_8) rfl ?_
    show Steps p.tables e below (T13.setTop (mkF m 9 #[.val (.ref a1), .val (.ref b5), .val (.int (1 : Int32))] [(.int (1 : Int32))])) _
    refine XS.aloadN X13.here hx rfl (hb hby d29_9) rfl rfl ?_
    refine X13.arraylength hx (by rw [e13]; exact Ar15.1) (State.isArrayOf_alike hZ.alike Ar15.2.1) (g := (mkF m 10 #[.val (.ref a1), .val (.ref b5), .val (.int (1 : Int32))] [(.ref a1), (.int (1 : Int32))])) rfl rfl (hb hby d29_10) _ ?_
    show Steps p.tables e below (T13.setTop (mkF m 11 #[.val (.ref a1), .val (.ref b5), .val (.int (1 : Int32))] [(.int cl15.slots.size.toInt32), (.int (1 : Int32))])) _
    rw [len_of S15 M15]
    refine XS.icmpNo X13.here hx rfl (hb hby d29_11) rfl (tlt ((by decide : (1 : Int32) < (4 : Int32)) : (1 : Int32) < (4 : Int32))).2.1 ?_
    refine XS.aloadN X13.here hx rfl (hb hby d29_14) rfl rfl ?_
    refine XS.iloadN X13.here hx rfl (hb hby d29_15) rfl ?_
    refine XS.aloadN X13.here hx rfl (hb hby d29_16) rfl rfl ?_
    refine XS.iloadN X13.here hx rfl (hb hby d29_17) rfl ?_
    refine X13.aaload hx (j := (1 : Int32)) (v := (.ref a2)) (by rw [e13]; exact Ar15.1) (State.isArrayOf_alike hZ.alike Ar15.2.1) rfl Ar15.2.2 hin16 (Has.at Hs15 hin16 rfl) (g := (mkF m 18 #[.val (.ref a1), .val (.ref b5), .val (.int (1 : Int32))] [(.int (1 : Int32)), (.ref a1), (.int (1 : Int32)), (.ref b5)])) rfl rfl (hb hby d29_18) _ ?_
    refine st17 _ ?_
    refine st21 _ ?_
    refine XS.iinc X21.here hx rfl (hb hby d29_23) rfl (l' := #[.val (.ref a1), .val (.ref b5), .val (.int (2 : Int32))]) rfl ?_
    refine XS.goto X21.here hx rfl (pc0 := 26) (pc' := 8) rfl (hb hby d29_26) (by decide) (by decide) ?_
    refine XS.iloadN X21.here hx rfl (hb hby d29_8) rfl ?_
    show Steps p.tables e below (T21.setTop (mkF m 9 #[.val (.ref a1), .val (.ref b5), .val (.int (2 : Int32))] [(.int (2 : Int32))])) _
    refine XS.aloadN X21.here hx rfl (hb hby d29_9) rfl rfl ?_
    refine X21.arraylength hx (by rw [e21]; exact Ar23.1) (State.isArrayOf_alike hZ.alike Ar23.2.1) (g := (mkF m 10 #[.val (.ref a1), .val (.ref b5), .val (.int (2 : Int32))] [(.ref a1), (.int (2 : Int32))])) rfl rfl (hb hby d29_10) _ ?_
    show Steps p.tables e below (T21.setTop (mkF m 11 #[.val (.ref a1), .val (.ref b5), .val (.int (2 : Int32))] [(.int cl23.slots.size.toInt32), (.int (2 : Int32))])) _
    rw [len_of S23 M23]
    refine XS.icmpNo X21.here hx rfl (hb hby d29_11) rfl (tlt ((by decide : (2 : Int32) < (4 : Int32)) : (2 : Int32) < (4 : Int32))).2.1 ?_
    refine XS.aloadN X21.here hx rfl (hb hby d29_14) rfl rfl ?_
    refine XS.iloadN X21.here hx rfl (hb hby d29_15) rfl ?_
    refine XS.aloadN X21.here hx rfl (hb hby d29_16) rfl rfl ?_
    refine XS.iloadN X21.here hx rfl (hb hby d29_17) rfl ?_
    refine X21.aaload hx (j := (2 : Int32)) (v := (.ref a2)) (by rw [e21]; exact Ar23.1) (State.isArrayOf_alike hZ.alike Ar23.2.1) rfl Ar23.2.2 hin24 (Has.at Hs23 hin24 rfl) (g := (mkF m 18 #[.val (.ref a1), .val (.ref b5), .val (.int (2 : Int32))] [(.int (2 : Int32)), (.ref a1), (.int (2 : Int32)), (.ref b5)])) rfl rfl (hb hby d29_18) _ ?_
    refine st25 _ ?_
    refine st29 _ ?_
    refine XS.iinc X29.here hx rfl (hb hby d29_23) rfl (l' := #[.val (.ref a1), .val (.ref b5), .val (.int (3 : Int32))]) rfl ?_
    refine XS.goto X29.here hx rfl (pc0 := 26) (pc' := 8) rfl (hb hby d29_26) (by decide) (by decide) ?_
    refine XS.iloadN X29.here hx rfl (hb hby d29_8) rfl ?_
    show Steps p.tables e below (T29.setTop (mkF m 9 #[.val (.ref a1), .val (.ref b5), .val (.int (3 : Int32))] [(.int (3 : Int32))])) _
    refine XS.aloadN X29.here hx rfl (hb hby d29_9) rfl rfl ?_
    refine X29.arraylength hx (by rw [e29]; exact Ar31.1) (State.isArrayOf_alike hZ.alike Ar31.2.1) (g := (mkF m 10 #[.val (.ref a1), .val (.ref b5), .val (.int (3 : Int32))] [(.ref a1), (.int (3 : Int32))])) rfl rfl (hb hby d29_10) _ ?_
    show Steps p.tables e below (T29.setTop (mkF m 11 #[.val (.ref a1), .val (.ref b5), .val (.int (3 : Int32))] [(.int cl31.slots.size.toInt32), (.int (3 : Int32))])) _
    rw [len_of S31 M31]
    refine XS.icmpNo X29.here hx rfl (hb hby d29_11) rfl (tlt ((by decide : (3 : Int32) < (4 : Int32)) : (3 : Int32) < (4 : Int32))).2.1 ?_
    refine XS.aloadN X29.here hx rfl (hb hby d29_14) rfl rfl ?_
    refine XS.iloadN X29.here hx rfl (hb hby d29_15) rfl ?_
    refine XS.aloadN X29.here hx rfl (hb hby d29_16) rfl rfl ?_
    refine XS.iloadN X29.here hx rfl (hb hby d29_17) rfl ?_
    refine X29.aaload hx (j := (3 : Int32)) (v := (.ref a2)) (by rw [e29]; exact Ar31.1) (State.isArrayOf_alike hZ.alike Ar31.2.1) rfl Ar31.2.2 hin32 (Has.at Hs31 hin32 rfl) (g := (mkF m 18 #[.val (.ref a1), .val (.ref b5), .val (.int (3 : Int32))] [(.int (3 : Int32)), (.ref a1), (.int (3 : Int32)), (.ref b5)])) rfl rfl (hb hby d29_18) _ ?_
    refine st33 _ ?_
    refine st37 _ ?_
    refine XS.iinc X37.here hx rfl (hb hby d29_23) rfl (l' := #[.val (.ref a1), .val (.ref b5), .val (.int (4 : Int32))]) rfl ?_
    refine XS.goto X37.here hx rfl (pc0 := 26) (pc' := 8) rfl (hb hby d29_26) (by decide) (by decide) ?_
    refine XS.iloadN X37.here hx rfl (hb hby d29_8) rfl ?_
    show Steps p.tables e below (T37.setTop (mkF m 9 #[.val (.ref a1), .val (.ref b5), .val (.int (4 : Int32))] [(.int (4 : Int32))])) _
    refine XS.aloadN X37.here hx rfl (hb hby d29_9) rfl rfl ?_
    refine X37.arraylength hx (by rw [e37]; exact Ar39.1) (State.isArrayOf_alike hZ.alike Ar39.2.1) (g := (mkF m 10 #[.val (.ref a1), .val (.ref b5), .val (.int (4 : Int32))] [(.ref a1), (.int (4 : Int32))])) rfl rfl (hb hby d29_10) _ ?_
    show Steps p.tables e below (T37.setTop (mkF m 11 #[.val (.ref a1), .val (.ref b5), .val (.int (4 : Int32))] [(.int cl39.slots.size.toInt32), (.int (4 : Int32))])) _
    rw [len_of S39 M39]
    refine XS.icmpYes X37.here hx rfl (pc0 := 11) (pc' := 29) rfl (hb hby d29_11) rfl (flt ((by decide : ¬ ((4 : Int32) < (4 : Int32))) : ¬ ((4 : Int32) < (4 : Int32)))).2.1 (by decide) (by decide) ?_
    refine st40 _ ?_
    refine XS.dup X40.here hx rfl (hb hby d29_32) rfl rfl ?_
    refine XS.aloadN X40.here hx rfl (hb hby d29_33) rfl rfl ?_
    refine XS.iconst X40.here hx rfl (hb hby d29_34) ?_
    refine st41 _ ?_
    exact retOut X41 hx hret rfl (Or.inr (Or.inr (Or.inr (Or.inr ⟨rfl, rfl, rfl⟩)))) (hb hby d29_38) hr
-- java/util/List.of([Ljava/lang/Object;)Ljava/util/List;
abbrev Rm54 : Room := { frames := 6, cells := 2, slots := 6, locals := 77 }
def Q54 (Z : State) (a1 : Addr) (a2 : Addr) (k3 : ClassId) (h0 : Heap) (n0 : Nat) (v : Option Value) (h : Heap) (L : List Loc) : Prop := ∃ b5_b40 : Addr, ∃ b5_b5 : Addr, ∃ k5_k5 : ClassId, v = some (.ref b5_b40) ∧ Fr n0 L ∧ Keep h0 h [] ∧ h0.size ≤ b5_b40 ∧ Exa Z h b5_b40 "java/util/ImmutableCollections$ListN" ∧ Fld Z h b5_b40 "java/util/ImmutableCollections$ListN" "allowNulls" "Z" (.int (0 : Int32)) ∧ Fld Z h b5_b40 "java/util/ImmutableCollections$ListN" "elements" "[Ljava/lang/Object;" (.ref b5_b5) ∧ h0.size ≤ b5_b5 ∧ Exa Z h b5_b5 "[Ljava/lang/Object;" ∧ Ovr Z k5_k5 "java/lang/Object" ∧ Arv Z h b5_b5 k5_k5 (.object "java/lang/Object") (4 : Int32) [(.ref a2), (.ref a2), (.ref a2), (.ref a2)] .null ∧ b5_b40 ≠ b5_b5
theorem ef54 (a1 : Addr) (m : MethodId) : entryFrame m #[(.ref a1)] 2 = mkF m 0 #[.val (.ref a1), .unset] [] := by first | (simp [entryFrame, mkF, argsToLocals, Value.category]; done) | rfl
theorem rm54 (l : Launch) (Z : State) (a0 : Array Value) (hw : ∀ d ∈ tables_1, d.before a0 Z = true) (ws : List Jvm.Cond) (a1 : Addr) (a2 : Addr) (k3 : ClassId) (h0 : Heap) (n0 : Nat) (Z0 : n0 ≤ h0.size) (V_a1 : Arv Z h0 a1 k3 (.object "java/lang/Object") (4 : Int32) [(.ref a2), (.ref a2), (.ref a2), (.ref a2)] .null) (E_a2 : Exa Z h0 a2 "com/example/feedergen/feedergen/core/GeoPoint") :
    OwnMet l Z y_25 jdk_40_method_47_code 2 (some (.object "java/util/List")) ws Rm54 #[(.ref a1)] h0 (Q54 Z a1 a2 k3 h0 n0) := by
  refine own_body (plainFor_of_name pn_12) (ef54 a1) ?_
  intro p e s m below meth c s₁ hx hby hml hown hnm hret hZ X0 e0
  have N0 := Fr.nil n0
  obtain ⟨cl4, Ar4, q4, S4, M4, Hs4, G4⟩ := id V_a1
  obtain ⟨_, T5, L5, X5, hQ5, st5⟩ := own_callS X0 hx hZ hown (y := y_31) (w_226 hw) (w_227 hw) (w_135 hw) (w_228 hw) (rm53 l Z a0 hw [] a1 a2 k3 h0 n0 Z0 V_a1 E_a2) e0 (Ls := #[.val (.ref a1), .unset]) (by rw [hml]; rfl) (argsL := [(.ref a1)]) (rest := []) (lenOf pd_15 rfl) (hb hby d23_60) (W := 0)
  obtain ⟨b5_b40, b5_b5, k5_k5, rfl, Nq5, K5, o5_0, o5_1, o5_2, o5_3, o5_4, o5_5, o5_6, o5_7, o5_8⟩ := hQ5
  have N5 := Fr.app N0 Nq5
  have s0 := K5.1
  have sz_b5_b40 : h0.size ≤ b5_b40 := o5_0
  have sz_b5_b5 : h0.size ≤ b5_b5 := o5_4
  have Kp0 : Keep h0 T5.heap [] := (Keep.refl h0 []).trans K5 all0
  refine ⟨T5, _, _, _, (some (.ref b5_b40)), X5, nofun, by decide, by decide, ?_, fun fs hr => ?_⟩
  · show Q54 Z a1 a2 k3 h0 n0 _ T5.heap _
    exact ⟨b5_b40, b5_b5, k5_k5, rfl, N5, Kp0, sz_b5_b40, o5_1, o5_2, o5_3, sz_b5_b5, o5_5, o5_6, o5_7, o5_8⟩
  · show Steps p.tables e below (s₁.setTop (mkF m 0 #[.val (.ref a1), .unset] [])) _
    refine XS.aloadN X0.here hx rfl (hb hby d23_0) rfl rfl ?_
    refine X0.arraylength hx (by rw [e0]; exact Ar4.1) (State.isArrayOf_alike hZ.alike Ar4.2.1) (g := (mkF m 1 #[.val (.ref a1), .unset] [(.ref a1)])) rfl rfl (hb hby d23_1) _ ?_
    show Steps p.tables e below (s₁.setTop (mkF m 2 #[.val (.ref a1), .unset] [(.int cl4.slots.size.toInt32)])) _
    rw [len_of S4 M4]
    refine XS.tswOut X0.here hx rfl (pc0 := 2) (pc' := 59) rfl (hb hby d23_2) rfl (by decide) (by decide) (by decide) ?_
    refine XS.aloadN X0.here hx rfl (hb hby d23_59) rfl rfl ?_
    refine st5 _ ?_
    exact retOut X5 hx hret rfl (Or.inr (Or.inr (Or.inr (Or.inr ⟨rfl, rfl, rfl⟩)))) (hb hby d23_63) hr
-- java/util/ImmutableCollections.listCopy(Ljava/util/Collection;)Ljava/util/List;
abbrev Rm55 : Room := { frames := 7, cells := 3, slots := 10, locals := 90 }
def Q55 (Z : State) (a1 : Addr) (a5 : Addr) (a6 : Addr) (a7 : Addr) (k8 : ClassId) (h0 : Heap) (n0 : Nat) (v : Option Value) (h : Heap) (L : List Loc) : Prop := ∃ b11_b5_b40 : Addr, ∃ b11_b5_b5 : Addr, ∃ k11_k5_k5 : ClassId, v = some (.ref b11_b5_b40) ∧ Fr n0 L ∧ Keep h0 h [] ∧ h0.size ≤ b11_b5_b40 ∧ Exa Z h b11_b5_b40 "java/util/ImmutableCollections$ListN" ∧ Fld Z h b11_b5_b40 "java/util/ImmutableCollections$ListN" "allowNulls" "Z" (.int (0 : Int32)) ∧ Fld Z h b11_b5_b40 "java/util/ImmutableCollections$ListN" "elements" "[Ljava/lang/Object;" (.ref b11_b5_b5) ∧ h0.size ≤ b11_b5_b5 ∧ Exa Z h b11_b5_b5 "[Ljava/lang/Object;" ∧ Ovr Z k11_k5_k5 "java/lang/Object" ∧ Arv Z h b11_b5_b5 k11_k5_k5 (.object "java/lang/Object") (4 : Int32) [(.ref a7), (.ref a7), (.ref a7), (.ref a7)] .null ∧ b11_b5_b40 ≠ b11_b5_b5
theorem ef55 (a1 : Addr) (m : MethodId) : entryFrame m #[(.ref a1)] 2 = mkF m 0 #[.val (.ref a1), .unset] [] := by first | (simp [entryFrame, mkF, argsToLocals, Value.category]; done) | rfl
theorem rm55 (l : Launch) (Z : State) (a0 : Array Value) (hw : ∀ d ∈ tables_1, d.before a0 Z = true) (ws : List Jvm.Cond) (a1 : Addr) (a5 : Addr) (a6 : Addr) (a7 : Addr) (k8 : ClassId) (h0 : Heap) (n0 : Nat) (Z0 : n0 ≤ h0.size) (E_a1 : Exa Z h0 a1 "java/util/ArrayList") (F_size_a1 : Fld Z h0 a1 "java/util/ArrayList" "size" "I" (.int (4 : Int32))) (F_elementData_a1 : Fld Z h0 a1 "java/util/ArrayList" "elementData" "[Ljava/lang/Object;" (.ref a5)) (E_a5 : Exa Z h0 a5 "[Ljava/lang/Object;") (M_1 : OwnMir Z "[Ljava/lang/Object;" a6) (V_a5 : Arv Z h0 a5 k8 (.object "java/lang/Object") (10 : Int32) [(.ref a7), (.ref a7), (.ref a7), (.ref a7), .null, .null, .null, .null, .null, .null] .null) (E_a7 : Exa Z h0 a7 "com/example/feedergen/feedergen/core/GeoPoint") :
    OwnMet l Z y_26 jdk_56_method_3_code 2 (some (.object "java/util/List")) ws Rm55 #[(.ref a1)] h0 (Q55 Z a1 a5 a6 a7 k8 h0 n0) := by
  refine own_body (plainFor_of_name pn_13) (ef55 a1) ?_
  intro p e s m below meth c s₁ hx hby hml hown hnm hret hZ X0 e0
  have N0 := Fr.nil n0
  obtain ⟨T2, X2, e2, st2⟩ := instNo X0 hx hZ hown (w_137 hw) e0 E_a1 (own_NSno (w_138 hw) (w_186 hw) (NS.step (w_138 hw) (NS.step (w_139 hw) (NS.step (w_140 hw) (own_NSroot (w_141 hw) (w_186 hw) (by decide)) (by decide)) (by decide)) (by decide)) (by decide)) (g := (mkF m 1 #[.val (.ref a1), .unset] [(.ref a1)])) rfl rfl (hb hby d17_1)
  obtain ⟨T3, X3, e3, st3⟩ := instNo X2 hx hZ hown (w_142 hw) e2 E_a1 (own_NSno (w_138 hw) (w_231 hw) (NS.step (w_138 hw) (NS.step (w_139 hw) (NS.step (w_140 hw) (own_NSroot (w_141 hw) (w_231 hw) (by decide)) (by decide)) (by decide)) (by decide)) (by decide)) (g := (mkF m 8 #[.val (.ref a1), .unset] [(.ref a1)])) rfl rfl (hb hby d17_8)
  obtain ⟨_, T4, L4, X4, hQ4, st4⟩ := own_iface X3 hx hZ hown (y := y_15) (z := y_14) E_a1 (w_143 hw) (w_144 hw) (w_145 hw) (w_146 hw) (w_147 hw) (w_148 hw) (w_149 hw) (w_150 hw) (w_30 hw) (w_151 hw) (rm48 l Z a0 hw [] a1 h0 n0 Z0 F_size_a1) e3 (Ls := #[.val (.ref a1), .unset]) (by rw [hml]; rfl) (argsL := []) (rest := []) (lenOf pd_10 rfl) (hb hby d17_32) (W := 0)
  obtain ⟨rfl, Nq4, e4⟩ := hQ4
  have N4 := Fr.app N0 Nq4
  obtain ⟨_, T9, L9, X9, hQ9, st9⟩ := own_iface X4 hx hZ hown (y := y_20) (z := y_19) E_a1 (w_152 hw) (w_153 hw) (w_154 hw) (w_155 hw) (w_156 hw) (w_157 hw) (w_158 hw) (w_150 hw) (w_30 hw) (w_159 hw) (rm52 l Z a0 hw [] a1 a5 a6 a7 k8 h0 n0 Z0 F_elementData_a1 F_size_a1 E_a5 M_1 V_a5 E_a7) e4 (Ls := #[.val (.ref a1), .unset]) (by rw [hml]; rfl) (argsL := []) (rest := []) (lenOf pd_5 rfl) (hb hby d17_45) (W := 0)
  obtain ⟨b9_b8_b6_b4, k9_k8_k6_k4, rfl, Nq9, K9, o9_0, o9_1, o9_2, o9_3⟩ := hQ9
  have N9 := Fr.app N4 Nq9
  have s0 := K9.1
  have Ex10 := (E_a7.keep K9)
  have z1 := Nat.le_trans Z0 s0
  obtain ⟨_, T11, L11, X11, hQ11, st11⟩ := own_callS X9 hx hZ hown (y := y_25) (w_182 hw) (w_183 hw) (w_131 hw) (w_184 hw) (rm54 l Z a0 hw [] b9_b8_b6_b4 a7 k9_k8_k6_k4 T9.heap n0 z1 o9_3 Ex10) rfl (Ls := #[.val (.ref a1), .unset]) (by rw [hml]; rfl) (argsL := [(.ref b9_b8_b6_b4)]) (rest := []) (lenOf pd_15 rfl) (hb hby d17_50) (W := 0)
  obtain ⟨b11_b5_b40, b11_b5_b5, k11_k5_k5, rfl, Nq11, K11, o11_0, o11_1, o11_2, o11_3, o11_4, o11_5, o11_6, o11_7, o11_8⟩ := hQ11
  have N11 := Fr.app N9 Nq11
  have s1 := K11.1
  have sz_b11_b5_b40 : h0.size ≤ b11_b5_b40 := Nat.le_trans s0 o11_0
  have sz_b11_b5_b5 : h0.size ≤ b11_b5_b5 := Nat.le_trans s0 o11_4
  have Kp0 : Keep h0 T9.heap [] := (Keep.refl h0 []).trans K9 all0
  have Kp1 : Keep h0 T11.heap [] := Kp0.trans K11 all0
  refine ⟨T11, _, _, _, (some (.ref b11_b5_b40)), X11, nofun, by decide, by decide, ?_, fun fs hr => ?_⟩
  · show Q55 Z a1 a5 a6 a7 k8 h0 n0 _ T11.heap _
    exact ⟨b11_b5_b40, b11_b5_b5, k11_k5_k5, rfl, N11, Kp1, sz_b11_b5_b40, o11_1, o11_2, o11_3, sz_b11_b5_b5, o11_5, o11_6, o11_7, o11_8⟩
  · show Steps p.tables e below (s₁.setTop (mkF m 0 #[.val (.ref a1), .unset] [])) _
    refine XS.aloadN X0.here hx rfl (hb hby d17_0) rfl rfl ?_
    refine st2 _ ?_
    refine XS.ifNo X2.here hx rfl (hb hby d17_4) rfl ((if0 _ _).trans (teq ((by decide : (0 : Int32) = (0 : Int32)) : (0 : Int32) = (0 : Int32))).2) ?_
    refine XS.aloadN X2.here hx rfl (hb hby d17_7) rfl rfl ?_
    refine st3 _ ?_
    refine XS.ifYes X3.here hx rfl (pc0 := 11) (pc' := 31) rfl (hb hby d17_11) rfl ((if0 _ _).trans (teq ((by decide : (0 : Int32) = (0 : Int32)) : (0 : Int32) = (0 : Int32))).1) (by decide) (by decide) ?_
    refine XS.aloadN X3.here hx rfl (hb hby d17_31) rfl rfl ?_
    refine st4 _ ?_
    refine XS.ifYes X4.here hx rfl (pc0 := 37) (pc' := 44) rfl (hb hby d17_37) rfl ((if0 _ _).trans (teq ((by decide : (0 : Int32) = (0 : Int32)) : (0 : Int32) = (0 : Int32))).1) (by decide) (by decide) ?_
    refine XS.aloadN X4.here hx rfl (hb hby d17_44) rfl rfl ?_
    refine st9 _ ?_
    refine st11 _ ?_
    show Steps p.tables e below (T11.setTop (mkF m 53 #[.val (.ref a1), .unset] [(.ref b11_b5_b40)])) _
    exact retOut X11 hx hret rfl (Or.inr (Or.inr (Or.inr (Or.inr ⟨rfl, rfl, rfl⟩)))) (hb hby d17_53) hr
-- java/util/List.copyOf(Ljava/util/Collection;)Ljava/util/List;
abbrev Rm56 : Room := { frames := 8, cells := 3, slots := 10, locals := 103 }
def Q56 (Z : State) (a1 : Addr) (a2 : Addr) (a3 : Addr) (a4 : Addr) (k5 : ClassId) (h0 : Heap) (n0 : Nat) (v : Option Value) (h : Heap) (L : List Loc) : Prop := ∃ b6_b11_b5_b40 : Addr, ∃ b6_b11_b5_b5 : Addr, ∃ k6_k11_k5_k5 : ClassId, v = some (.ref b6_b11_b5_b40) ∧ Fr n0 L ∧ Keep h0 h [] ∧ h0.size ≤ b6_b11_b5_b40 ∧ Exa Z h b6_b11_b5_b40 "java/util/ImmutableCollections$ListN" ∧ Fld Z h b6_b11_b5_b40 "java/util/ImmutableCollections$ListN" "allowNulls" "Z" (.int (0 : Int32)) ∧ Fld Z h b6_b11_b5_b40 "java/util/ImmutableCollections$ListN" "elements" "[Ljava/lang/Object;" (.ref b6_b11_b5_b5) ∧ h0.size ≤ b6_b11_b5_b5 ∧ Exa Z h b6_b11_b5_b5 "[Ljava/lang/Object;" ∧ Ovr Z k6_k11_k5_k5 "java/lang/Object" ∧ Arv Z h b6_b11_b5_b5 k6_k11_k5_k5 (.object "java/lang/Object") (4 : Int32) [(.ref a4), (.ref a4), (.ref a4), (.ref a4)] .null ∧ b6_b11_b5_b40 ≠ b6_b11_b5_b5
theorem ef56 (a1 : Addr) (m : MethodId) : entryFrame m #[(.ref a1)] 1 = mkF m 0 #[.val (.ref a1)] [] := by first | (simp [entryFrame, mkF, argsToLocals, Value.category]; done) | rfl
theorem rm56 (l : Launch) (Z : State) (a0 : Array Value) (hw : ∀ d ∈ tables_1, d.before a0 Z = true) (ws : List Jvm.Cond) (a1 : Addr) (a2 : Addr) (a3 : Addr) (a4 : Addr) (k5 : ClassId) (h0 : Heap) (n0 : Nat) (Z0 : n0 ≤ h0.size) (E_a1 : Exa Z h0 a1 "java/util/ArrayList") (F_size_a1 : Fld Z h0 a1 "java/util/ArrayList" "size" "I" (.int (4 : Int32))) (F_elementData_a1 : Fld Z h0 a1 "java/util/ArrayList" "elementData" "[Ljava/lang/Object;" (.ref a2)) (E_a2 : Exa Z h0 a2 "[Ljava/lang/Object;") (M_1 : OwnMir Z "[Ljava/lang/Object;" a3) (V_a2 : Arv Z h0 a2 k5 (.object "java/lang/Object") (10 : Int32) [(.ref a4), (.ref a4), (.ref a4), (.ref a4), .null, .null, .null, .null, .null, .null] .null) (E_a4 : Exa Z h0 a4 "com/example/feedergen/feedergen/core/GeoPoint") :
    OwnMet l Z y_27 jdk_40_method_48_code 1 (some (.object "java/util/List")) ws Rm56 #[(.ref a1)] h0 (Q56 Z a1 a2 a3 a4 k5 h0 n0) := by
  refine own_body (plainFor_of_name pn_12) (ef56 a1) ?_
  intro p e s m below meth c s₁ hx hby hml hown hnm hret hZ X0 e0
  have N0 := Fr.nil n0
  obtain ⟨_, T6, L6, X6, hQ6, st6⟩ := own_callS X0 hx hZ hown (y := y_26) (w_133 hw) (w_134 hw) (w_135 hw) (w_136 hw) (rm55 l Z a0 hw [] a1 a2 a3 a4 k5 h0 n0 Z0 E_a1 F_size_a1 F_elementData_a1 E_a2 M_1 V_a2 E_a4) e0 (Ls := #[.val (.ref a1)]) (by rw [hml]; rfl) (argsL := [(.ref a1)]) (rest := []) (lenOf pd_16 rfl) (hb hby d16_1) (W := 0)
  obtain ⟨b6_b11_b5_b40, b6_b11_b5_b5, k6_k11_k5_k5, rfl, Nq6, K6, o6_0, o6_1, o6_2, o6_3, o6_4, o6_5, o6_6, o6_7, o6_8⟩ := hQ6
  have N6 := Fr.app N0 Nq6
  have s0 := K6.1
  have sz_b6_b11_b5_b40 : h0.size ≤ b6_b11_b5_b40 := o6_0
  have sz_b6_b11_b5_b5 : h0.size ≤ b6_b11_b5_b5 := o6_4
  have Kp0 : Keep h0 T6.heap [] := (Keep.refl h0 []).trans K6 all0
  refine ⟨T6, _, _, _, (some (.ref b6_b11_b5_b40)), X6, nofun, by decide, by decide, ?_, fun fs hr => ?_⟩
  · show Q56 Z a1 a2 a3 a4 k5 h0 n0 _ T6.heap _
    exact ⟨b6_b11_b5_b40, b6_b11_b5_b5, k6_k11_k5_k5, rfl, N6, Kp0, sz_b6_b11_b5_b40, o6_1, o6_2, o6_3, sz_b6_b11_b5_b5, o6_5, o6_6, o6_7, o6_8⟩
  · show Steps p.tables e below (s₁.setTop (mkF m 0 #[.val (.ref a1)] [])) _
    refine XS.aloadN X0.here hx rfl (hb hby d16_0) rfl rfl ?_
    refine st6 _ ?_
    exact retOut X6 hx hret rfl (Or.inr (Or.inr (Or.inr (Or.inr ⟨rfl, rfl, rfl⟩)))) (hb hby d16_4) hr
-- com/example/feedergen/feedergen/core/StreetLink.<init>(Lcom/example/feedergen/feedergen/core/StreetWay;[JLjava/util/List;)V
abbrev Rm57 : Room := { frames := 9, cells := 4, slots := 14, locals := 115 }
def Q57 (Z : State) (a1 : Addr) (a2 : Addr) (a3 : Addr) (a4 : Addr) (q6 : Int64) (q7 : Int64) (q8 : Int64) (q9 : Int64) (k10 : ClassId) (a17 : Addr) (a20 : Addr) (a21 : Addr) (k22 : ClassId) (h0 : Heap) (n0 : Nat) (v : Option Value) (h : Heap) (L : List Loc) : Prop := ∃ b13 : Addr, ∃ b25_b6_b11_b5_b40 : Addr, ∃ b25_b6_b11_b5_b5 : Addr, ∃ k25_k6_k11_k5_k5 : ClassId, v = none ∧ Fr n0 L ∧ Keep h0 h [a1] ∧ Exa Z h a1 "com/example/feedergen/feedergen/core/StreetLink" ∧ Fld Z h a1 "com/example/feedergen/feedergen/core/StreetLink" "nodes" "[J" (.ref b13) ∧ Fld Z h a1 "com/example/feedergen/feedergen/core/StreetLink" "points" "Ljava/util/List;" (.ref b25_b6_b11_b5_b40) ∧ Fld Z h a1 "com/example/feedergen/feedergen/core/StreetLink" "way" "Lcom/example/feedergen/feedergen/core/StreetWay;" (.ref a2) ∧ h0.size ≤ b13 ∧ Exa Z h b13 "[J" ∧ Arv Z h b13 k10 .long (4 : Int32) [(.long q6), (.long q7), (.long q8), (.long q9)] (.long (0 : Int64)) ∧ h0.size ≤ b25_b6_b11_b5_b40 ∧ Exa Z h b25_b6_b11_b5_b40 "java/util/ImmutableCollections$ListN" ∧ Fld Z h b25_b6_b11_b5_b40 "java/util/ImmutableCollections$ListN" "allowNulls" "Z" (.int (0 : Int32)) ∧ Fld Z h b25_b6_b11_b5_b40 "java/util/ImmutableCollections$ListN" "elements" "[Ljava/lang/Object;" (.ref b25_b6_b11_b5_b5) ∧ h0.size ≤ b25_b6_b11_b5_b5 ∧ Exa Z h b25_b6_b11_b5_b5 "[Ljava/lang/Object;" ∧ Ovr Z k25_k6_k11_k5_k5 "java/lang/Object" ∧ Arv Z h b25_b6_b11_b5_b5 k25_k6_k11_k5_k5 (.object "java/lang/Object") (4 : Int32) [(.ref a21), (.ref a21), (.ref a21), (.ref a21)] .null ∧ b13 ≠ b25_b6_b11_b5_b40 ∧ b13 ≠ b25_b6_b11_b5_b5 ∧ b25_b6_b11_b5_b40 ≠ b25_b6_b11_b5_b5
theorem ef57 (a1 : Addr) (a2 : Addr) (a3 : Addr) (a4 : Addr) (m : MethodId) : entryFrame m #[(.ref a1), (.ref a2), (.ref a3), (.ref a4)] 4 = mkF m 0 #[.val (.ref a1), .val (.ref a2), .val (.ref a3), .val (.ref a4)] [] := by first | (simp [entryFrame, mkF, argsToLocals, Value.category]; done) | rfl
theorem rm57 (l : Launch) (Z : State) (a0 : Array Value) (hw : ∀ d ∈ tables_1, d.before a0 Z = true) (ws : List Jvm.Cond) (a1 : Addr) (a2 : Addr) (a3 : Addr) (a4 : Addr) (q6 : Int64) (q7 : Int64) (q8 : Int64) (q9 : Int64) (k10 : ClassId) (a17 : Addr) (a20 : Addr) (a21 : Addr) (k22 : ClassId) (h0 : Heap) (n0 : Nat) (Z0 : n0 ≤ h0.size) (V_a3 : Arv Z h0 a3 k10 .long (4 : Int32) [(.long q6), (.long q7), (.long q8), (.long q9)] (.long (0 : Int64))) (E_a4 : Exa Z h0 a4 "java/util/ArrayList") (F_size_a4 : Fld Z h0 a4 "java/util/ArrayList" "size" "I" (.int (4 : Int32))) (E_a3 : Exa Z h0 a3 "[J") (F_elementData_a4 : Fld Z h0 a4 "java/util/ArrayList" "elementData" "[Ljava/lang/Object;" (.ref a17)) (E_a17 : Exa Z h0 a17 "[Ljava/lang/Object;") (M_1 : OwnMir Z "[Ljava/lang/Object;" a20) (V_a17 : Arv Z h0 a17 k22 (.object "java/lang/Object") (10 : Int32) [(.ref a21), (.ref a21), (.ref a21), (.ref a21), .null, .null, .null, .null, .null, .null] .null) (E_a21 : Exa Z h0 a21 "com/example/feedergen/feedergen/core/GeoPoint") (F_way_a1 : Fld Z h0 a1 "com/example/feedergen/feedergen/core/StreetLink" "way" "Lcom/example/feedergen/feedergen/core/StreetWay;" .null) (E_a1 : Exa Z h0 a1 "com/example/feedergen/feedergen/core/StreetLink") (g_a1 : n0 ≤ a1) (F_nodes_a1 : Fld Z h0 a1 "com/example/feedergen/feedergen/core/StreetLink" "nodes" "[J" .null) (F_points_a1 : Fld Z h0 a1 "com/example/feedergen/feedergen/core/StreetLink" "points" "Ljava/util/List;" .null) :
    OwnMet l Z y_28 prog_31_method_1_code 4 none ws Rm57 #[(.ref a1), (.ref a2), (.ref a3), (.ref a4)] h0 (Q57 Z a1 a2 a3 a4 q6 q7 q8 q9 k10 a17 a20 a21 k22 h0 n0) := by
  refine own_body (plainFor_of_name pn_14) (ef57 a1 a2 a3 a4) ?_
  intro p e s m below meth c s₁ hx hby hml hown hnm hret hZ X0 e0
  have N0 := Fr.nil n0
  obtain ⟨_, T5, L5, X5, hQ5, st5⟩ := own_special X0 hx hZ hown (y := y_0) (a := a1) (w_117 hw) (w_9 hw) (w_11 hw) (w_12 hw) (rm1 l Z a0 hw [] a1 h0 n0 Z0) e0 (Ls := #[.val (.ref a1), .val (.ref a2), .val (.ref a3), .val (.ref a4)]) (by rw [hml]; rfl) (argsL := []) (rest := []) (lenOf pd_0 rfl) (hb hby d14_1) (W := 0)
  obtain ⟨rfl, Nq5, e5⟩ := hQ5
  have N5 := Fr.app N0 Nq5
  obtain ⟨cl11, Ar11, q11, S11, M11, Hs11, G11⟩ := id V_a3
  obtain ⟨_, T12, L12, X12, hQ12, st12⟩ := own_iface X5 hx hZ hown (y := y_13) (z := y_12) E_a4 (w_118 hw) (w_119 hw) (w_120 hw) (w_121 hw) (w_122 hw) (w_123 hw) (w_124 hw) (w_125 hw) (w_30 hw) (w_126 hw) (rm47 l Z a0 hw [] a4 h0 n0 Z0 F_size_a4) e5 (Ls := #[.val (.ref a1), .val (.ref a2), .val (.ref a3), .val (.ref a4)]) (by rw [hml]; rfl) (argsL := []) (rest := []) (lenOf pd_9 rfl) (hb hby d14_11) (W := 0)
  obtain ⟨rfl, Nq12, e12⟩ := hQ12
  have N12 := Fr.app N5 Nq12
  obtain ⟨T13, h13, X13, e13, E13, V13, B13, st13⟩ := cloneH X12 hx hZ hown (w_127 hw) (w_91 hw) (w_95 hw) (w_93 hw) (w_94 hw) (w_96 hw) e12 (Arv.arh V_a3) E_a3 (g := (mkF m 47 #[.val (.ref a1), .val (.ref a2), .val (.ref a3), .val (.ref a4)] [(.ref a3)])) rfl (by rw [hml]; rfl) rfl (hb hby d14_47) (by decide) (W := 0) (cap := 4) (by show 2 * 0 + _ ≤ _; exact Nat.le_of_eq rfl) (by decide) (by decide) (by decide) (by decide)
  obtain ⟨b13, g13⟩ : ∃ z, z = h0.size := ⟨_, rfl⟩
  rw [← g13] at V13 B13 st13
  have s0 := E13.1
  have Vn13 : Arv Z h13 b13 k10 .long (4 : Int32) [(.long q6), (.long q7), (.long q8), (.long q9)] (.long (0 : Int64)) := own_arv_of_arh V13
  obtain ⟨T14, X14, e14, st14⟩ := castY X13 hx hZ hown (w_128 hw) e13 (Ins.self B13) (g := (mkF m 50 #[.val (.ref a1), .val (.ref a2), .val (.ref a3), .val (.ref a4)] [(.ref b13)])) rfl rfl (hb hby d14_50)
  have Ex15 := (E_a4.ext E13)
  have Fl16 := (F_size_a4.ext E13)
  have Fl18 := (F_elementData_a4.ext E13)
  have Ex19 := (E_a17.ext E13)
  have Va23 := (V_a17.ext E13)
  have Ex24 := (E_a21.ext E13)
  have z1 := Nat.le_trans Z0 s0
  obtain ⟨_, T25, L25, X25, hQ25, st25⟩ := own_callS X14 hx hZ hown (y := y_27) (w_129 hw) (w_130 hw) (w_131 hw) (w_132 hw) (rm56 l Z a0 hw [] a4 a17 a20 a21 k22 h13 n0 z1 Ex15 Fl16 Fl18 Ex19 M_1 Va23 Ex24) e14 (Ls := #[.val (.ref a1), .val (.ref a2), .val (.ref b13), .val (.ref a4)]) (by rw [hml]; rfl) (argsL := [(.ref a4)]) (rest := []) (lenOf pd_16 rfl) (hb hby d14_55) (W := 0)
  obtain ⟨b25_b6_b11_b5_b40, b25_b6_b11_b5_b5, k25_k6_k11_k5_k5, rfl, Nq25, K25, o25_0, o25_1, o25_2, o25_3, o25_4, o25_5, o25_6, o25_7, o25_8⟩ := hQ25
  have N25 := Fr.app N12 Nq25
  have s1 := K25.1
  have Fl26 := ((F_way_a1.ext E13).keep K25 nin0)
  have Ex27 := ((E_a1.ext E13).keep K25)
  obtain ⟨T28, h28, X28, e28, W28, st28⟩ := putF X25 hx hZ hown (host := "") (Or.inl (w_214 hw)) Via.refl rfl Fl26 Ex27 (Or.inr ⟨(w_215 hw), rfl, hnm⟩) (w_112 hw) (ty := (.object "com/example/feedergen/feedergen/core/StreetWay")) (by decide) rfl rfl (g := (mkF m 61 #[.val (.ref a1), .val (.ref a2), .val (.ref b13), .val (.ref b25_b6_b11_b5_b40)] [(.ref a2), (.ref a1)])) rfl rfl (hb hby d14_61)
  have s2 := (Keep.of_wr W28).1
  have N28 := Fr.snoc X28 N25 g_a1
  have Fw28 : Fld Z h28 a1 "com/example/feedergen/feedergen/core/StreetLink" "way" "Lcom/example/feedergen/feedergen/core/StreetWay;" (.ref a2) := Fl26.same W28
  have Ex29 := (Ex27.wr W28)
  have Fl30 := (((F_nodes_a1.ext E13).keep K25 nin0).other W28 (Or.inr (slot_ne (Or.inr (w_217 hw)) (Or.inr (w_215 hw)) (by decide) (t := (.array .long)) (t' := (.object "com/example/feedergen/feedergen/core/StreetWay")) (by decide) (by decide))))
  obtain ⟨T31, h31, X31, e31, W31, st31⟩ := putF X28 hx hZ hown (host := "") (Or.inl (w_216 hw)) Via.refl e28 Fl30 Ex29 (Or.inr ⟨(w_217 hw), rfl, hnm⟩) (w_112 hw) (ty := (.array .long)) (by decide) rfl rfl (g := (mkF m 66 #[.val (.ref a1), .val (.ref a2), .val (.ref b13), .val (.ref b25_b6_b11_b5_b40)] [(.ref b13), (.ref a1)])) rfl rfl (hb hby d14_66)
  have s3 := (Keep.of_wr W31).1
  have N31 := Fr.snoc X31 N28 g_a1
  have Fw31 : Fld Z h31 a1 "com/example/feedergen/feedergen/core/StreetLink" "nodes" "[J" (.ref b13) := Fl30.same W31
  have Ex32 := (Ex29.wr W31)
  have Fl33 := ((((F_points_a1.ext E13).keep K25 nin0).other W28 (Or.inr (slot_ne (Or.inr (w_219 hw)) (Or.inr (w_215 hw)) (by decide) (t := (.object "java/util/List")) (t' := (.object "com/example/feedergen/feedergen/core/StreetWay")) (by decide) (by decide)))).other W31 (Or.inr (slot_ne (Or.inr (w_219 hw)) (Or.inr (w_217 hw)) (by decide) (t := (.object "java/util/List")) (t' := (.array .long)) (by decide) (by decide))))
  obtain ⟨T34, h34, X34, e34, W34, st34⟩ := putF X31 hx hZ hown (host := "") (Or.inl (w_218 hw)) Via.refl e31 Fl33 Ex32 (Or.inr ⟨(w_219 hw), rfl, hnm⟩) (w_112 hw) (ty := (.object "java/util/List")) (by decide) rfl rfl (g := (mkF m 71 #[.val (.ref a1), .val (.ref a2), .val (.ref b13), .val (.ref b25_b6_b11_b5_b40)] [(.ref b25_b6_b11_b5_b40), (.ref a1)])) rfl rfl (hb hby d14_71)
  have s4 := (Keep.of_wr W34).1
  have N34 := Fr.snoc X34 N31 g_a1
  have Fw34 : Fld Z h34 a1 "com/example/feedergen/feedergen/core/StreetLink" "points" "Ljava/util/List;" (.ref b25_b6_b11_b5_b40) := Fl33.same W34
  have Ex35 := (Ex32.wr W34)
  have Fl36 := (Fw31.other W34 (Or.inr (slot_ne (Or.inr (w_217 hw)) (Or.inr (w_219 hw)) (by decide) (t := (.array .long)) (t' := (.object "java/util/List")) (by decide) (by decide))))
  have Fl37 := ((Fw28.other W31 (Or.inr (slot_ne (Or.inr (w_215 hw)) (Or.inr (w_217 hw)) (by decide) (t := (.object "com/example/feedergen/feedergen/core/StreetWay")) (t' := (.array .long)) (by decide) (by decide)))).other W34 (Or.inr (slot_ne (Or.inr (w_215 hw)) (Or.inr (w_219 hw)) (by decide) (t := (.object "com/example/feedergen/feedergen/core/StreetWay")) (t' := (.object "java/util/List")) (by decide) (by decide))))
  have sz_b13 : h0.size ≤ b13 := (Nat.le_of_eq g13.symm)
  have Ex38 := ((((B13.keep K25).wr W28).wr W31).wr W34)
  have ne_a1_b13 := Nat.ne_of_lt (Nat.lt_of_lt_of_le F_way_a1.lt (Nat.le_of_eq g13.symm))
  have Va39 := ((((Vn13.keep K25 nin0).other W28 (Ne.symm ne_a1_b13)).other W31 (Ne.symm ne_a1_b13)).other W34 (Ne.symm ne_a1_b13))
  have sz_b25_b6_b11_b5_b40 : h0.size ≤ b25_b6_b11_b5_b40 := Nat.le_trans s0 o25_0
  have Ex40 := (((o25_1.wr W28).wr W31).wr W34)
  have ne_a1_b25_b6_b11_b5_b40 := Nat.ne_of_lt (Nat.lt_of_lt_of_le (Nat.lt_of_lt_of_le F_way_a1.lt s0) o25_0)
  have Fl41 := (((o25_2.other W28 (Or.inl (Ne.symm ne_a1_b25_b6_b11_b5_b40))).other W31 (Or.inl (Ne.symm ne_a1_b25_b6_b11_b5_b40))).other W34 (Or.inl (Ne.symm ne_a1_b25_b6_b11_b5_b40)))
  have Fl42 := (((o25_3.other W28 (Or.inl (Ne.symm ne_a1_b25_b6_b11_b5_b40))).other W31 (Or.inl (Ne.symm ne_a1_b25_b6_b11_b5_b40))).other W34 (Or.inl (Ne.symm ne_a1_b25_b6_b11_b5_b40)))
  have sz_b25_b6_b11_b5_b5 : h0.size ≤ b25_b6_b11_b5_b5 := Nat.le_trans s0 o25_4
  have Ex43 := (((o25_5.wr W28).wr W31).wr W34)
  have ne_a1_b25_b6_b11_b5_b5 := Nat.ne_of_lt (Nat.lt_of_lt_of_le (Nat.lt_of_lt_of_le F_way_a1.lt s0) o25_4)
  have Va44 := (((o25_7.other W28 (Ne.symm ne_a1_b25_b6_b11_b5_b5)).other W31 (Ne.symm ne_a1_b25_b6_b11_b5_b5)).other W34 (Ne.symm ne_a1_b25_b6_b11_b5_b5))
  have ne_b13_b25_b6_b11_b5_b40 := Nat.ne_of_lt (Nat.lt_of_lt_of_le Vn13.lt o25_0)
  have ne_b13_b25_b6_b11_b5_b5 := Nat.ne_of_lt (Nat.lt_of_lt_of_le Vn13.lt o25_4)
  have Kp0 : Keep h0 h13 [a1] := (Keep.refl h0 [a1]).ext E13
  have Kp1 : Keep h0 T25.heap [a1] := Kp0.trans K25 all0
  have Kp2 : Keep h0 h28 [a1] := Kp1.wr W28 (Or.inl (List.mem_of_getElem? (i := 0) rfl))
  have Kp3 : Keep h0 h31 [a1] := Kp2.wr W31 (Or.inl (List.mem_of_getElem? (i := 0) rfl))
  have Kp4 : Keep h0 h34 [a1] := Kp3.wr W34 (Or.inl (List.mem_of_getElem? (i := 0) rfl))
  refine ⟨T34, _, _, _, none, X34, (fun _ => rfl), by decide, by decide, ?_, fun fs hr => ?_⟩
  · show Q57 Z a1 a2 a3 a4 q6 q7 q8 q9 k10 a17 a20 a21 k22 h0 n0 _ T34.heap _
    rw [e34]
    exact ⟨b13, b25_b6_b11_b5_b40, b25_b6_b11_b5_b5, k25_k6_k11_k5_k5, rfl, N34, Kp4, Ex35, Fl36, Fw34, Fl37, sz_b13, Ex38, Va39, sz_b25_b6_b11_b5_b40, Ex40, Fl41, Fl42, sz_b25_b6_b11_b5_b5, Ex43, o25_6, Va44, ne_b13_b25_b6_b11_b5_b40, ne_b13_b25_b6_b11_b5_b5, o25_8⟩
  · show Steps p.tables e below (s₁.setTop (mkF m 0 #[.val (.ref a1), .val (.ref a2), .val (.ref a3), .val (.ref a4)] [])) _
    refine XS.aloadN X0.here hx rfl (hb hby d14_0) rfl rfl ?_
    refine st5 _ ?_
    refine XS.aloadN X5.here hx rfl (hb hby d14_4) rfl rfl ?_
    refine X5.arraylength hx (by rw [e5]; exact Ar11.1) (State.isArrayOf_alike hZ.alike Ar11.2.1) (g := (mkF m 5 #[.val (.ref a1), .val (.ref a2), .val (.ref a3), .val (.ref a4)] [(.ref a3)])) rfl rfl (hb hby d14_5) _ ?_
    show Steps p.tables e below (T5.setTop (mkF m 6 #[.val (.ref a1), .val (.ref a2), .val (.ref a3), .val (.ref a4)] [(.int cl11.slots.size.toInt32)])) _
    rw [len_of S11 M11]
    refine XS.iconst X5.here hx rfl (hb hby d14_6) ?_
    refine XS.icmpNo X5.here hx rfl (hb hby d14_7) rfl (flt ((by decide : ¬ ((4 : Int32) < (2 : Int32))) : ¬ ((4 : Int32) < (2 : Int32)))).1 ?_
    refine XS.aloadN X5.here hx rfl (hb hby d14_10) rfl rfl ?_
    refine st12 _ ?_
    refine XS.aloadN X12.here hx rfl (hb hby d14_16) rfl rfl ?_
    refine X12.arraylength hx (by rw [e12]; exact Ar11.1) (State.isArrayOf_alike hZ.alike Ar11.2.1) (g := (mkF m 17 #[.val (.ref a1), .val (.ref a2), .val (.ref a3), .val (.ref a4)] [(.ref a3), (.int (4 : Int32))])) rfl rfl (hb hby d14_17) _ ?_
    show Steps p.tables e below (T12.setTop (mkF m 18 #[.val (.ref a1), .val (.ref a2), .val (.ref a3), .val (.ref a4)] [(.int cl11.slots.size.toInt32), (.int (4 : Int32))])) _
    rw [len_of S11 M11]
    refine XS.icmpYes X12.here hx rfl (pc0 := 18) (pc' := 46) rfl (hb hby d14_18) rfl (teq ((by decide : (4 : Int32) = (4 : Int32)) : (4 : Int32) = (4 : Int32))).1 (by decide) (by decide) ?_
    refine XS.aloadN X12.here hx rfl (hb hby d14_46) rfl rfl ?_
    refine st13 _ ?_
    refine st14 _ ?_
    refine XS.astoreN X14.here hx rfl (hb hby d14_53) rfl rfl (l' := #[.val (.ref a1), .val (.ref a2), .val (.ref b13), .val (.ref a4)]) rfl ?_
    refine XS.aloadN X14.here hx rfl (hb hby d14_54) rfl rfl ?_
    refine st25 _ ?_
    refine XS.astoreN X25.here hx rfl (hb hby d14_58) rfl rfl (l' := #[.val (.ref a1), .val (.ref a2), .val (.ref b13), .val (.ref b25_b6_b11_b5_b40)]) rfl ?_
    refine XS.aloadN X25.here hx rfl (hb hby d14_59) rfl rfl ?_
    refine XS.aloadN X25.here hx rfl (hb hby d14_60) rfl rfl ?_
    refine st28 _ ?_
    show Steps p.tables e below (T28.setTop (mkF m 64 #[.val (.ref a1), .val (.ref a2), .val (.ref b13), .val (.ref b25_b6_b11_b5_b40)] [])) _
    refine XS.aloadN X28.here hx rfl (hb hby d14_64) rfl rfl ?_
    refine XS.aloadN X28.here hx rfl (hb hby d14_65) rfl rfl ?_
    refine st31 _ ?_
    refine XS.aloadN X31.here hx rfl (hb hby d14_69) rfl rfl ?_
    refine XS.aloadN X31.here hx rfl (hb hby d14_70) rfl rfl ?_
    refine st34 _ ?_
    exact X34.returnOut hx hret (hb hby d14_74) hr
-- com/example/feedergen/feedergen/core/StreetLink.last()J
abbrev Rm58 : Room := { frames := 0, cells := 0, slots := 0, locals := 0 }
def Q58 (Z : State) (a1 : Addr) (a2 : Addr) (q5 : Int64) (q6 : Int64) (q7 : Int64) (q8 : Int64) (k9 : ClassId) (h0 : Heap) (n0 : Nat) (v : Option Value) (h : Heap) (L : List Loc) : Prop := v = some (.long q8) ∧ Fr n0 L ∧ h = h0
theorem ef58 (a1 : Addr) (m : MethodId) : entryFrame m #[(.ref a1)] 1 = mkF m 0 #[.val (.ref a1)] [] := by first | (simp [entryFrame, mkF, argsToLocals, Value.category]; done) | rfl
theorem rm58 (l : Launch) (Z : State) (a0 : Array Value) (hw : ∀ d ∈ tables_1, d.before a0 Z = true) (ws : List Jvm.Cond) (a1 : Addr) (a2 : Addr) (q5 : Int64) (q6 : Int64) (q7 : Int64) (q8 : Int64) (k9 : ClassId) (h0 : Heap) (n0 : Nat) (Z0 : n0 ≤ h0.size) (F_nodes_a1 : Fld Z h0 a1 "com/example/feedergen/feedergen/core/StreetLink" "nodes" "[J" (.ref a2)) (V_a2 : Arv Z h0 a2 k9 .long (4 : Int32) [(.long q5), (.long q6), (.long q7), (.long q8)] (.long (0 : Int64))) :
    OwnMet l Z y_29 prog_31_method_3_code 1 (some .long) ws Rm58 #[(.ref a1)] h0 (Q58 Z a1 a2 q5 q6 q7 q8 k9 h0 n0) := by
  refine own_body (plainFor_of_name pn_14) (ef58 a1) ?_
  intro p e s m below meth c s₁ hx hby hml hown hnm hret hZ X0 e0
  have N0 := Fr.nil n0
  obtain ⟨T3, X3, e3, st3⟩ := getF X0 hx hZ hown (host := "") (Or.inl (w_216 hw)) Via.refl e0 F_nodes_a1 (g := (mkF m 1 #[.val (.ref a1)] [(.ref a1)])) rfl rfl (hb hby d28_1)
  obtain ⟨T4, X4, e4, st4⟩ := getF X3 hx hZ hown (host := "") (Or.inl (w_216 hw)) Via.refl e3 F_nodes_a1 (g := (mkF m 5 #[.val (.ref a1)] [(.ref a1), (.ref a2)])) rfl rfl (hb hby d28_5)
  obtain ⟨cl10, Ar10, q10, S10, M10, Hs10, G10⟩ := id V_a2
  have hin11 : ¬ ((3 : Int32) < 0 ∨ cl10.slots.size ≤ ((3 : Int32)).toNatClampNeg) := inb_of S10 ⟨(by decide : ¬ ((3 : Int32) < (0 : Int32))), (by decide : (3 : Int32) < (4 : Int32))⟩
  refine ⟨T4, _, _, _, (some (.long q8)), X4, nofun, by decide, by decide, ?_, fun fs hr => ?_⟩
  · show Q58 Z a1 a2 q5 q6 q7 q8 k9 h0 n0 _ T4.heap _
    rw [e4]
    exact ⟨rfl, N0, rfl⟩
  · show Steps p.tables e below (s₁.setTop (mkF m 0 #[.val (.ref a1)] [])) _
    refine XS.aloadN X0.here hx rfl (hb hby d28_0) rfl rfl ?_
    refine st3 _ ?_
    refine XS.aloadN X3.here hx rfl (hb hby d28_4) rfl rfl ?_
    refine st4 _ ?_
    refine X4.arraylength hx (by rw [e4]; exact Ar10.1) (State.isArrayOf_alike hZ.alike Ar10.2.1) (g := (mkF m 8 #[.val (.ref a1)] [(.ref a2), (.ref a2)])) rfl rfl (hb hby d28_8) _ ?_
    show Steps p.tables e below (T4.setTop (mkF m 9 #[.val (.ref a1)] [(.int cl10.slots.size.toInt32), (.ref a2)])) _
    rw [len_of S10 M10]
    refine XS.iconst X4.here hx rfl (hb hby d28_9) ?_
    refine XS.isub X4.here hx rfl (hb hby d28_10) rfl ?_
    refine X4.laload hx (j := (3 : Int32)) (v := (.long q8)) (by rw [e4]; exact Ar10.1) (State.isArrayOf_alike hZ.alike Ar10.2.1) Ar10.2.2 hin11 (Has.at Hs10 hin11 rfl) (g := (mkF m 11 #[.val (.ref a1)] [(.int (3 : Int32)), (.ref a2)])) rfl rfl (hb hby d28_11) _ ?_
    exact retOut X4 hx hret rfl (Or.inr (Or.inl ⟨rfl, rfl, _, rfl⟩)) (hb hby d28_12) hr
theorem rm0_2 (l : Launch) (Z : State) (a0 : Array Value) (hw : ∀ d ∈ tables_1, d.before a0 Z = true) (ws : List Jvm.Cond) (p1 : Int64) (p2 : Int64) (p3 : Int64) (p4 : Int64) (p5 : Int32) (sa1 : Addr) (sa2 : Addr) (sk4 : ClassId) (sk6 : ClassId) (smr : Addr) (h0 : Heap) (n0 : Nat) (Z0 : n0 ≤ h0.size) (Od0 : Old Z n0 h0) (S3_EMPTY_ELEMENTDATA : Sta Z Z.heap "java/util/ArrayList" "EMPTY_ELEMENTDATA" "[Ljava/lang/Object;" (.ref sa1)) (E_sa1 : Exa Z h0 sa1 "[Ljava/lang/Object;") (V_sa1 : Arv Z h0 sa1 sk4 (.object "java/lang/Object") (0 : Int32) [] .null) (S5_DEFAULTCAPACITY_EMPTY_ELEMENTDATA : Sta Z Z.heap "java/util/ArrayList" "DEFAULTCAPACITY_EMPTY_ELEMENTDATA" "[Ljava/lang/Object;" (.ref sa2)) (E_sa2 : Exa Z h0 sa2 "[Ljava/lang/Object;") (V_sa2 : Arv Z h0 sa2 sk6 (.object "java/lang/Object") (0 : Int32) [] .null) (M_top : OwnMir Z "[Ljava/lang/Object;" smr) (hk : ((p5 &&& (2147483647 : Int32)) - ((p5 &&& (2147483647 : Int32)) / (3 : Int32)) * (3 : Int32)) = (2 : Int32)) :
    OwnMet l Z x code maxLocals ret ws room_1 #[(.long p1), (.long p2), (.long p3), (.long p4), (.int p5)] h0 (Q0 n0) := by
  refine own_body (plainFor_of_name pn_15) (ef0 p1 p2 p3 p4 p5) ?_
  intro p e s m below meth c s₁ hx hby hml hown hnm hret hZ X0 e0
  have N0 := Fr.nil n0
  obtain ⟨T1, h1, k1, X1, e1, E1, A1, B1, st1⟩ := newPE (aty := .long) X0 hx hZ (w_1 hw) e0 (g := (mkF m 13 #[.val (.long p1), .second, .val (.long p2), .second, .val (.long p3), .second, .val (.long p4), .second, .val (.int p5), .val (.int (4 : Int32)), .unset, .unset, .unset, .unset, .unset, .unset, .unset, .unset, .unset] [(.int (4 : Int32))])) rfl (hb hby at_13) rfl (by decide) (cap := 4) (by decide) (by decide) (by decide) (by decide) (ad := "[J") (by decide)
  obtain ⟨b1, g1⟩ : ∃ z, z = h0.size := ⟨_, rfl⟩
  rw [← g1] at A1 B1 st1
  have s0 := E1.1
  have Vn1 : Arv Z h1 b1 k1 .long (4 : Int32) [(.long (0 : Int64)), (.long (0 : Int64)), (.long (0 : Int64)), (.long (0 : Int64))] (.long (0 : Int64)) := (Arv.new A1 (by decide)).pad (pad_rep [] (.long (0 : Int64)) 4)
  obtain ⟨cl2, Ar2, q2, S2, M2, Hs2, G2⟩ := id Vn1
  have hin3 : ¬ ((0 : Int32) < 0 ∨ cl2.slots.size ≤ ((0 : Int32)).toNatClampNeg) := inb_of S2 ⟨(by decide : ¬ ((0 : Int32) < (0 : Int32))), (by decide : (0 : Int32) < (4 : Int32))⟩
  obtain ⟨T4, h4, X4, e4, W4, st4⟩ := stJ X1 hx hZ e1 Ar2 (j := (0 : Int32)) hin3 (g := (mkF m 21 #[.val (.long p1), .second, .val (.long p2), .second, .val (.long p3), .second, .val (.long p4), .second, .val (.int p5), .val (.int (4 : Int32)), .val (.ref b1), .unset, .unset, .unset, .unset, .unset, .unset, .unset, .unset] [(.long p1), (.int (0 : Int32)), (.ref b1)])) rfl rfl (hb hby at_21)
  have s1 := (Keep.of_wr W4).1
  have g_b1 : n0 ≤ b1 := Nat.le_trans Z0 (Nat.le_of_eq g1.symm)
  have N4 := Fr.snoc X4 N0 g_b1
  have Vs4 : Arv Z h4 b1 k1 .long (4 : Int32) [(.long p1), (.long (0 : Int64)), (.long (0 : Int64)), (.long (0 : Int64))] (.long (0 : Int64)) := Arv.set Ar2 q2 S2 M2 Hs2 G2 rfl W4 0 rfl (Nat.le_of_ble_eq_true rfl)
  obtain ⟨cl5, Ar5, q5, S5, M5, Hs5, G5⟩ := id Vs4
  have hin6 : ¬ ((1 : Int32) < 0 ∨ cl5.slots.size ≤ ((1 : Int32)).toNatClampNeg) := inb_of S5 ⟨(by decide : ¬ ((1 : Int32) < (0 : Int32))), (by decide : (1 : Int32) < (4 : Int32))⟩
  obtain ⟨T7, h7, X7, e7, W7, st7⟩ := stJ X4 hx hZ e4 Ar5 (j := (1 : Int32)) hin6 (g := (mkF m 26 #[.val (.long p1), .second, .val (.long p2), .second, .val (.long p3), .second, .val (.long p4), .second, .val (.int p5), .val (.int (4 : Int32)), .val (.ref b1), .unset, .unset, .unset, .unset, .unset, .unset, .unset, .unset] [(.long p2), (.int (1 : Int32)), (.ref b1)])) rfl rfl (hb hby at_26)
  have s2 := (Keep.of_wr W7).1
  have N7 := Fr.snoc X7 N4 g_b1
  have Vs7 : Arv Z h7 b1 k1 .long (4 : Int32) [(.long p1), (.long p2), (.long (0 : Int64)), (.long (0 : Int64))] (.long (0 : Int64)) := Arv.set Ar5 q5 S5 M5 Hs5 G5 rfl W7 1 rfl (Nat.le_of_ble_eq_true rfl)
  obtain ⟨cl8, Ar8, q8, S8, M8, Hs8, G8⟩ := id Vs7
  have hin9 : ¬ ((2 : Int32) < 0 ∨ cl8.slots.size ≤ ((2 : Int32)).toNatClampNeg) := inb_of S8 ⟨(by decide : ¬ ((2 : Int32) < (0 : Int32))), (by decide : (2 : Int32) < (4 : Int32))⟩
  obtain ⟨T10, h10, X10, e10, W10, st10⟩ := stJ X7 hx hZ e7 Ar8 (j := (2 : Int32)) hin9 (g := (mkF m 38 #[.val (.long p1), .second, .val (.long p2), .second, .val (.long p3), .second, .val (.long p4), .second, .val (.int p5), .val (.int (4 : Int32)), .val (.ref b1), .unset, .unset, .unset, .unset, .unset, .unset, .unset, .unset] [(.long p3), (.int (2 : Int32)), (.ref b1)])) rfl rfl (hb hby at_38)
  have s3 := (Keep.of_wr W10).1
  have N10 := Fr.snoc X10 N7 g_b1
  have Vs10 : Arv Z h10 b1 k1 .long (4 : Int32) [(.long p1), (.long p2), (.long p3), (.long (0 : Int64))] (.long (0 : Int64)) := Arv.set Ar8 q8 S8 M8 Hs8 G8 rfl W10 2 rfl (Nat.le_of_ble_eq_true rfl)
  obtain ⟨cl11, Ar11, q11, S11, M11, Hs11, G11⟩ := id Vs10
  have hin12 : ¬ ((3 : Int32) < 0 ∨ cl11.slots.size ≤ ((3 : Int32)).toNatClampNeg) := inb_of S11 ⟨(by decide : ¬ ((3 : Int32) < (0 : Int32))), (by decide : (3 : Int32) < (4 : Int32))⟩
  obtain ⟨T13, h13, X13, e13, W13, st13⟩ := stJ X10 hx hZ e10 Ar11 (j := (3 : Int32)) hin12 (g := (mkF m 50 #[.val (.long p1), .second, .val (.long p2), .second, .val (.long p3), .second, .val (.long p4), .second, .val (.int p5), .val (.int (4 : Int32)), .val (.ref b1), .unset, .unset, .unset, .unset, .unset, .unset, .unset, .unset] [(.long p4), (.int (3 : Int32)), (.ref b1)])) rfl rfl (hb hby at_50)
  have s4 := (Keep.of_wr W13).1
  have N13 := Fr.snoc X13 N10 g_b1
  have Vs13 : Arv Z h13 b1 k1 .long (4 : Int32) [(.long p1), (.long p2), (.long p3), (.long p4)] (.long (0 : Int64)) := Arv.set Ar11 q11 S11 M11 Hs11 G11 rfl W13 3 rfl (Nat.le_of_ble_eq_true rfl)
  obtain ⟨T14, h14, X14, e14, E14, A14, D14, -, st14⟩ := newO X13 hx hZ hown (w_2 hw) (w_3 hw) (w_4 hw) e13 (g := (mkF m 76 #[.val (.long p1), .second, .val (.long p2), .second, .val (.long p3), .second, .val (.long p4), .second, .val (.int p5), .val (.int (4 : Int32)), .val (.ref b1), .val (.long p4), .second, .unset, .unset, .unset, .unset, .unset, .unset] [])) rfl (hb hby at_76) (by decide) (by decide)
  obtain ⟨b14, g14⟩ : ∃ z, z = h13.size := ⟨_, rfl⟩
  rw [← g14] at A14 D14 st14
  have s5 := E14.1
  have Fn14_lon : Fld Z h14 b14 "com/example/feedergen/feedergen/core/GeoPoint" "lon" "D" (.double (0 : UInt64)) := D14 (Or.inr (w_25 hw)) (ty := .double) (by decide)
  have Fn14_lat : Fld Z h14 b14 "com/example/feedergen/feedergen/core/GeoPoint" "lat" "D" (.double (0 : UInt64)) := D14 (Or.inr (w_27 hw)) (ty := .double) (by decide)
  have z5 := Nat.le_trans Z0 (Nat.le_trans (Nat.le_trans (Nat.le_trans (Nat.le_trans s0 s1) s2) s3) s4)
  have g_b14 : n0 ≤ b14 := Nat.le_trans z5 (Nat.le_of_eq g14.symm)
  have z6 := Nat.le_trans Z0 (Nat.le_trans (Nat.le_trans (Nat.le_trans (Nat.le_trans (Nat.le_trans s0 s1) s2) s3) s4) s5)
  obtain ⟨_, T15, L15, X15, hQ15, st15⟩ := own_special X14 hx hZ hown (y := y_2) (a := b14) (w_5 hw) (w_6 hw) (w_4 hw) (w_7 hw) (rm3 l Z a0 hw [] b14 h14 n0 z6 Fn14_lon A14 g_b14 Fn14_lat) e14 (Ls := #[.val (.long p1), .second, .val (.long p2), .second, .val (.long p3), .second, .val (.long p4), .second, .val (.int p5), .val (.int (4 : Int32)), .val (.ref b1), .val (.long p4), .second, .unset, .unset, .unset, .unset, .unset, .unset]) (by rw [hml]; rfl) (argsL := [(.double (0 : UInt64)), (.double (0 : UInt64))]) (rest := [(.ref b14)]) (lenOf pd_2 rfl) (hb hby at_82) (W := 1)
  obtain ⟨rfl, Nq15, K15, o15_0, o15_1, o15_2⟩ := hQ15
  have N15 := Fr.app N13 Nq15
  have s6 := K15.1
  obtain ⟨T16, h16, X16, e16, E16, A16, D16, -, st16⟩ := newO X15 hx hZ hown (w_28 hw) (w_29 hw) (w_30 hw) rfl (g := (mkF m 87 #[.val (.long p1), .second, .val (.long p2), .second, .val (.long p3), .second, .val (.long p4), .second, .val (.int p5), .val (.int (4 : Int32)), .val (.ref b1), .val (.long p4), .second, .val (.ref b14), .unset, .unset, .unset, .unset, .unset] [])) rfl (hb hby at_87) (by decide) (by decide)
  obtain ⟨b16, g16⟩ : ∃ z, z = T15.heap.size := ⟨_, rfl⟩
  rw [← g16] at A16 D16 st16
  have s7 := E16.1
  have Fn16_modCount : Fld Z h16 b16 "java/util/AbstractList" "modCount" "I" (.int (0 : Int32)) := D16 (Or.inl (w_48 hw)) (ty := .int) (by decide)
  have Fn16_elementData : Fld Z h16 b16 "java/util/ArrayList" "elementData" "[Ljava/lang/Object;" .null := D16 (Or.inl (w_51 hw)) (ty := (.array (.object "java/lang/Object"))) (by decide)
  have Fn16_size : Fld Z h16 b16 "java/util/ArrayList" "size" "I" (.int (0 : Int32)) := D16 (Or.inl (w_60 hw)) (ty := .int) (by decide)
  have z7 := Nat.le_trans Z0 (Nat.le_trans (Nat.le_trans (Nat.le_trans (Nat.le_trans (Nat.le_trans (Nat.le_trans s0 s1) s2) s3) s4) s5) s6)
  have g_b16 : n0 ≤ b16 := Nat.le_trans z7 (Nat.le_of_eq g16.symm)
  have Od1 : Old Z n0 h1 := Od0.ext E1
  have Od2 : Old Z n0 h4 := Od1.wr W4 g_b1
  have Od3 : Old Z n0 h7 := Od2.wr W7 g_b1
  have Od4 : Old Z n0 h10 := Od3.wr W10 g_b1
  have Od5 : Old Z n0 h13 := Od4.wr W13 g_b1
  have Od6 : Old Z n0 h14 := Od5.ext E14
  have Od7 : Old Z n0 T15.heap := Od6.keep K15 (allS g_b14 all0)
  have Od8 : Old Z n0 h16 := Od7.ext E16
  have z8 := Nat.le_trans Z0 (Nat.le_trans (Nat.le_trans (Nat.le_trans (Nat.le_trans (Nat.le_trans (Nat.le_trans (Nat.le_trans s0 s1) s2) s3) s4) s5) s6) s7)
  obtain ⟨_, T17, L17, X17, hQ17, st17⟩ := own_special X16 hx hZ hown (y := y_5) (a := b16) (w_31 hw) (w_32 hw) (w_30 hw) (w_33 hw) (rm6 l Z a0 hw [] b16 sa2 h16 n0 z8 Fn16_modCount A16 g_b16 Fn16_elementData Fn16_size S5_DEFAULTCAPACITY_EMPTY_ELEMENTDATA Od8) e16 (Ls := #[.val (.long p1), .second, .val (.long p2), .second, .val (.long p3), .second, .val (.long p4), .second, .val (.int p5), .val (.int (4 : Int32)), .val (.ref b1), .val (.long p4), .second, .val (.ref b14), .unset, .unset, .unset, .unset, .unset]) (by rw [hml]; rfl) (argsL := []) (rest := [(.ref b16)]) (lenOf pd_0 rfl) (hb hby at_91) (W := 1)
  obtain ⟨rfl, Nq17, K17, o17_0, o17_1, o17_2, o17_3⟩ := hQ17
  have N17 := Fr.app N15 Nq17
  have s8 := K17.1
  have ne_sa2_b1 := Nat.ne_of_lt (Nat.lt_of_lt_of_le V_sa2.lt (Nat.le_of_eq g1.symm))
  have ne_sa2_b14 := Nat.ne_of_lt (Nat.lt_of_lt_of_le (Nat.lt_of_lt_of_le V_sa2.lt (Nat.le_trans (Nat.le_trans (Nat.le_trans (Nat.le_trans s0 s1) s2) s3) s4)) (Nat.le_of_eq g14.symm))
  have ne_sa2_b16 := Nat.ne_of_lt (Nat.lt_of_lt_of_le (Nat.lt_of_lt_of_le V_sa2.lt (Nat.le_trans (Nat.le_trans (Nat.le_trans (Nat.le_trans (Nat.le_trans (Nat.le_trans s0 s1) s2) s3) s4) s5) s6)) (Nat.le_of_eq g16.symm))
  have Va18 := (((((((((V_sa2.ext E1).other W4 ne_sa2_b1).other W7 ne_sa2_b1).other W10 ne_sa2_b1).other W13 ne_sa2_b1).ext E14).keep K15 (ninS ne_sa2_b14 nin0)).ext E16).keep K17 (ninS ne_sa2_b16 nin0))
  have Od9 : Old Z n0 T17.heap := Od8.keep K17 (allS g_b16 all0)
  have Ex19 := ((o15_0.ext E16).keep K17)
  have z9 := Nat.le_trans Z0 (Nat.le_trans (Nat.le_trans (Nat.le_trans (Nat.le_trans (Nat.le_trans (Nat.le_trans (Nat.le_trans (Nat.le_trans s0 s1) s2) s3) s4) s5) s6) s7) s8)
  obtain ⟨_, T20, L20, X20, hQ20, st20⟩ := own_virtual X17 hx hZ hown (y := y_10) (z := y_10) o17_0 (w_52 hw) (w_53 hw) (notFace_of_selects (args := #[]) (mvT hZ (w_55 hw))) (w_55 hw) (w_54 hw) (w_30 hw) (w_56 hw) (rm11 l Z a0 hw [] b16 b14 sa2 sk6 T17.heap n0 z9 o17_1 o17_0 g_b16 o17_2 o17_3 Va18 ne_sa2_b16 S5_DEFAULTCAPACITY_EMPTY_ELEMENTDATA Od9 Ex19) rfl (Ls := #[.val (.long p1), .second, .val (.long p2), .second, .val (.long p3), .second, .val (.long p4), .second, .val (.int p5), .val (.int (4 : Int32)), .val (.ref b1), .val (.long p4), .second, .val (.ref b14), .val (.ref b16), .unset, .unset, .unset, .unset]) (by rw [hml]; rfl) (argsL := [(.ref b14)]) (rest := []) (lenOf pd_7 rfl) (hb hby at_100) (W := 0)
  obtain ⟨b20_b14_b6_b5_b9, k20_k14_k6_k5_k9, rfl, Nq20, K20, o20_0, o20_1, o20_2, o20_3, o20_4, o20_5, o20_6, o20_7⟩ := hQ20
  have N20 := Fr.app N17 Nq20
  have s9 := K20.1
  have ne_b16_b20_b14_b6_b5_b9 := Nat.ne_of_lt (Nat.lt_of_lt_of_le o17_3.lt o20_4)
  have Ex21 := (Ex19.keep K20)
  have g_b20_b14_b6_b5_b9 : n0 ≤ b20_b14_b6_b5_b9 := Nat.le_trans z9 o20_4
  have z10 := Nat.le_trans Z0 (Nat.le_trans (Nat.le_trans (Nat.le_trans (Nat.le_trans (Nat.le_trans (Nat.le_trans (Nat.le_trans (Nat.le_trans (Nat.le_trans s0 s1) s2) s3) s4) s5) s6) s7) s8) s9)
  obtain ⟨_, T22, L22, X22, hQ22, st22⟩ := own_virtual X20 hx hZ hown (y := y_10) (z := y_10) o20_0 (w_52 hw) (w_53 hw) (notFace_of_selects (args := #[]) (mvT hZ (w_55 hw))) (w_55 hw) (w_54 hw) (w_30 hw) (w_56 hw) (rm13 l Z a0 hw [] b16 b14 b20_b14_b6_b5_b9 k20_k14_k6_k5_k9 T20.heap n0 z10 o20_1 o20_0 g_b16 o20_2 o20_3 o20_7 (Ne.symm ne_b16_b20_b14_b6_b5_b9) o20_6 Ex21 g_b20_b14_b6_b5_b9 o20_5) rfl (Ls := #[.val (.long p1), .second, .val (.long p2), .second, .val (.long p3), .second, .val (.long p4), .second, .val (.int p5), .val (.int (4 : Int32)), .val (.ref b1), .val (.long p4), .second, .val (.ref b14), .val (.ref b16), .unset, .unset, .unset, .unset]) (by rw [hml]; rfl) (argsL := [(.ref b14)]) (rest := []) (lenOf pd_7 rfl) (hb hby at_108) (W := 0)
  obtain ⟨rfl, Nq22, K22, o22_0, o22_1, o22_2, o22_3, o22_4, o22_5⟩ := hQ22
  have N22 := Fr.app N20 Nq22
  have s10 := K22.1
  have Ex23 := (Ex21.keep K22)
  have z11 := Nat.le_trans Z0 (Nat.le_trans (Nat.le_trans (Nat.le_trans (Nat.le_trans (Nat.le_trans (Nat.le_trans (Nat.le_trans (Nat.le_trans (Nat.le_trans (Nat.le_trans s0 s1) s2) s3) s4) s5) s6) s7) s8) s9) s10)
  obtain ⟨_, T24, L24, X24, hQ24, st24⟩ := own_virtual X22 hx hZ hown (y := y_10) (z := y_10) o22_0 (w_52 hw) (w_53 hw) (notFace_of_selects (args := #[]) (mvT hZ (w_55 hw))) (w_55 hw) (w_54 hw) (w_30 hw) (w_56 hw) (rm31 l Z a0 hw [] b16 b14 b20_b14_b6_b5_b9 k20_k14_k6_k5_k9 T22.heap n0 z11 o22_1 o22_0 g_b16 o22_2 o22_3 o22_5 (Ne.symm ne_b16_b20_b14_b6_b5_b9) o20_6 Ex23 g_b20_b14_b6_b5_b9 o22_4) rfl (Ls := #[.val (.long p1), .second, .val (.long p2), .second, .val (.long p3), .second, .val (.long p4), .second, .val (.int p5), .val (.int (4 : Int32)), .val (.ref b1), .val (.long p4), .second, .val (.ref b14), .val (.ref b16), .unset, .unset, .unset, .unset]) (by rw [hml]; rfl) (argsL := [(.ref b14)]) (rest := []) (lenOf pd_7 rfl) (hb hby at_122) (W := 0)
  obtain ⟨rfl, Nq24, K24, o24_0, o24_1, o24_2, o24_3, o24_4, o24_5⟩ := hQ24
  have N24 := Fr.app N22 Nq24
  have s11 := K24.1
  have Ex25 := (Ex23.keep K24)
  have z12 := Nat.le_trans Z0 (Nat.le_trans (Nat.le_trans (Nat.le_trans (Nat.le_trans (Nat.le_trans (Nat.le_trans (Nat.le_trans (Nat.le_trans (Nat.le_trans (Nat.le_trans (Nat.le_trans s0 s1) s2) s3) s4) s5) s6) s7) s8) s9) s10) s11)
  obtain ⟨_, T26, L26, X26, hQ26, st26⟩ := own_virtual X24 hx hZ hown (y := y_10) (z := y_10) o24_0 (w_52 hw) (w_53 hw) (notFace_of_selects (args := #[]) (mvT hZ (w_55 hw))) (w_55 hw) (w_54 hw) (w_30 hw) (w_56 hw) (rm46 l Z a0 hw [] b16 b14 b20_b14_b6_b5_b9 k20_k14_k6_k5_k9 T24.heap n0 z12 o24_1 o24_0 g_b16 o24_2 o24_3 o24_5 (Ne.symm ne_b16_b20_b14_b6_b5_b9) o20_6 Ex25 g_b20_b14_b6_b5_b9 o24_4) rfl (Ls := #[.val (.long p1), .second, .val (.long p2), .second, .val (.long p3), .second, .val (.long p4), .second, .val (.int p5), .val (.int (4 : Int32)), .val (.ref b1), .val (.long p4), .second, .val (.ref b14), .val (.ref b16), .unset, .unset, .unset, .unset]) (by rw [hml]; rfl) (argsL := [(.ref b14)]) (rest := []) (lenOf pd_7 rfl) (hb hby at_136) (W := 0)
  obtain ⟨rfl, Nq26, K26, o26_0, o26_1, o26_2, o26_3, o26_4, o26_5⟩ := hQ26
  have N26 := Fr.app N24 Nq26
  have s12 := K26.1
  obtain ⟨T27, h27, X27, e27, E27, A27, D27, -, st27⟩ := newO X26 hx hZ hown (w_83 hw) (w_84 hw) (w_85 hw) rfl (g := (mkF m 140 #[.val (.long p1), .second, .val (.long p2), .second, .val (.long p3), .second, .val (.long p4), .second, .val (.int p5), .val (.int (4 : Int32)), .val (.ref b1), .val (.long p4), .second, .val (.ref b14), .val (.ref b16), .unset, .unset, .unset, .unset] [])) rfl (hb hby at_140) (by decide) (by decide)
  obtain ⟨b27, g27⟩ : ∃ z, z = T26.heap.size := ⟨_, rfl⟩
  rw [← g27] at A27 D27 st27
  have s13 := E27.1
  have Fn27_id : Fld Z h27 b27 "com/example/feedergen/feedergen/core/StreetWay" "id" "J" (.long (0 : Int64)) := D27 (Or.inr (w_100 hw)) (ty := .long) (by decide)
  have Fn27_name : Fld Z h27 b27 "com/example/feedergen/feedergen/core/StreetWay" "name" "Ljava/lang/String;" .null := D27 (Or.inr (w_102 hw)) (ty := (.object "java/lang/String")) (by decide)
  have Fn27_streetClass : Fld Z h27 b27 "com/example/feedergen/feedergen/core/StreetWay" "streetClass" "Lcom/example/feedergen/feedergen/core/StreetClass;" .null := D27 (Or.inr (w_104 hw)) (ty := (.object "com/example/feedergen/feedergen/core/StreetClass")) (by decide)
  have Fn27_oneway : Fld Z h27 b27 "com/example/feedergen/feedergen/core/StreetWay" "oneway" "Z" (.int (0 : Int32)) := D27 (Or.inr (w_106 hw)) (ty := .boolean) (by decide)
  have Fn27_travel : Fld Z h27 b27 "com/example/feedergen/feedergen/core/StreetWay" "travel" "Lcom/example/feedergen/feedergen/core/TravelDirection;" .null := D27 (Or.inr (w_108 hw)) (ty := (.object "com/example/feedergen/feedergen/core/TravelDirection")) (by decide)
  have Fn27_nodes : Fld Z h27 b27 "com/example/feedergen/feedergen/core/StreetWay" "nodes" "[J" .null := D27 (Or.inr (w_110 hw)) (ty := (.array .long)) (by decide)
  obtain ⟨T28, h28, k28, X28, e28, E28, A28, B28, st28⟩ := newPE (aty := .long) X27 hx hZ (w_1 hw) e27 (g := (mkF m 150 #[.val (.long p1), .second, .val (.long p2), .second, .val (.long p3), .second, .val (.long p4), .second, .val (.int p5), .val (.int (4 : Int32)), .val (.ref b1), .val (.long p4), .second, .val (.ref b14), .val (.ref b16), .unset, .unset, .unset, .unset] [(.int (2 : Int32)), .null, (.int (0 : Int32)), .null, .null, (.long p1), (.ref b27), (.ref b27)])) rfl (hb hby at_150) rfl (by decide) (cap := 2) (by decide) (by decide) (by decide) (by decide) (ad := "[J") (by decide)
  obtain ⟨b28, g28⟩ : ∃ z, z = h27.size := ⟨_, rfl⟩
  rw [← g28] at A28 B28 st28
  have s14 := E28.1
  have Vn28 : Arv Z h28 b28 k28 .long (2 : Int32) [(.long (0 : Int64)), (.long (0 : Int64))] (.long (0 : Int64)) := (Arv.new A28 (by decide)).pad (pad_rep [] (.long (0 : Int64)) 2)
  obtain ⟨cl29, Ar29, q29, S29, M29, Hs29, G29⟩ := id Vn28
  have hin30 : ¬ ((0 : Int32) < 0 ∨ cl29.slots.size ≤ ((0 : Int32)).toNatClampNeg) := inb_of S29 ⟨(by decide : ¬ ((0 : Int32) < (0 : Int32))), (by decide : (0 : Int32) < (2 : Int32))⟩
  obtain ⟨T31, h31, X31, e31, W31, st31⟩ := stJ X28 hx hZ e28 Ar29 (j := (0 : Int32)) hin30 (g := (mkF m 155 #[.val (.long p1), .second, .val (.long p2), .second, .val (.long p3), .second, .val (.long p4), .second, .val (.int p5), .val (.int (4 : Int32)), .val (.ref b1), .val (.long p4), .second, .val (.ref b14), .val (.ref b16), .unset, .unset, .unset, .unset] [(.long p1), (.int (0 : Int32)), (.ref b28), (.ref b28), .null, (.int (0 : Int32)), .null, .null, (.long p1), (.ref b27), (.ref b27)])) rfl rfl (hb hby at_155)
  have s15 := (Keep.of_wr W31).1
  have z14 := Nat.le_trans Z0 (Nat.le_trans (Nat.le_trans (Nat.le_trans (Nat.le_trans (Nat.le_trans (Nat.le_trans (Nat.le_trans (Nat.le_trans (Nat.le_trans (Nat.le_trans (Nat.le_trans (Nat.le_trans (Nat.le_trans s0 s1) s2) s3) s4) s5) s6) s7) s8) s9) s10) s11) s12) s13)
  have g_b28 : n0 ≤ b28 := Nat.le_trans z14 (Nat.le_of_eq g28.symm)
  have N31 := Fr.snoc X31 N26 g_b28
  have Vs31 : Arv Z h31 b28 k28 .long (2 : Int32) [(.long p1), (.long (0 : Int64))] (.long (0 : Int64)) := Arv.set Ar29 q29 S29 M29 Hs29 G29 rfl W31 0 rfl (Nat.le_of_ble_eq_true rfl)
  obtain ⟨cl32, Ar32, q32, S32, M32, Hs32, G32⟩ := id Vs31
  have hin33 : ¬ ((1 : Int32) < 0 ∨ cl32.slots.size ≤ ((1 : Int32)).toNatClampNeg) := inb_of S32 ⟨(by decide : ¬ ((1 : Int32) < (0 : Int32))), (by decide : (1 : Int32) < (2 : Int32))⟩
  obtain ⟨T34, h34, X34, e34, W34, st34⟩ := stJ X31 hx hZ e31 Ar32 (j := (1 : Int32)) hin33 (g := (mkF m 159 #[.val (.long p1), .second, .val (.long p2), .second, .val (.long p3), .second, .val (.long p4), .second, .val (.int p5), .val (.int (4 : Int32)), .val (.ref b1), .val (.long p4), .second, .val (.ref b14), .val (.ref b16), .unset, .unset, .unset, .unset] [(.long p2), (.int (1 : Int32)), (.ref b28), (.ref b28), .null, (.int (0 : Int32)), .null, .null, (.long p1), (.ref b27), (.ref b27)])) rfl rfl (hb hby at_159)
  have s16 := (Keep.of_wr W34).1
  have N34 := Fr.snoc X34 N31 g_b28
  have Vs34 : Arv Z h34 b28 k28 .long (2 : Int32) [(.long p1), (.long p2)] (.long (0 : Int64)) := Arv.set Ar32 q32 S32 M32 Hs32 G32 rfl W34 1 rfl (Nat.le_of_ble_eq_true rfl)
  have Ex35 := ((B28.wr W31).wr W34)
  have ne_b27_b28 := Nat.ne_of_lt (Nat.lt_of_lt_of_le Fn27_travel.lt (Nat.le_of_eq g28.symm))
  have Fl36 := (((Fn27_id.ext E28).other W31 (Or.inl ne_b27_b28)).other W34 (Or.inl ne_b27_b28))
  have Ex37 := (((A27.ext E28).wr W31).wr W34)
  have z13 := Nat.le_trans Z0 (Nat.le_trans (Nat.le_trans (Nat.le_trans (Nat.le_trans (Nat.le_trans (Nat.le_trans (Nat.le_trans (Nat.le_trans (Nat.le_trans (Nat.le_trans (Nat.le_trans (Nat.le_trans s0 s1) s2) s3) s4) s5) s6) s7) s8) s9) s10) s11) s12)
  have g_b27 : n0 ≤ b27 := Nat.le_trans z13 (Nat.le_of_eq g27.symm)
  have Fl38 := (((Fn27_name.ext E28).other W31 (Or.inl ne_b27_b28)).other W34 (Or.inl ne_b27_b28))
  have Fl39 := (((Fn27_streetClass.ext E28).other W31 (Or.inl ne_b27_b28)).other W34 (Or.inl ne_b27_b28))
  have Fl40 := (((Fn27_oneway.ext E28).other W31 (Or.inl ne_b27_b28)).other W34 (Or.inl ne_b27_b28))
  have Fl41 := (((Fn27_travel.ext E28).other W31 (Or.inl ne_b27_b28)).other W34 (Or.inl ne_b27_b28))
  have Fl42 := (((Fn27_nodes.ext E28).other W31 (Or.inl ne_b27_b28)).other W34 (Or.inl ne_b27_b28))
  have z17 := Nat.le_trans Z0 (Nat.le_trans (Nat.le_trans (Nat.le_trans (Nat.le_trans (Nat.le_trans (Nat.le_trans (Nat.le_trans (Nat.le_trans (Nat.le_trans (Nat.le_trans (Nat.le_trans (Nat.le_trans (Nat.le_trans (Nat.le_trans (Nat.le_trans (Nat.le_trans s0 s1) s2) s3) s4) s5) s6) s7) s8) s9) s10) s11) s12) s13) s14) s15) s16)
  obtain ⟨_, T43, L43, X43, hQ43, st43⟩ := own_special X34 hx hZ hown (y := y_11) (a := b27) (w_86 hw) (w_87 hw) (w_85 hw) (w_88 hw) (rm14 l Z a0 hw [] b27 p1 b28 p2 k28 h34 n0 z17 Vs34 Ex35 Fl36 Ex37 g_b27 Fl38 Fl39 Fl40 Fl41 Fl42) e34 (Ls := #[.val (.long p1), .second, .val (.long p2), .second, .val (.long p3), .second, .val (.long p4), .second, .val (.int p5), .val (.int (4 : Int32)), .val (.ref b1), .val (.long p4), .second, .val (.ref b14), .val (.ref b16), .unset, .unset, .unset, .unset]) (by rw [hml]; rfl) (argsL := [(.long p1), .null, .null, (.int (0 : Int32)), .null, (.ref b28)]) (rest := [(.ref b27)]) (lenOf pd_8 rfl) (hb hby at_160) (W := 1)
  obtain ⟨b43_b8, rfl, Nq43, K43, o43_0, o43_1, o43_2, o43_3, o43_4, o43_5, o43_6, o43_7, o43_8, o43_9⟩ := hQ43
  have N43 := Fr.app N34 Nq43
  have s17 := K43.1
  obtain ⟨T44, h44, X44, e44, E44, A44, D44, -, st44⟩ := newO X43 hx hZ hown (w_111 hw) (w_112 hw) (w_113 hw) rfl (g := (mkF m 165 #[.val (.long p1), .second, .val (.long p2), .second, .val (.long p3), .second, .val (.long p4), .second, .val (.int p5), .val (.int (4 : Int32)), .val (.ref b1), .val (.long p4), .second, .val (.ref b14), .val (.ref b16), .val (.ref b27), .unset, .unset, .unset] [])) rfl (hb hby at_165) (by decide) (by decide)
  obtain ⟨b44, g44⟩ : ∃ z, z = T43.heap.size := ⟨_, rfl⟩
  rw [← g44] at A44 D44 st44
  have s18 := E44.1
  have Fn44_way : Fld Z h44 b44 "com/example/feedergen/feedergen/core/StreetLink" "way" "Lcom/example/feedergen/feedergen/core/StreetWay;" .null := D44 (Or.inr (w_215 hw)) (ty := (.object "com/example/feedergen/feedergen/core/StreetWay")) (by decide)
  have Fn44_nodes : Fld Z h44 b44 "com/example/feedergen/feedergen/core/StreetLink" "nodes" "[J" .null := D44 (Or.inr (w_217 hw)) (ty := (.array .long)) (by decide)
  have Fn44_points : Fld Z h44 b44 "com/example/feedergen/feedergen/core/StreetLink" "points" "Ljava/util/List;" .null := D44 (Or.inr (w_219 hw)) (ty := (.object "java/util/List")) (by decide)
  have ne_b1_b14 := Nat.ne_of_lt (Nat.lt_of_lt_of_le Vs13.lt (Nat.le_of_eq g14.symm))
  have ne_b1_b16 := Nat.ne_of_lt (Nat.lt_of_lt_of_le (Nat.lt_of_lt_of_le Vs13.lt (Nat.le_trans s5 s6)) (Nat.le_of_eq g16.symm))
  have ne_b1_b20_b14_b6_b5_b9 := Nat.ne_of_lt (Nat.lt_of_lt_of_le (Nat.lt_of_lt_of_le Vs13.lt (Nat.le_trans (Nat.le_trans (Nat.le_trans s5 s6) s7) s8)) o20_4)
  have ne_b1_b28 := Nat.ne_of_lt (Nat.lt_of_lt_of_le (Nat.lt_of_lt_of_le Vs13.lt (Nat.le_trans (Nat.le_trans (Nat.le_trans (Nat.le_trans (Nat.le_trans (Nat.le_trans (Nat.le_trans (Nat.le_trans s5 s6) s7) s8) s9) s10) s11) s12) s13)) (Nat.le_of_eq g28.symm))
  have ne_b1_b27 := Nat.ne_of_lt (Nat.lt_of_lt_of_le (Nat.lt_of_lt_of_le Vs13.lt (Nat.le_trans (Nat.le_trans (Nat.le_trans (Nat.le_trans (Nat.le_trans (Nat.le_trans (Nat.le_trans s5 s6) s7) s8) s9) s10) s11) s12)) (Nat.le_of_eq g27.symm))
  have Va45 := ((((((((((((((Vs13.ext E14).keep K15 (ninS ne_b1_b14 nin0)).ext E16).keep K17 (ninS ne_b1_b16 nin0)).keep K20 (ninS ne_b1_b16 nin0)).keep K22 (ninS ne_b1_b16 (ninS ne_b1_b20_b14_b6_b5_b9 nin0))).keep K24 (ninS ne_b1_b16 (ninS ne_b1_b20_b14_b6_b5_b9 nin0))).keep K26 (ninS ne_b1_b16 (ninS ne_b1_b20_b14_b6_b5_b9 nin0))).ext E27).ext E28).other W31 ne_b1_b28).other W34 ne_b1_b28).keep K43 (ninS ne_b1_b27 nin0)).ext E44)
  have Ex46 := ((((((o26_0.ext E27).ext E28).wr W31).wr W34).keep K43).ext E44)
  have ne_b16_b28 := Nat.ne_of_lt (Nat.lt_of_lt_of_le (Nat.lt_of_lt_of_le o26_3.lt s13) (Nat.le_of_eq g28.symm))
  have ne_b16_b27 := Nat.ne_of_lt (Nat.lt_of_lt_of_le o26_3.lt (Nat.le_of_eq g27.symm))
  have Fl47 := ((((((o26_3.ext E27).ext E28).other W31 (Or.inl ne_b16_b28)).other W34 (Or.inl ne_b16_b28)).keep K43 (ninS ne_b16_b27 nin0)).ext E44)
  have Ex48 := ((((((((((((((((((B1.wr W4).wr W7).wr W10).wr W13).ext E14).keep K15).ext E16).keep K17).keep K20).keep K22).keep K24).keep K26).ext E27).ext E28).wr W31).wr W34).keep K43).ext E44)
  have Fl49 := ((((((o26_2.ext E27).ext E28).other W31 (Or.inl ne_b16_b28)).other W34 (Or.inl ne_b16_b28)).keep K43 (ninS ne_b16_b27 nin0)).ext E44)
  have Ex50 := ((((((o26_4.ext E27).ext E28).wr W31).wr W34).keep K43).ext E44)
  have ne_b20_b14_b6_b5_b9_b28 := Nat.ne_of_lt (Nat.lt_of_lt_of_le (Nat.lt_of_lt_of_le o26_5.lt s13) (Nat.le_of_eq g28.symm))
  have ne_b20_b14_b6_b5_b9_b27 := Nat.ne_of_lt (Nat.lt_of_lt_of_le o26_5.lt (Nat.le_of_eq g27.symm))
  have Va51 := ((((((o26_5.ext E27).ext E28).other W31 ne_b20_b14_b6_b5_b9_b28).other W34 ne_b20_b14_b6_b5_b9_b28).keep K43 (ninS ne_b20_b14_b6_b5_b9_b27 nin0)).ext E44)
  have Ex52 := (((((((Ex25.keep K26).ext E27).ext E28).wr W31).wr W34).keep K43).ext E44)
  have z18 := Nat.le_trans Z0 (Nat.le_trans (Nat.le_trans (Nat.le_trans (Nat.le_trans (Nat.le_trans (Nat.le_trans (Nat.le_trans (Nat.le_trans (Nat.le_trans (Nat.le_trans (Nat.le_trans (Nat.le_trans (Nat.le_trans (Nat.le_trans (Nat.le_trans (Nat.le_trans (Nat.le_trans s0 s1) s2) s3) s4) s5) s6) s7) s8) s9) s10) s11) s12) s13) s14) s15) s16) s17)
  have g_b44 : n0 ≤ b44 := Nat.le_trans z18 (Nat.le_of_eq g44.symm)
  have z19 := Nat.le_trans Z0 (Nat.le_trans (Nat.le_trans (Nat.le_trans (Nat.le_trans (Nat.le_trans (Nat.le_trans (Nat.le_trans (Nat.le_trans (Nat.le_trans (Nat.le_trans (Nat.le_trans (Nat.le_trans (Nat.le_trans (Nat.le_trans (Nat.le_trans (Nat.le_trans (Nat.le_trans (Nat.le_trans s0 s1) s2) s3) s4) s5) s6) s7) s8) s9) s10) s11) s12) s13) s14) s15) s16) s17) s18)
  obtain ⟨_, T53, L53, X53, hQ53, st53⟩ := own_special X44 hx hZ hown (y := y_28) (a := b44) (w_114 hw) (w_115 hw) (w_113 hw) (w_116 hw) (rm57 l Z a0 hw [] b44 b27 b1 b16 p1 p2 p3 p4 k1 b20_b14_b6_b5_b9 smr b14 k20_k14_k6_k5_k9 h44 n0 z19 Va45 Ex46 Fl47 Ex48 Fl49 Ex50 M_top Va51 Ex52 Fn44_way A44 g_b44 Fn44_nodes Fn44_points) e44 (Ls := #[.val (.long p1), .second, .val (.long p2), .second, .val (.long p3), .second, .val (.long p4), .second, .val (.int p5), .val (.int (4 : Int32)), .val (.ref b1), .val (.long p4), .second, .val (.ref b14), .val (.ref b16), .val (.ref b27), .unset, .unset, .unset]) (by rw [hml]; rfl) (argsL := [(.ref b27), (.ref b1), (.ref b16)]) (rest := [(.ref b44)]) (lenOf pd_17 rfl) (hb hby at_175) (W := 1)
  obtain ⟨b53_b13, b53_b25_b6_b11_b5_b40, b53_b25_b6_b11_b5_b5, k53_k25_k6_k11_k5_k5, rfl, Nq53, K53, o53_0, o53_1, o53_2, o53_3, o53_4, o53_5, o53_6, o53_7, o53_8, o53_9, o53_10, o53_11, o53_12, o53_13, o53_14, o53_15, o53_16, o53_17⟩ := hQ53
  have N53 := Fr.app N43 Nq53
  have s19 := K53.1
  have z20 := Nat.le_trans Z0 (Nat.le_trans (Nat.le_trans (Nat.le_trans (Nat.le_trans (Nat.le_trans (Nat.le_trans (Nat.le_trans (Nat.le_trans (Nat.le_trans (Nat.le_trans (Nat.le_trans (Nat.le_trans (Nat.le_trans (Nat.le_trans (Nat.le_trans (Nat.le_trans (Nat.le_trans (Nat.le_trans (Nat.le_trans s0 s1) s2) s3) s4) s5) s6) s7) s8) s9) s10) s11) s12) s13) s14) s15) s16) s17) s18) s19)
  obtain ⟨_, T54, L54, X54, hQ54, st54⟩ := own_virtual X53 hx hZ hown (y := y_29) (z := y_29) o53_0 (w_220 hw) (w_221 hw) (notFace_of_selects (args := #[]) (mvT hZ (w_223 hw))) (w_223 hw) (w_222 hw) (w_113 hw) (w_224 hw) (rm58 l Z a0 hw [] b44 b53_b13 p1 p2 p3 p4 k1 T53.heap n0 z20 o53_1 o53_6) rfl (Ls := #[.val (.long p1), .second, .val (.long p2), .second, .val (.long p3), .second, .val (.long p4), .second, .val (.int p5), .val (.int (4 : Int32)), .val (.ref b1), .val (.long p4), .second, .val (.ref b14), .val (.ref b16), .val (.ref b27), .val (.ref b44), .unset, .unset]) (by rw [hml]; rfl) (argsL := []) (rest := []) (lenOf pd_18 rfl) (hb hby at_182) (W := 0)
  obtain ⟨rfl, Nq54, e54⟩ := hQ54
  have N54 := Fr.app N53 Nq54
  have ne_b1_b44 := Nat.ne_of_lt (Nat.lt_of_lt_of_le (Nat.lt_of_lt_of_le Vs13.lt (Nat.le_trans (Nat.le_trans (Nat.le_trans (Nat.le_trans (Nat.le_trans (Nat.le_trans (Nat.le_trans (Nat.le_trans (Nat.le_trans (Nat.le_trans (Nat.le_trans (Nat.le_trans s5 s6) s7) s8) s9) s10) s11) s12) s13) s14) s15) s16) s17)) (Nat.le_of_eq g44.symm))
  have Va55 := (Va45.keep K53 (ninS ne_b1_b44 nin0))
  obtain ⟨cl56, Ar56, q56, S56, M56, Hs56, G56⟩ := id Va55
  have hin57 : ¬ ((3 : Int32) < 0 ∨ cl56.slots.size ≤ ((3 : Int32)).toNatClampNeg) := inb_of S56 ⟨(by decide : ¬ ((3 : Int32) < (0 : Int32))), (by decide : (3 : Int32) < (4 : Int32))⟩
  obtain ⟨T58, h58, X58, e58, W58, st58⟩ := stJ X54 hx hZ e54 Ar56 (j := (3 : Int32)) hin57 (g := (mkF m 210 #[.val (.long p1), .second, .val (.long p2), .second, .val (.long p3), .second, .val (.long p4), .second, .val (.int p5), .val (.int (4 : Int32)), .val (.ref b1), .val (.long p4), .second, .val (.ref b14), .val (.ref b16), .val (.ref b27), .val (.ref b44), .val (.int (1 : Int32)), .unset] [(.long (p4 ^^^ (-1 : Int64))), (.int (3 : Int32)), (.ref b1)])) rfl rfl (hb hby at_210)
  have s20 := (Keep.of_wr W58).1
  have N58 := Fr.snoc X58 N54 g_b1
  have Vs58 : Arv Z h58 b1 k1 .long (4 : Int32) [(.long p1), (.long p2), (.long p3), (.long (p4 ^^^ (-1 : Int64)))] (.long (0 : Int64)) := Arv.set Ar56 q56 S56 M56 Hs56 G56 rfl W58 3 rfl (Nat.le_of_ble_eq_true rfl)
  have Ex59 := (o53_0.wr W58)
  have Fl60 := (o53_1.other W58 (Or.inl (Ne.symm ne_b1_b44)))
  have ne_b1_b53_b13 := Nat.ne_of_lt (Nat.lt_of_lt_of_le Va45.lt o53_4)
  have Va61 := (o53_6.other W58 (Ne.symm ne_b1_b53_b13))
  have z21 := Nat.le_trans Z0 (Nat.le_trans (Nat.le_trans (Nat.le_trans (Nat.le_trans (Nat.le_trans (Nat.le_trans (Nat.le_trans (Nat.le_trans (Nat.le_trans (Nat.le_trans (Nat.le_trans (Nat.le_trans (Nat.le_trans (Nat.le_trans (Nat.le_trans (Nat.le_trans (Nat.le_trans (Nat.le_trans (Nat.le_trans (Nat.le_trans s0 s1) s2) s3) s4) s5) s6) s7) s8) s9) s10) s11) s12) s13) s14) s15) s16) s17) s18) s19) s20)
  obtain ⟨_, T62, L62, X62, hQ62, st62⟩ := own_virtual X58 hx hZ hown (y := y_29) (z := y_29) Ex59 (w_220 hw) (w_221 hw) (notFace_of_selects (args := #[]) (mvT hZ (w_223 hw))) (w_223 hw) (w_222 hw) (w_113 hw) (w_224 hw) (rm58 l Z a0 hw [] b44 b53_b13 p1 p2 p3 p4 k1 h58 n0 z21 Fl60 Va61) e58 (Ls := #[.val (.long p1), .second, .val (.long p2), .second, .val (.long p3), .second, .val (.long p4), .second, .val (.int p5), .val (.int (4 : Int32)), .val (.ref b1), .val (.long p4), .second, .val (.ref b14), .val (.ref b16), .val (.ref b27), .val (.ref b44), .val (.int (1 : Int32)), .unset]) (by rw [hml]; rfl) (argsL := []) (rest := []) (lenOf pd_18 rfl) (hb hby at_213) (W := 0)
  obtain ⟨rfl, Nq62, e62⟩ := hQ62
  have N62 := Fr.app N58 Nq62
  refine ⟨T62, _, _, _, (some (.int (1 : Int32))), X62, nofun, by decide, by decide, ?_, fun fs hr => ?_⟩
  · show Q0 n0 _ T62.heap _
    rw [e62]
    exact ⟨rfl, N62⟩
  · show Steps p.tables e below (s₁.setTop (mkF m 0 #[.val (.long p1), .second, .val (.long p2), .second, .val (.long p3), .second, .val (.long p4), .second, .val (.int p5), .unset, .unset, .unset, .unset, .unset, .unset, .unset, .unset, .unset, .unset] [])) _
    refine XS.iconst X0.here hx rfl (hb hby at_0) ?_
    refine XS.iload X0.here hx rfl (hb hby at_1) rfl ?_
    refine X0.ldcInt hx hown (mvT hZ (w_0 hw)) (g := (mkF m 3 #[.val (.long p1), .second, .val (.long p2), .second, .val (.long p3), .second, .val (.long p4), .second, .val (.int p5), .unset, .unset, .unset, .unset, .unset, .unset, .unset, .unset, .unset, .unset] [(.int p5), (.int (2 : Int32))])) rfl (hb hby at_3) _ ?_
    refine XS.iand X0.here hx rfl (hb hby at_5) rfl ?_
    refine XS.iconst X0.here hx rfl (hb hby at_6) ?_
    refine XS.irem X0.here hx rfl (hb hby at_7) rfl (by decide : ¬ ((3 : Int32) = (0 : Int32))) ?_
    show Steps p.tables e below (s₁.setTop (mkF m 8 #[.val (.long p1), .second, .val (.long p2), .second, .val (.long p3), .second, .val (.long p4), .second, .val (.int p5), .unset, .unset, .unset, .unset, .unset, .unset, .unset, .unset, .unset, .unset] [(.int ((p5 &&& (2147483647 : Int32)) - ((p5 &&& (2147483647 : Int32)) / (3 : Int32)) * (3 : Int32))), (.int (2 : Int32))])) _
    rw [hk]
    refine XS.iadd X0.here hx rfl (hb hby at_8) rfl ?_
    refine XS.istore X0.here hx rfl (hb hby at_9) rfl (l' := #[.val (.long p1), .second, .val (.long p2), .second, .val (.long p3), .second, .val (.long p4), .second, .val (.int p5), .val (.int (4 : Int32)), .unset, .unset, .unset, .unset, .unset, .unset, .unset, .unset, .unset]) rfl ?_
    refine XS.iload X0.here hx rfl (hb hby at_11) rfl ?_
    refine st1 _ ?_
    refine XS.astore X1.here hx rfl (hb hby at_15) rfl rfl (l' := #[.val (.long p1), .second, .val (.long p2), .second, .val (.long p3), .second, .val (.long p4), .second, .val (.int p5), .val (.int (4 : Int32)), .val (.ref b1), .unset, .unset, .unset, .unset, .unset, .unset, .unset, .unset]) rfl ?_
    refine XS.aload X1.here hx rfl (hb hby at_17) rfl rfl ?_
    refine XS.iconst X1.here hx rfl (hb hby at_19) ?_
    refine XS.lloadN X1.here hx rfl (hb hby at_20) rfl ?_
    refine st4 _ ?_
    refine XS.aload X4.here hx rfl (hb hby at_22) rfl rfl ?_
    refine XS.iconst X4.here hx rfl (hb hby at_24) ?_
    show Steps p.tables e below (T4.setTop (mkF m 25 #[.val (.long p1), .second, .val (.long p2), .second, .val (.long p3), .second, .val (.long p4), .second, .val (.int p5), .val (.int (4 : Int32)), .val (.ref b1), .unset, .unset, .unset, .unset, .unset, .unset, .unset, .unset] [(.int (1 : Int32)), (.ref b1)])) _
    refine XS.lloadN X4.here hx rfl (hb hby at_25) rfl ?_
    refine st7 _ ?_
    refine XS.iload X7.here hx rfl (hb hby at_27) rfl ?_
    refine XS.iconst X7.here hx rfl (hb hby at_29) ?_
    refine XS.icmpNo X7.here hx rfl (hb hby at_30) rfl (flt ((by decide : ¬ ((4 : Int32) < (3 : Int32))) : ¬ ((4 : Int32) < (3 : Int32)))).1 ?_
    refine XS.aload X7.here hx rfl (hb hby at_33) rfl rfl ?_
    refine XS.iconst X7.here hx rfl (hb hby at_35) ?_
    refine XS.lload X7.here hx rfl (hb hby at_36) rfl ?_
    refine st10 _ ?_
    refine XS.iload X10.here hx rfl (hb hby at_39) rfl ?_
    refine XS.iconst X10.here hx rfl (hb hby at_41) ?_
    refine XS.icmpNo X10.here hx rfl (hb hby at_42) rfl (flt ((by decide : ¬ ((4 : Int32) < (4 : Int32))) : ¬ ((4 : Int32) < (4 : Int32)))).1 ?_
    show Steps p.tables e below (T10.setTop (mkF m 45 #[.val (.long p1), .second, .val (.long p2), .second, .val (.long p3), .second, .val (.long p4), .second, .val (.int p5), .val (.int (4 : Int32)), .val (.ref b1), .unset, .unset, .unset, .unset, .unset, .unset, .unset, .unset] [])) _
    refine XS.aload X10.here hx rfl (hb hby at_45) rfl rfl ?_
    refine XS.iconst X10.here hx rfl (hb hby at_47) ?_
    refine XS.lload X10.here hx rfl (hb hby at_48) rfl ?_
    refine st13 _ ?_
    refine XS.iload X13.here hx rfl (hb hby at_51) rfl ?_
    refine XS.iconst X13.here hx rfl (hb hby at_53) ?_
    refine XS.icmpYes X13.here hx rfl (pc0 := 54) (pc' := 61) rfl (hb hby at_54) rfl (feq ((by decide : ¬ ((4 : Int32) = (2 : Int32))) : ¬ ((4 : Int32) = (2 : Int32)))).2 (by decide) (by decide) ?_
    refine XS.iload X13.here hx rfl (hb hby at_61) rfl ?_
    refine XS.iconst X13.here hx rfl (hb hby at_63) ?_
    refine XS.icmpYes X13.here hx rfl (pc0 := 64) (pc' := 72) rfl (hb hby at_64) rfl (feq ((by decide : ¬ ((4 : Int32) = (3 : Int32))) : ¬ ((4 : Int32) = (3 : Int32)))).2 (by decide) (by decide) ?_
    refine XS.lload X13.here hx rfl (hb hby at_72) rfl ?_
    refine XS.lstore X13.here hx rfl (hb hby at_74) rfl (l' := #[.val (.long p1), .second, .val (.long p2), .second, .val (.long p3), .second, .val (.long p4), .second, .val (.int p5), .val (.int (4 : Int32)), .val (.ref b1), .val (.long p4), .second, .unset, .unset, .unset, .unset, .unset, .unset]) rfl ?_
    show Steps p.tables e below (T13.setTop (mkF m 76 #[.val (.long p1), .second, .val (.long p2), .second, .val (.long p3), .second, .val (.long p4), .second, .val (.int p5), .val (.int (4 : Int32)), .val (.ref b1), .val (.long p4), .second, .unset, .unset, .unset, .unset, .unset, .unset] [])) _
    refine st14 _ ?_
    refine XS.dup X14.here hx rfl (hb hby at_79) rfl rfl ?_
    refine XS.dconst0 X14.here hx rfl (hb hby at_80) rfl ?_
    refine XS.dconst0 X14.here hx rfl (hb hby at_81) rfl ?_
    refine st15 _ ?_
    refine XS.astore X15.here hx rfl (hb hby at_85) rfl rfl (l' := #[.val (.long p1), .second, .val (.long p2), .second, .val (.long p3), .second, .val (.long p4), .second, .val (.int p5), .val (.int (4 : Int32)), .val (.ref b1), .val (.long p4), .second, .val (.ref b14), .unset, .unset, .unset, .unset, .unset]) rfl ?_
    refine st16 _ ?_
    refine XS.dup X16.here hx rfl (hb hby at_90) rfl rfl ?_
    refine st17 _ ?_
    refine XS.astore X17.here hx rfl (hb hby at_94) rfl rfl (l' := #[.val (.long p1), .second, .val (.long p2), .second, .val (.long p3), .second, .val (.long p4), .second, .val (.int p5), .val (.int (4 : Int32)), .val (.ref b1), .val (.long p4), .second, .val (.ref b14), .val (.ref b16), .unset, .unset, .unset, .unset]) rfl ?_
    refine XS.aload X17.here hx rfl (hb hby at_96) rfl rfl ?_
    refine XS.aload X17.here hx rfl (hb hby at_98) rfl rfl ?_
    show Steps p.tables e below (T17.setTop (mkF m 100 #[.val (.long p1), .second, .val (.long p2), .second, .val (.long p3), .second, .val (.long p4), .second, .val (.int p5), .val (.int (4 : Int32)), .val (.ref b1), .val (.long p4), .second, .val (.ref b14), .val (.ref b16), .unset, .unset, .unset, .unset] [(.ref b14), (.ref b16)])) _
    refine st20 _ ?_
    refine XS.pop X20.here hx rfl (hb hby at_103) rfl rfl ?_
    refine XS.aload X20.here hx rfl (hb hby at_104) rfl rfl ?_
    refine XS.aload X20.here hx rfl (hb hby at_106) rfl rfl ?_
    refine st22 _ ?_
    refine XS.pop X22.here hx rfl (hb hby at_111) rfl rfl ?_
    refine XS.iload X22.here hx rfl (hb hby at_112) rfl ?_
    refine XS.iconst X22.here hx rfl (hb hby at_114) ?_
    refine XS.icmpNo X22.here hx rfl (hb hby at_115) rfl (flt ((by decide : ¬ ((4 : Int32) < (3 : Int32))) : ¬ ((4 : Int32) < (3 : Int32)))).1 ?_
    refine XS.aload X22.here hx rfl (hb hby at_118) rfl rfl ?_
    refine XS.aload X22.here hx rfl (hb hby at_120) rfl rfl ?_
    refine st24 _ ?_
    show Steps p.tables e below (T24.setTop (mkF m 125 #[.val (.long p1), .second, .val (.long p2), .second, .val (.long p3), .second, .val (.long p4), .second, .val (.int p5), .val (.int (4 : Int32)), .val (.ref b1), .val (.long p4), .second, .val (.ref b14), .val (.ref b16), .unset, .unset, .unset, .unset] [(.int (1 : Int32))])) _
    refine XS.pop X24.here hx rfl (hb hby at_125) rfl rfl ?_
    refine XS.iload X24.here hx rfl (hb hby at_126) rfl ?_
    refine XS.iconst X24.here hx rfl (hb hby at_128) ?_
    refine XS.icmpNo X24.here hx rfl (hb hby at_129) rfl (flt ((by decide : ¬ ((4 : Int32) < (4 : Int32))) : ¬ ((4 : Int32) < (4 : Int32)))).1 ?_
    refine XS.aload X24.here hx rfl (hb hby at_132) rfl rfl ?_
    refine XS.aload X24.here hx rfl (hb hby at_134) rfl rfl ?_
    refine st26 _ ?_
    refine XS.pop X26.here hx rfl (hb hby at_139) rfl rfl ?_
    refine st27 _ ?_
    refine XS.dup X27.here hx rfl (hb hby at_143) rfl rfl ?_
    refine XS.lloadN X27.here hx rfl (hb hby at_144) rfl ?_
    refine XS.aconstNull X27.here hx rfl (hb hby at_145) ?_
    show Steps p.tables e below (T27.setTop (mkF m 146 #[.val (.long p1), .second, .val (.long p2), .second, .val (.long p3), .second, .val (.long p4), .second, .val (.int p5), .val (.int (4 : Int32)), .val (.ref b1), .val (.long p4), .second, .val (.ref b14), .val (.ref b16), .unset, .unset, .unset, .unset] [.null, (.long p1), (.ref b27), (.ref b27)])) _
    refine XS.aconstNull X27.here hx rfl (hb hby at_146) ?_
    refine XS.iconst X27.here hx rfl (hb hby at_147) ?_
    refine XS.aconstNull X27.here hx rfl (hb hby at_148) ?_
    refine XS.iconst X27.here hx rfl (hb hby at_149) ?_
    refine st28 _ ?_
    refine XS.dup X28.here hx rfl (hb hby at_152) rfl rfl ?_
    refine XS.iconst X28.here hx rfl (hb hby at_153) ?_
    refine XS.lloadN X28.here hx rfl (hb hby at_154) rfl ?_
    refine st31 _ ?_
    refine XS.dup X31.here hx rfl (hb hby at_156) rfl rfl ?_
    refine XS.iconst X31.here hx rfl (hb hby at_157) ?_
    refine XS.lloadN X31.here hx rfl (hb hby at_158) rfl ?_
    show Steps p.tables e below (T31.setTop (mkF m 159 #[.val (.long p1), .second, .val (.long p2), .second, .val (.long p3), .second, .val (.long p4), .second, .val (.int p5), .val (.int (4 : Int32)), .val (.ref b1), .val (.long p4), .second, .val (.ref b14), .val (.ref b16), .unset, .unset, .unset, .unset] [(.long p2), (.int (1 : Int32)), (.ref b28), (.ref b28), .null, (.int (0 : Int32)), .null, .null, (.long p1), (.ref b27), (.ref b27)])) _
    refine st34 _ ?_
    refine st43 _ ?_
    refine XS.astore X43.here hx rfl (hb hby at_163) rfl rfl (l' := #[.val (.long p1), .second, .val (.long p2), .second, .val (.long p3), .second, .val (.long p4), .second, .val (.int p5), .val (.int (4 : Int32)), .val (.ref b1), .val (.long p4), .second, .val (.ref b14), .val (.ref b16), .val (.ref b27), .unset, .unset, .unset]) rfl ?_
    refine st44 _ ?_
    refine XS.dup X44.here hx rfl (hb hby at_168) rfl rfl ?_
    refine XS.aload X44.here hx rfl (hb hby at_169) rfl rfl ?_
    refine XS.aload X44.here hx rfl (hb hby at_171) rfl rfl ?_
    refine XS.aload X44.here hx rfl (hb hby at_173) rfl rfl ?_
    refine st53 _ ?_
    refine XS.astore X53.here hx rfl (hb hby at_178) rfl rfl (l' := #[.val (.long p1), .second, .val (.long p2), .second, .val (.long p3), .second, .val (.long p4), .second, .val (.int p5), .val (.int (4 : Int32)), .val (.ref b1), .val (.long p4), .second, .val (.ref b14), .val (.ref b16), .val (.ref b27), .val (.ref b44), .unset, .unset]) rfl ?_
    refine XS.aload X53.here hx rfl (hb hby at_180) rfl rfl ?_
    refine st54 _ ?_
    show Steps p.tables e below (T54.setTop (mkF m 185 #[.val (.long p1), .second, .val (.long p2), .second, .val (.long p3), .second, .val (.long p4), .second, .val (.int p5), .val (.int (4 : Int32)), .val (.ref b1), .val (.long p4), .second, .val (.ref b14), .val (.ref b16), .val (.ref b27), .val (.ref b44), .unset, .unset] [(.long p4)])) _
    refine XS.lload X54.here hx rfl (hb hby at_185) rfl ?_
    refine XS.lcmp X54.here hx rfl (hb hby at_187) rfl ?_
    refine XS.ifNo X54.here hx rfl (hb hby at_188) rfl ((if0 _ _).trans (teq (((lw_eq _ _).mpr rfl) : (lcmpW p4 p4) = (0 : Int32))).2) ?_
    refine XS.iconst X54.here hx rfl (hb hby at_191) ?_
    refine XS.goto X54.here hx rfl (pc0 := 192) (pc' := 196) rfl (hb hby at_192) (by decide) (by decide) ?_
    refine XS.istore X54.here hx rfl (hb hby at_196) rfl (l' := #[.val (.long p1), .second, .val (.long p2), .second, .val (.long p3), .second, .val (.long p4), .second, .val (.int p5), .val (.int (4 : Int32)), .val (.ref b1), .val (.long p4), .second, .val (.ref b14), .val (.ref b16), .val (.ref b27), .val (.ref b44), .val (.int (1 : Int32)), .unset]) rfl ?_
    refine XS.aload X54.here hx rfl (hb hby at_198) rfl rfl ?_
    refine XS.iload X54.here hx rfl (hb hby at_200) rfl ?_
    refine XS.iconst X54.here hx rfl (hb hby at_202) ?_
    refine XS.isub X54.here hx rfl (hb hby at_203) rfl ?_
    refine XS.lload X54.here hx rfl (hb hby at_204) rfl ?_
    refine X54.ldc2Long hx hown (mvT hZ (w_225 hw)) (g := (mkF m 206 #[.val (.long p1), .second, .val (.long p2), .second, .val (.long p3), .second, .val (.long p4), .second, .val (.int p5), .val (.int (4 : Int32)), .val (.ref b1), .val (.long p4), .second, .val (.ref b14), .val (.ref b16), .val (.ref b27), .val (.ref b44), .val (.int (1 : Int32)), .unset] [(.long p4), (.int (3 : Int32)), (.ref b1)])) rfl (hb hby at_206) _ ?_
    show Steps p.tables e below (T54.setTop (mkF m 209 #[.val (.long p1), .second, .val (.long p2), .second, .val (.long p3), .second, .val (.long p4), .second, .val (.int p5), .val (.int (4 : Int32)), .val (.ref b1), .val (.long p4), .second, .val (.ref b14), .val (.ref b16), .val (.ref b27), .val (.ref b44), .val (.int (1 : Int32)), .unset] [(.long (-1 : Int64)), (.long p4), (.int (3 : Int32)), (.ref b1)])) _
    refine XS.lxor X54.here hx rfl (hb hby at_209) rfl ?_
    refine st58 _ ?_
    refine XS.aload X58.here hx rfl (hb hby at_211) rfl rfl ?_
    refine st62 _ ?_
    refine XS.lload X62.here hx rfl (hb hby at_216) rfl ?_
    refine XS.lcmp X62.here hx rfl (hb hby at_218) rfl ?_
    refine XS.ifNo X62.here hx rfl (hb hby at_219) rfl ((if0 _ _).trans (teq (((lw_eq _ _).mpr rfl) : (lcmpW p4 p4) = (0 : Int32))).2) ?_
    refine XS.iconst X62.here hx rfl (hb hby at_222) ?_
    refine XS.goto X62.here hx rfl (pc0 := 223) (pc' := 227) rfl (hb hby at_223) (by decide) (by decide) ?_
    refine XS.istore X62.here hx rfl (hb hby at_227) rfl (l' := #[.val (.long p1), .second, .val (.long p2), .second, .val (.long p3), .second, .val (.long p4), .second, .val (.int p5), .val (.int (4 : Int32)), .val (.ref b1), .val (.long p4), .second, .val (.ref b14), .val (.ref b16), .val (.ref b27), .val (.ref b44), .val (.int (1 : Int32)), .val (.int (1 : Int32))]) rfl ?_
    refine XS.iload X62.here hx rfl (hb hby at_229) rfl ?_
    refine XS.ifNo X62.here hx rfl (hb hby at_231) rfl ((if0 _ _).trans (feq ((by decide : ¬ ((1 : Int32) = (0 : Int32))) : ¬ ((1 : Int32) = (0 : Int32)))).1) ?_
    show Steps p.tables e below (T62.setTop (mkF m 234 #[.val (.long p1), .second, .val (.long p2), .second, .val (.long p3), .second, .val (.long p4), .second, .val (.int p5), .val (.int (4 : Int32)), .val (.ref b1), .val (.long p4), .second, .val (.ref b14), .val (.ref b16), .val (.ref b27), .val (.ref b44), .val (.int (1 : Int32)), .val (.int (1 : Int32))] [])) _
    refine XS.iload X62.here hx rfl (hb hby at_234) rfl ?_
    refine XS.ifNo X62.here hx rfl (hb hby at_236) rfl ((if0 _ _).trans (feq ((by decide : ¬ ((1 : Int32) = (0 : Int32))) : ¬ ((1 : Int32) = (0 : Int32)))).1) ?_
    refine XS.iconst X62.here hx rfl (hb hby at_239) ?_
    refine XS.goto X62.here hx rfl (pc0 := 240) (pc' := 244) rfl (hb hby at_240) (by decide) (by decide) ?_
    exact retN X62 hx (t := .boolean) hret (by simp) (hb hby at_244) hr
theorem own_k3 (p5 : Int32) : ((p5 &&& (2147483647 : Int32)) - ((p5 &&& (2147483647 : Int32)) / (3 : Int32)) * (3 : Int32)) = (0 : Int32) ∨ ((p5 &&& (2147483647 : Int32)) - ((p5 &&& (2147483647 : Int32)) / (3 : Int32)) * (3 : Int32)) = (1 : Int32) ∨ ((p5 &&& (2147483647 : Int32)) - ((p5 &&& (2147483647 : Int32)) / (3 : Int32)) * (3 : Int32)) = (2 : Int32) := by
  have h1 := own_irem (p5 &&& (2147483647 : Int32)) (3 : Int32) 3 (by decide)
  have h2 := own_mask p5 (2147483647 : Int32) 31 (by decide) (by decide) 2147483648 (by decide)
  have h3 : (((p5 &&& (2147483647 : Int32)) - ((p5 &&& (2147483647 : Int32)) / (3 : Int32)) * (3 : Int32))).toInt = 0 ∨ (((p5 &&& (2147483647 : Int32)) - ((p5 &&& (2147483647 : Int32)) / (3 : Int32)) * (3 : Int32))).toInt = 1 ∨ (((p5 &&& (2147483647 : Int32)) - ((p5 &&& (2147483647 : Int32)) / (3 : Int32)) * (3 : Int32))).toInt = 2 := by omega
  rcases h3 with h | h | h
  · exact Or.inl (Int32.toInt_inj.mp h)
  · exact Or.inr (Or.inl (Int32.toInt_inj.mp h))
  · exact Or.inr (Or.inr (Int32.toInt_inj.mp h))
theorem rm0 (l : Launch) (Z : State) (a0 : Array Value) (hw : ∀ d ∈ tables_1, d.before a0 Z = true) (ws : List Jvm.Cond) (p1 : Int64) (p2 : Int64) (p3 : Int64) (p4 : Int64) (p5 : Int32) (sa1 : Addr) (sa2 : Addr) (sk4 : ClassId) (sk6 : ClassId) (smr : Addr) (h0 : Heap) (n0 : Nat) (Z0 : n0 ≤ h0.size) (Od0 : Old Z n0 h0) (S3_EMPTY_ELEMENTDATA : Sta Z Z.heap "java/util/ArrayList" "EMPTY_ELEMENTDATA" "[Ljava/lang/Object;" (.ref sa1)) (E_sa1 : Exa Z h0 sa1 "[Ljava/lang/Object;") (V_sa1 : Arv Z h0 sa1 sk4 (.object "java/lang/Object") (0 : Int32) [] .null) (S5_DEFAULTCAPACITY_EMPTY_ELEMENTDATA : Sta Z Z.heap "java/util/ArrayList" "DEFAULTCAPACITY_EMPTY_ELEMENTDATA" "[Ljava/lang/Object;" (.ref sa2)) (E_sa2 : Exa Z h0 sa2 "[Ljava/lang/Object;") (V_sa2 : Arv Z h0 sa2 sk6 (.object "java/lang/Object") (0 : Int32) [] .null) (M_top : OwnMir Z "[Ljava/lang/Object;" smr) :
    OwnMet l Z x code maxLocals ret ws room_1 #[(.long p1), (.long p2), (.long p3), (.long p4), (.int p5)] h0 (Q0 n0) := by
  rcases own_k3 p5 with hk | hk | hk
  · exact rm0_0 l Z a0 hw ws p1 p2 p3 p4 p5 sa1 sa2 sk4 sk6 smr h0 n0 Z0 Od0 S3_EMPTY_ELEMENTDATA E_sa1 V_sa1 S5_DEFAULTCAPACITY_EMPTY_ELEMENTDATA E_sa2 V_sa2 M_top hk
  · exact rm0_1 l Z a0 hw ws p1 p2 p3 p4 p5 sa1 sa2 sk4 sk6 smr h0 n0 Z0 Od0 S3_EMPTY_ELEMENTDATA E_sa1 V_sa1 S5_DEFAULTCAPACITY_EMPTY_ELEMENTDATA E_sa2 V_sa2 M_top hk
  · exact rm0_2 l Z a0 hw ws p1 p2 p3 p4 p5 sa1 sa2 sk4 sk6 smr h0 n0 Z0 Od0 S3_EMPTY_ELEMENTDATA E_sa1 V_sa1 S5_DEFAULTCAPACITY_EMPTY_ELEMENTDATA E_sa2 V_sa2 M_top hk
theorem comes_1 {Post : Tables → Env → Array Value → State → Outcome → State → Prop} (hpost : ∀ tb e args s v u, (limb_1_1.after args s (.returned v) u = true ∧ limb_1_2.after args s (.returned v) u = true ∧ True) → FrameEnd s (.returned v) u (Jvm.fieldLocs frame_1_writes args s ++ Jvm.arrayLocs frame_1_arrays args s ++ Jvm.staticLocs frame_1_statics s) 32 192 → Post tb e args s (.returned v) u) :
    ArmFor flags0 classFile x code maxLocals ret World_1 tables_1 room_1 Calls_1 rest_1 Pre_1 Post := by
  intro l hfl _ _ p e ha hc hk s m args below hf hA hF happ hP
  obtain ⟨hcalls, hrest, hpre⟩ := hP
  obtain ⟨-, -, -, hnamed, -, -, -, hat⟩ := (Spec.applies_iff hf).mp happ
  obtain ⟨hg, hn⟩ := and_e (Cond.before_iff.mp (show (Jvm.Cond.and given_1 narrow_1).before args s = true from hpre))
  obtain ⟨hg0, hr0⟩ := and_e hg
  obtain ⟨hg1, hr1⟩ := and_e hr0
  obtain ⟨hg2, hr2⟩ := and_e hr1
  obtain ⟨hg3, hr3⟩ := and_e hr2
  obtain ⟨hg4, hr4⟩ := and_e hr3
  obtain ⟨w0, w1, w2, w3, w4, rfl⟩ : ∃ w0 w1 w2 w3 w4 : Value, args = #[w0, w1, w2, w3, w4] := by
    have hs : args.size = 5 := by simpa [Cond.value, given_1] using hg0
    obtain ⟨L⟩ := args
    match L, hs with
    | [w0, w1, w2, w3, w4], _ => exact ⟨w0, w1, w2, w3, w4, rfl⟩
  have hw := fun d (hd : d ∈ tables_1) => atoms_spec (ws := Jvm.Cond.code x code maxLocals ret :: tables_1) hat d (List.mem_cons_of_mem _ hd)
  have hfit : Fit s := fun {y c} hc i hi => by
    obtain ⟨ha, rfl⟩ := Array.getElem?_eq_some_iff.mp hc
    have q := List.all_eq_true.mp ((Array.all_eq_true_iff_forall_mem.mp hF) _ (Array.getElem_mem ha)) i (List.mem_range.mpr hi)
    simpa [Array.getElem?_eq_getElem hi] using q
  obtain ⟨hsets, hown0⟩ := atoms_of _ (rest_1_c_eq ▸ (show rest_1_c.before _ s = true from hrest))
  have hro := Cond.before_iff.mp hown0
  obtain ⟨p1, ei0⟩ := isL_v hg1
  obtain rfl : w0 = (.long p1) := Option.some.inj ei0
  obtain ⟨p2, ei1⟩ := isL_v hg2
  obtain rfl : w1 = (.long p2) := Option.some.inj ei1
  obtain ⟨p3, ei2⟩ := isL_v hg3
  obtain rfl : w2 = (.long p3) := Option.some.inj ei2
  obtain ⟨p4, ei3⟩ := isL_v hg4
  obtain rfl : w3 = (.long p4) := Option.some.inj ei3
  obtain ⟨p5, ei4⟩ := is_v hr4
  obtain rfl : w4 = (.int p5) := Option.some.inj ei4
  obtain ⟨sa1, ev_sa1⟩ := exa_v (Cond.before_iff.mp (hsets _ (List.mem_of_getElem? (i := 4) rfl)))
  obtain ⟨sa2, ev_sa2⟩ := exa_v (Cond.before_iff.mp (hsets _ (List.mem_of_getElem? (i := 7) rfl)))
  have S3_EMPTY_ELEMENTDATA : Sta s s.heap "java/util/ArrayList" "EMPTY_ELEMENTDATA" "[Ljava/lang/Object;" (.ref sa1) := Sta.start ev_sa1 (Or.inl (hsets _ (List.mem_of_getElem? (i := 1) rfl)))
  have E_sa1 : Exa s s.heap sa1 "[Ljava/lang/Object;" := Exa.start ev_sa1 (Cond.before_iff.mp (hsets _ (List.mem_of_getElem? (i := 4) rfl)))
  obtain ⟨c4, A4⟩ := Arr.start ev_sa1 (Cond.before_iff.mp (hsets _ (List.mem_of_getElem? (i := 3) rfl)))
  have L4 := own_len (own_eqI (Cond.before_iff.mp (hsets _ (List.mem_of_getElem? (i := 5) rfl)))) ev_sa1 A4
  obtain ⟨sk4, ek4⟩ : ∃ z, z = c4.cls := ⟨_, rfl⟩
  have V_sa1 : Arv s s.heap sa1 sk4 (.object "java/lang/Object") (0 : Int32) [] .null := by rw [ek4]; exact Arv.start hfit A4 L4.1 L4.2 (by decide) rfl trivial
  have S5_DEFAULTCAPACITY_EMPTY_ELEMENTDATA : Sta s s.heap "java/util/ArrayList" "DEFAULTCAPACITY_EMPTY_ELEMENTDATA" "[Ljava/lang/Object;" (.ref sa2) := Sta.start ev_sa2 (Or.inr ⟨(hw _ (List.mem_of_getElem? (i := 30) rfl)), (hsets _ (List.mem_of_getElem? (i := 2) rfl))⟩)
  have E_sa2 : Exa s s.heap sa2 "[Ljava/lang/Object;" := Exa.start ev_sa2 (Cond.before_iff.mp (hsets _ (List.mem_of_getElem? (i := 7) rfl)))
  obtain ⟨c6, A6⟩ := Arr.start ev_sa2 (Cond.before_iff.mp (hsets _ (List.mem_of_getElem? (i := 6) rfl)))
  have L6 := own_len (own_eqI (Cond.before_iff.mp (hsets _ (List.mem_of_getElem? (i := 8) rfl)))) ev_sa2 A6
  obtain ⟨sk6, ek6⟩ : ∃ z, z = c6.cls := ⟨_, rfl⟩
  have V_sa2 : Arv s s.heap sa2 sk6 (.object "java/lang/Object") (0 : Int32) [] .null := by rw [ek6]; exact Arv.start hfit A6 L6.1 L6.2 (by decide) rfl trivial
  obtain ⟨mc, mk, smr, mm1, mm2, mm3, -⟩ := hcalls.1
  obtain ⟨n, o, h1, h2, h3, _, L, rfl, ⟨rfl, N⟩, hq⟩ := rm0 l s _ hw tables_1 p1 p2 p3 p4 p5 sa1 sa2 sk4 sk6 smr s.heap s.heap.size (Nat.le_refl _) (Old.start s) S3_EMPTY_ELEMENTDATA E_sa1 V_sa1 S5_DEFAULTCAPACITY_EMPTY_ELEMENTDATA E_sa2 V_sa2 ⟨mc, mk, mm1, mm2, mm3⟩ p e ha hc hk s m _ below hf ((Spec.applies_iff_loose hf).mp happ).1 ⟨rfl, State.Warmed39.refl s, rfl⟩ trivial
  refine ⟨n, _, h1, h2, h3, hpost _ _ _ _ _ _ ⟨Cond.after_iff.mpr rfl, Cond.after_iff.mpr (eq_i res_at (Term.int_eval (1)) rfl), trivial⟩ ⟨hq.1, hq.2.1, (hq.2.2.sift fun y hy => Or.inr (N y hy)).mono (by decide) (by decide)⟩⟩
theorem main_1_1 : Claimed_1_1 := comes_1 fun _ _ _ _ _ _ h hF => ⟨h.1, hF⟩
theorem main_1_2 : Claimed_1_2 := comes_1 fun _ _ _ _ _ _ h hF => ⟨h.2.1, hF⟩
end Jvm.Pilot.@@N@@
namespace Jvm.Pilot.@@N@@
open Jvm Jvm.ClassFile Sem Op Lib Jvm.Free Jvm.Stand Jvm.Pilot.@@N@@.Jvm.D
/-! MADE BY PROGRAM (witnessworld.py) out of the Statement's table words and the real class files: 38 classes; the members and pool entries that the words name. The judged class is class 1, her method 1. -/
namespace start1
open Jvm.ClassFile
def u (s : String) : CpInfo := .utf8 (stringToUtf16 s)
/-- a pool by its gaps: so many unusable entries, then the entry; so many at the end -/
def gap : Nat → List CpInfo → List CpInfo
  | 0, r => r
  | n + 1, r => .unusable :: gap n r
def poolList (es : List (Nat × CpInfo)) (last : Nat) : List CpInfo := es.foldr (fun e r => gap e.1 (e.2 :: r)) (gap last [])
def pool (es : List (Nat × CpInfo)) (last : Nat) : Array CpInfo := ⟨poolList es last⟩
def fileOf (pool : Array CpInfo) (this : Nat) (attrs : Array Attribute := #[]) (ms : Array MethodInfo := #[]) (fl : Nat := 33) (sup : Nat := 0) (ifs : Array Nat := #[]) (fds : Array FieldInfo := #[]) : ClassFile where
  minorVersion := 0
  majorVersion := 65
  constantPool := pool
  accessFlags := fl
  thisClass := this
  superClass := sup
  interfaces := ifs
  fields := fds
  methods := ms
  attributes := attrs
def plain (name : String) (sup : Option ClassId) : Class where
  name := name
  kind := .ordinary
  loader := none
  accessFlags := 33
  super := sup
  interfaces := #[]
  cf := none
  fields := #[]
  methods := #[]
  instanceTypes := #[]
  staticTypes := #[]
  resolved := #[]
  callSites := []
  init := .initialized
  statics := none
  mirror := none

def pool0 : Array CpInfo := pool [(5, u "<init>"), (0, u "()V"), (1, .class_ 10), (1, u "java/lang/Object"), (0, u "getClass"), (0, u "()Ljava/lang/Class;"), (83, u "clone"), (0, u "()Ljava/lang/Object;")] 26

def k0c0 : Code := { maxStack := 0, maxLocals := 1, code := object_method_1_code, exceptionTable := #[], attributes := #[] }
def k0m0 : Method := { name := "<init>", desc := "()V", sig := { parameters := [], returnType := none }, accessFlags := 1, code := some k0c0 }
def k0m1 : Method := { name := "getClass", desc := "()Ljava/lang/Class;", sig := { parameters := [], returnType := some (.object "java/lang/Class") }, accessFlags := 273, code := none }
def k0m2 : Method := { name := "clone", desc := "()Ljava/lang/Object;", sig := { parameters := [], returnType := some (.object "java/lang/Object") }, accessFlags := 260, code := none }
/-- java/lang/Object -/
def k0 : Class := { plain "java/lang/Object" none with
  accessFlags := 33
  interfaces := #[]
  cf := some (fileOf pool0 8 #[] #[{ accessFlags := 1, nameIndex := 5, descriptorIndex := 6, attributes := #[] }, { accessFlags := 273, nameIndex := 11, descriptorIndex := 12, attributes := #[] }, { accessFlags := 260, nameIndex := 96, descriptorIndex := 97, attributes := #[] }] 33 0 #[] #[])
  fields := #[]
  methods := #[k0m0, k0m1, k0m2]
  instanceTypes := #[]
  staticTypes := #[]
  resolved := Array.replicate 124 none
  statics := none }

def pool1 : Array CpInfo := pool [(2, .class_ 4), (0, .nameAndType 5 6), (0, u "java/lang/Object"), (0, u "<init>"), (0, u "()V"), (0, .integer 2147483647), (0, .class_ 9), (0, u "com/example/feedergen/feedergen/core/GeoPoint"), (0, .methodref 8 11), (0, .nameAndType 5 12), (0, u "(DD)V"), (0, .class_ 14), (0, u "java/util/ArrayList"), (0, .methodref 13 3), (0, .methodref 13 17), (0, .nameAndType 18 19), (0, u "add"), (0, u "(Ljava/lang/Object;)Z"), (0, .class_ 21), (0, u "com/example/feedergen/feedergen/core/StreetWay"), (0, .methodref 20 23), (0, .nameAndType 5 24), (0, u "(JLjava/lang/String;Lcom/example/feedergen/feedergen/core/StreetClass;ZLcom/example/feedergen/feedergen/core/TravelDirection;[J)V"), (0, .class_ 26), (0, u "com/example/feedergen/feedergen/core/StreetLink"), (0, .methodref 25 28), (0, .nameAndType 5 29), (0, u "(Lcom/example/feedergen/feedergen/core/StreetWay;[JLjava/util/List;)V"), (0, .methodref 25 31), (0, .nameAndType 32 33), (0, u "last"), (0, u "()J"), (0, .long 18446744073709551615), (1, .class_ 37), (0, u "com/example/feedergen/feedergen/core/StreetLinkLastPinLaw"), (2, u "law"), (0, u "(JJJJI)Z")] 5

def k1m0 : Method := { name := "<init>", desc := "()V", sig := { parameters := [], returnType := none }, accessFlags := 1, code := none }
def k1c1 : Code := { maxStack := 13, maxLocals := 19, code := code, exceptionTable := #[], attributes := #[] }
def k1m1 : Method := { name := "law", desc := "(JJJJI)Z", sig := { parameters := [.long, .long, .long, .long, .int], returnType := some .boolean }, accessFlags := 9, code := some k1c1 }
/-- com/example/feedergen/feedergen/core/StreetLinkLastPinLaw -/
def k1 : Class := { plain "com/example/feedergen/feedergen/core/StreetLinkLastPinLaw" (some 0) with
  accessFlags := 49
  interfaces := #[]
  cf := some (fileOf pool1 36 #[] #[{ accessFlags := 1, nameIndex := 5, descriptorIndex := 6, attributes := #[] }, { accessFlags := 9, nameIndex := 40, descriptorIndex := 41, attributes := #[] }] 49 2 #[] #[])
  fields := #[]
  methods := #[k1m0, k1m1]
  instanceTypes := #[]
  staticTypes := #[]
  resolved := Array.replicate 47 none
  statics := none }

def pool2 : Array CpInfo := pool [(1, .methodref 2 3), (0, .class_ 4), (0, .nameAndType 5 6), (0, u "java/lang/Object"), (0, u "<init>"), (0, u "()V"), (0, .class_ 8), (0, u "java/lang/Record")] 13

def k2c0 : Code := { maxStack := 1, maxLocals := 1, code := jdk_30_method_1_code, exceptionTable := #[], attributes := #[] }
def k2m0 : Method := { name := "<init>", desc := "()V", sig := { parameters := [], returnType := none }, accessFlags := 4, code := some k2c0 }
/-- java/lang/Record -/
def k2 : Class := { plain "java/lang/Record" (some 0) with
  accessFlags := 1057
  interfaces := #[]
  cf := some (fileOf pool2 7 #[] #[{ accessFlags := 4, nameIndex := 5, descriptorIndex := 6, attributes := #[] }] 1057 2 #[] #[])
  fields := #[]
  methods := #[k2m0]
  instanceTypes := #[]
  staticTypes := #[]
  resolved := Array.replicate 22 none
  statics := none }

def pool3 : Array CpInfo := pool [(1, .methodref 2 3), (0, .class_ 4), (0, .nameAndType 5 6), (0, u "java/lang/Record"), (0, u "<init>"), (0, u "()V"), (0, .methodref 8 9), (0, .class_ 10), (0, .nameAndType 11 12), (0, u "java/lang/Double"), (0, u "isNaN"), (0, u "(D)Z"), (0, .double 13863909240395005952), (1, .double 4640537203540230144), (10, .double 13859405640767635456), (1, .double 4636033603912859648), (2, .fieldref 32 33), (0, .class_ 34), (0, .nameAndType 35 36), (0, u "com/example/feedergen/feedergen/core/GeoPoint"), (0, u "lon"), (0, u "D"), (0, .fieldref 32 38), (0, .nameAndType 39 36), (0, u "lat"), (48, u "(DD)V"), (12, u "EARTH_RADIUS_METRES")] 44

def k3c0 : Code := { maxStack := 4, maxLocals := 5, code := prog_10_method_1_code, exceptionTable := #[], attributes := #[] }
def k3m0 : Method := { name := "<init>", desc := "(DD)V", sig := { parameters := [.double, .double], returnType := none }, accessFlags := 1, code := some k3c0 }
/-- com/example/feedergen/feedergen/core/GeoPoint -/
def k3 : Class := { plain "com/example/feedergen/feedergen/core/GeoPoint" (some 2) with
  accessFlags := 49
  interfaces := #[]
  cf := some (fileOf pool3 32 #[] #[{ accessFlags := 1, nameIndex := 5, descriptorIndex := 88, attributes := #[] }] 49 2 #[] #[{ accessFlags := 18, nameIndex := 35, descriptorIndex := 36, attributes := #[] }, { accessFlags := 18, nameIndex := 39, descriptorIndex := 36, attributes := #[] }, { accessFlags := 25, nameIndex := 101, descriptorIndex := 36, attributes := #[] }])
  fields := #[{ name := "lon", type := .double, accessFlags := 18, slot := 0, constantValue := 0 }, { name := "lat", type := .double, accessFlags := 18, slot := 1, constantValue := 0 }, { name := "EARTH_RADIUS_METRES", type := .double, accessFlags := 25, slot := 0, constantValue := 0 }]
  methods := #[k3m0]
  instanceTypes := #[.double, .double]
  staticTypes := #[.double]
  resolved := Array.replicate 146 none
  statics := none }

def pool4 : Array CpInfo := pool [(1, .class_ 2), (0, u "java/io/Serializable"), (0, .class_ 4), (0, u "java/lang/Object")] 2

/-- java/io/Serializable -/
def k4 : Class := { plain "java/io/Serializable" (some 0) with
  accessFlags := 1537
  interfaces := #[]
  cf := some (fileOf pool4 1 #[] #[] 1537 3 #[] #[])
  fields := #[]
  methods := #[]
  instanceTypes := #[]
  staticTypes := #[]
  resolved := Array.replicate 7 none
  statics := none }

def pool5 : Array CpInfo := pool [(2, .class_ 4), (1, u "java/lang/Object"), (0, u "<init>"), (0, u "()V"), (1, .class_ 10), (1, u "java/lang/Number"), (2, .class_ 14), (0, u "java/io/Serializable"), (0, u "serialVersionUID"), (0, u "J")] 20

def k5m0 : Method := { name := "<init>", desc := "()V", sig := { parameters := [], returnType := none }, accessFlags := 1, code := none }
/-- java/lang/Number -/
def k5 : Class := { plain "java/lang/Number" (some 0) with
  accessFlags := 1057
  interfaces := #[4]
  cf := some (fileOf pool5 8 #[] #[{ accessFlags := 1, nameIndex := 5, descriptorIndex := 6, attributes := #[] }] 1057 2 #[13] #[{ accessFlags := 26, nameIndex := 15, descriptorIndex := 16, attributes := #[] }])
  fields := #[{ name := "serialVersionUID", type := .long, accessFlags := 26, slot := 0, constantValue := 0 }]
  methods := #[k5m0]
  instanceTypes := #[]
  staticTypes := #[.long]
  resolved := Array.replicate 37 none
  statics := none }

def pool6 : Array CpInfo := pool [(1, .class_ 2), (0, u "java/lang/Comparable"), (0, .class_ 4), (0, u "java/lang/Object")] 7

/-- java/lang/Comparable -/
def k6 : Class := { plain "java/lang/Comparable" (some 0) with
  accessFlags := 1537
  interfaces := #[]
  cf := some (fileOf pool6 1 #[] #[] 1537 3 #[] #[])
  fields := #[]
  methods := #[]
  instanceTypes := #[]
  staticTypes := #[]
  resolved := Array.replicate 12 none
  statics := none }

def pool7 : Array CpInfo := pool [(1, .class_ 2), (0, u "java/lang/constant/Constable"), (0, .class_ 4), (0, u "java/lang/Object")] 6

/-- java/lang/constant/Constable -/
def k7 : Class := { plain "java/lang/constant/Constable" (some 0) with
  accessFlags := 1537
  interfaces := #[]
  cf := some (fileOf pool7 1 #[] #[] 1537 3 #[] #[])
  fields := #[]
  methods := #[]
  instanceTypes := #[]
  staticTypes := #[]
  resolved := Array.replicate 11 none
  statics := none }

def pool8 : Array CpInfo := pool [(1, .class_ 2), (0, u "java/lang/constant/ConstantDesc"), (0, .class_ 4), (0, u "java/lang/Object")] 32

/-- java/lang/constant/ConstantDesc -/
def k8 : Class := { plain "java/lang/constant/ConstantDesc" (some 0) with
  accessFlags := 1537
  interfaces := #[]
  cf := some (fileOf pool8 1 #[] #[] 1537 3 #[] #[])
  fields := #[]
  methods := #[]
  instanceTypes := #[]
  staticTypes := #[]
  resolved := Array.replicate 37 none
  statics := none }

def pool9 : Array CpInfo := pool [(1, .class_ 2), (0, u "java/lang/Double"), (11, u "(D)Z"), (99, .class_ 116), (1, u "java/lang/Number"), (3, u "value"), (0, u "D"), (2, u "isNaN"), (48, u "TYPE"), (0, u "Ljava/lang/Class;"), (0, .class_ 176), (0, u "java/lang/Comparable"), (0, .class_ 178), (0, u "java/lang/constant/Constable"), (0, .class_ 180), (0, u "java/lang/constant/ConstantDesc"), (0, u "POSITIVE_INFINITY"), (3, u "NEGATIVE_INFINITY"), (2, u "NaN"), (2, u "MAX_VALUE"), (0, u "MIN_NORMAL"), (0, u "MIN_VALUE"), (2, u "SIZE"), (0, u "I"), (1, u "PRECISION"), (1, u "MAX_EXPONENT"), (1, u "MIN_EXPONENT"), (1, u "BYTES"), (3, u "serialVersionUID"), (0, u "J")] 79

def k9c0 : Code := { maxStack := 4, maxLocals := 2, code := jdk_117_method_6_code, exceptionTable := #[], attributes := #[] }
def k9m0 : Method := { name := "isNaN", desc := "(D)Z", sig := { parameters := [.double], returnType := some .boolean }, accessFlags := 9, code := some k9c0 }
/-- java/lang/Double -/
def k9 : Class := { plain "java/lang/Double" (some 5) with
  accessFlags := 49
  interfaces := #[6, 7, 8]
  cf := some (fileOf pool9 1 #[] #[{ accessFlags := 9, nameIndex := 124, descriptorIndex := 14, attributes := #[] }] 49 114 #[175, 177, 179] #[{ accessFlags := 25, nameIndex := 181, descriptorIndex := 121, attributes := #[] }, { accessFlags := 25, nameIndex := 185, descriptorIndex := 121, attributes := #[] }, { accessFlags := 25, nameIndex := 188, descriptorIndex := 121, attributes := #[] }, { accessFlags := 25, nameIndex := 191, descriptorIndex := 121, attributes := #[] }, { accessFlags := 25, nameIndex := 192, descriptorIndex := 121, attributes := #[] }, { accessFlags := 25, nameIndex := 193, descriptorIndex := 121, attributes := #[] }, { accessFlags := 25, nameIndex := 196, descriptorIndex := 197, attributes := #[] }, { accessFlags := 25, nameIndex := 199, descriptorIndex := 197, attributes := #[] }, { accessFlags := 25, nameIndex := 201, descriptorIndex := 197, attributes := #[] }, { accessFlags := 25, nameIndex := 203, descriptorIndex := 197, attributes := #[] }, { accessFlags := 25, nameIndex := 205, descriptorIndex := 197, attributes := #[] }, { accessFlags := 25, nameIndex := 173, descriptorIndex := 174, attributes := #[] }, { accessFlags := 18, nameIndex := 120, descriptorIndex := 121, attributes := #[] }, { accessFlags := 26, nameIndex := 209, descriptorIndex := 210, attributes := #[] }])
  fields := #[{ name := "POSITIVE_INFINITY", type := .double, accessFlags := 25, slot := 0, constantValue := 0 }, { name := "NEGATIVE_INFINITY", type := .double, accessFlags := 25, slot := 1, constantValue := 0 }, { name := "NaN", type := .double, accessFlags := 25, slot := 2, constantValue := 0 }, { name := "MAX_VALUE", type := .double, accessFlags := 25, slot := 3, constantValue := 0 }, { name := "MIN_NORMAL", type := .double, accessFlags := 25, slot := 4, constantValue := 0 }, { name := "MIN_VALUE", type := .double, accessFlags := 25, slot := 5, constantValue := 0 }, { name := "SIZE", type := .int, accessFlags := 25, slot := 6, constantValue := 0 }, { name := "PRECISION", type := .int, accessFlags := 25, slot := 7, constantValue := 0 }, { name := "MAX_EXPONENT", type := .int, accessFlags := 25, slot := 8, constantValue := 0 }, { name := "MIN_EXPONENT", type := .int, accessFlags := 25, slot := 9, constantValue := 0 }, { name := "BYTES", type := .int, accessFlags := 25, slot := 10, constantValue := 0 }, { name := "TYPE", type := (.object "java/lang/Class"), accessFlags := 25, slot := 11, constantValue := 0 }, { name := "value", type := .double, accessFlags := 18, slot := 0, constantValue := 0 }, { name := "serialVersionUID", type := .long, accessFlags := 26, slot := 12, constantValue := 0 }]
  methods := #[k9m0]
  instanceTypes := #[.double]
  staticTypes := #[.double, .double, .double, .double, .double, .double, .int, .int, .int, .int, .int, (.object "java/lang/Class"), .long]
  resolved := Array.replicate 290 none
  statics := none }

def pool10 : Array CpInfo := pool [(8, .class_ 10), (1, u "java/lang/Iterable"), (24, .class_ 36), (0, u "java/lang/Object")] 25

/-- java/lang/Iterable -/
def k10 : Class := { plain "java/lang/Iterable" (some 0) with
  accessFlags := 1537
  interfaces := #[]
  cf := some (fileOf pool10 8 #[] #[] 1537 35 #[] #[])
  fields := #[]
  methods := #[]
  instanceTypes := #[]
  staticTypes := #[]
  resolved := Array.replicate 62 none
  statics := none }

def pool11 : Array CpInfo := pool [(10, .class_ 12), (1, u "java/util/Collection"), (0, u "toArray"), (16, u "()Z"), (29, .class_ 61), (0, u "java/lang/Object"), (0, .class_ 63), (0, u "java/lang/Iterable"), (2, u "isEmpty"), (3, u "()[Ljava/lang/Object;")] 44

def k11m0 : Method := { name := "isEmpty", desc := "()Z", sig := { parameters := [], returnType := some .boolean }, accessFlags := 1025, code := none }
def k11m1 : Method := { name := "toArray", desc := "()[Ljava/lang/Object;", sig := { parameters := [], returnType := some (.array (.object "java/lang/Object")) }, accessFlags := 1025, code := none }
/-- java/util/Collection -/
def k11 : Class := { plain "java/util/Collection" (some 0) with
  accessFlags := 1537
  interfaces := #[10]
  cf := some (fileOf pool11 10 #[] #[{ accessFlags := 1025, nameIndex := 66, descriptorIndex := 30, attributes := #[] }, { accessFlags := 1025, nameIndex := 13, descriptorIndex := 70, attributes := #[] }] 1537 60 #[62] #[])
  fields := #[]
  methods := #[k11m0, k11m1]
  instanceTypes := #[]
  staticTypes := #[]
  resolved := Array.replicate 115 none
  statics := none }

def pool12 : Array CpInfo := pool [(1, .methodref 2 3), (0, .class_ 4), (0, .nameAndType 5 6), (0, u "java/lang/Object"), (0, u "<init>"), (0, u "()V"), (1, .class_ 10), (1, u "java/util/AbstractCollection"), (66, .class_ 78), (0, u "java/util/Collection")] 81

def k12c0 : Code := { maxStack := 1, maxLocals := 1, code := jdk_22_method_1_code, exceptionTable := #[], attributes := #[] }
def k12m0 : Method := { name := "<init>", desc := "()V", sig := { parameters := [], returnType := none }, accessFlags := 4, code := some k12c0 }
/-- java/util/AbstractCollection -/
def k12 : Class := { plain "java/util/AbstractCollection" (some 0) with
  accessFlags := 1057
  interfaces := #[11]
  cf := some (fileOf pool12 8 #[] #[{ accessFlags := 4, nameIndex := 5, descriptorIndex := 6, attributes := #[] }] 1057 2 #[77] #[])
  fields := #[]
  methods := #[k12m0]
  instanceTypes := #[]
  staticTypes := #[]
  resolved := Array.replicate 160 none
  statics := none }

def pool13 : Array CpInfo := pool [(8, .class_ 10), (1, u "java/util/SequencedCollection"), (15, .class_ 27), (0, u "java/lang/Object"), (0, .class_ 29), (0, u "java/util/Collection")] 27

/-- java/util/SequencedCollection -/
def k13 : Class := { plain "java/util/SequencedCollection" (some 0) with
  accessFlags := 1537
  interfaces := #[11]
  cf := some (fileOf pool13 8 #[] #[] 1537 26 #[28] #[])
  fields := #[]
  methods := #[]
  instanceTypes := #[]
  staticTypes := #[]
  resolved := Array.replicate 57 none
  statics := none }

def pool14 : Array CpInfo := pool [(8, .class_ 10), (1, u "java/util/List"), (37, u "<init>"), (30, u "size"), (0, u "()I"), (7, u "of"), (2, .class_ 93), (1, u "java/util/ImmutableCollections"), (2, .class_ 97), (0, u "java/util/ImmutableCollections$List12"), (2, .methodref 96 101), (0, .nameAndType 48 102), (0, u "(Ljava/lang/Object;Ljava/lang/Object;)V"), (0, .class_ 104), (0, u "java/lang/Object"), (3, u "([Ljava/lang/Object;)Ljava/util/List;"), (0, .methodref 91 110), (0, .nameAndType 111 108), (0, u "listFromArray"), (0, .methodref 91 113), (0, .nameAndType 114 115), (0, u "listCopy"), (0, u "(Ljava/util/Collection;)Ljava/util/List;"), (4, .class_ 121), (0, u "java/util/SequencedCollection"), (112, u "copyOf")] 16

def k14m0 : Method := { name := "size", desc := "()I", sig := { parameters := [], returnType := some .int }, accessFlags := 1025, code := none }
def k14c1 : Code := { maxStack := 5, maxLocals := 2, code := jdk_40_method_47_code, exceptionTable := #[], attributes := #[] }
def k14m1 : Method := { name := "of", desc := "([Ljava/lang/Object;)Ljava/util/List;", sig := { parameters := [(.array (.object "java/lang/Object"))], returnType := some (.object "java/util/List") }, accessFlags := 137, code := some k14c1 }
def k14c2 : Code := { maxStack := 1, maxLocals := 1, code := jdk_40_method_48_code, exceptionTable := #[], attributes := #[] }
def k14m2 : Method := { name := "copyOf", desc := "(Ljava/util/Collection;)Ljava/util/List;", sig := { parameters := [(.object "java/util/Collection")], returnType := some (.object "java/util/List") }, accessFlags := 9, code := some k14c2 }
/-- java/util/List -/
def k14 : Class := { plain "java/util/List" (some 0) with
  accessFlags := 1537
  interfaces := #[13]
  cf := some (fileOf pool14 8 #[] #[{ accessFlags := 1025, nameIndex := 79, descriptorIndex := 80, attributes := #[] }, { accessFlags := 137, nameIndex := 88, descriptorIndex := 108, attributes := #[] }, { accessFlags := 9, nameIndex := 234, descriptorIndex := 115, attributes := #[] }] 1537 103 #[120] #[])
  fields := #[]
  methods := #[k14m0, k14m1, k14m2]
  instanceTypes := #[]
  staticTypes := #[]
  resolved := Array.replicate 251 none
  statics := none }

def pool15 : Array CpInfo := pool [(1, .methodref 2 3), (0, .class_ 4), (0, .nameAndType 5 6), (0, u "java/util/AbstractCollection"), (0, u "<init>"), (0, u "()V"), (0, .fieldref 8 9), (0, .class_ 10), (0, .nameAndType 11 12), (0, u "java/util/AbstractList"), (0, u "modCount"), (0, u "I"), (64, .class_ 78), (0, u "java/util/AbstractList$Itr"), (3, .class_ 83), (0, u "java/util/AbstractList$ListItr"), (9, .class_ 94), (0, u "java/util/AbstractList$RandomAccessSubList"), (3, .class_ 99), (0, u "java/util/AbstractList$SubList"), (33, .class_ 134), (0, u "java/util/List"), (73, .class_ 209), (0, u "java/util/AbstractList$SubList$1"), (0, .class_ 211), (0, u "java/util/AbstractList$RandomAccessSpliterator")] 6

def k15c0 : Code := { maxStack := 2, maxLocals := 1, code := jdk_39_method_1_code, exceptionTable := #[], attributes := #[] }
def k15m0 : Method := { name := "<init>", desc := "()V", sig := { parameters := [], returnType := none }, accessFlags := 4, code := some k15c0 }
/-- java/util/AbstractList -/
def k15 : Class := { plain "java/util/AbstractList" (some 12) with
  accessFlags := 1057
  interfaces := #[14]
  cf := some (fileOf pool15 8 #[.nestMembers #[93, 98, 208, 210, 82, 77]] #[{ accessFlags := 4, nameIndex := 5, descriptorIndex := 6, attributes := #[] }] 1057 2 #[133] #[{ accessFlags := 132, nameIndex := 11, descriptorIndex := 12, attributes := #[] }])
  fields := #[{ name := "modCount", type := .int, accessFlags := 132, slot := 0, constantValue := 0 }]
  methods := #[k15m0]
  instanceTypes := #[.int]
  staticTypes := #[]
  resolved := Array.replicate 218 none
  statics := none }

def pool16 : Array CpInfo := pool [(1, .class_ 2), (0, u "java/util/RandomAccess"), (0, .class_ 4), (0, u "java/lang/Object")] 2

/-- java/util/RandomAccess -/
def k16 : Class := { plain "java/util/RandomAccess" (some 0) with
  accessFlags := 1537
  interfaces := #[]
  cf := some (fileOf pool16 1 #[] #[] 1537 3 #[] #[])
  fields := #[]
  methods := #[]
  instanceTypes := #[]
  staticTypes := #[]
  resolved := Array.replicate 7 none
  statics := none }

def pool17 : Array CpInfo := pool [(1, .class_ 2), (0, u "java/lang/Cloneable"), (0, .class_ 4), (0, u "java/lang/Object")] 2

/-- java/lang/Cloneable -/
def k17 : Class := { plain "java/lang/Cloneable" (some 0) with
  accessFlags := 1537
  interfaces := #[]
  cf := some (fileOf pool17 1 #[] #[] 1537 3 #[] #[])
  fields := #[]
  methods := #[]
  instanceTypes := #[]
  staticTypes := #[]
  resolved := Array.replicate 7 none
  statics := none }

def pool18 : Array CpInfo := pool [(1, .methodref 2 3), (0, .class_ 4), (0, .nameAndType 5 6), (0, u "java/util/AbstractList"), (0, u "<init>"), (0, u "()V"), (0, .class_ 8), (0, u "java/lang/Object"), (0, .fieldref 10 11), (0, .class_ 12), (0, .nameAndType 13 14), (0, u "java/util/ArrayList"), (0, u "elementData"), (0, u "[Ljava/lang/Object;"), (2, u "EMPTY_ELEMENTDATA"), (21, .fieldref 10 40), (0, .nameAndType 41 14), (0, u "DEFAULTCAPACITY_EMPTY_ELEMENTDATA"), (4, u "toArray"), (0, u "()[Ljava/lang/Object;"), (0, .fieldref 10 49), (0, .nameAndType 50 51), (0, u "size"), (0, u "I"), (6, .class_ 60), (1, u "java/util/Arrays"), (0, u "copyOf"), (1, .fieldref 10 64), (0, .nameAndType 65 51), (0, u "modCount"), (0, .methodref 58 67), (0, .nameAndType 61 68), (0, u "([Ljava/lang/Object;I)[Ljava/lang/Object;"), (0, .methodref 10 70), (0, .nameAndType 71 72), (0, u "grow"), (0, u "(I)[Ljava/lang/Object;"), (6, .methodref 80 81), (0, .class_ 82), (0, .nameAndType 83 84), (0, u "java/lang/Math"), (0, u "max"), (0, u "(II)I"), (11, u "(Ljava/lang/Object;)Z"), (32, .methodref 10 130), (0, .nameAndType 71 47), (0, .methodref 10 132), (0, .nameAndType 133 134), (0, u "add"), (0, u "(Ljava/lang/Object;[Ljava/lang/Object;I)V"), (13, .class_ 149), (0, u "java/util/List"), (23, u "()Z"), (12, u "()I"), (75, .class_ 263), (0, u "java/util/ArrayList$ListItr"), (3, .class_ 268), (0, u "java/util/ArrayList$Itr"), (7, .class_ 277), (0, u "java/util/ArrayList$SubList"), (12, .class_ 291), (0, u "java/util/ArrayList$ArrayListSpliterator"), (37, .class_ 330), (0, u "java/util/RandomAccess"), (0, .class_ 332), (0, u "java/lang/Cloneable"), (0, .class_ 334), (0, u "java/io/Serializable"), (0, u "serialVersionUID"), (0, u "J"), (3, u "DEFAULT_CAPACITY"), (22, u "isEmpty"), (136, .class_ 501), (0, u "java/util/ArrayList$SubList$2"), (0, .class_ 503), (0, u "java/util/ArrayList$SubList$1")] 5

def k18c0 : Code := { maxStack := 2, maxLocals := 1, code := jdk_38_method_2_code, exceptionTable := #[], attributes := #[] }
def k18m0 : Method := { name := "<init>", desc := "()V", sig := { parameters := [], returnType := none }, accessFlags := 1, code := some k18c0 }
def k18c1 : Code := { maxStack := 4, maxLocals := 4, code := jdk_38_method_6_code, exceptionTable := #[], attributes := #[] }
def k18m1 : Method := { name := "grow", desc := "(I)[Ljava/lang/Object;", sig := { parameters := [.int], returnType := some (.array (.object "java/lang/Object")) }, accessFlags := 2, code := some k18c1 }
def k18c2 : Code := { maxStack := 3, maxLocals := 1, code := jdk_38_method_7_code, exceptionTable := #[], attributes := #[] }
def k18m2 : Method := { name := "grow", desc := "()[Ljava/lang/Object;", sig := { parameters := [], returnType := some (.array (.object "java/lang/Object")) }, accessFlags := 2, code := some k18c2 }
def k18c3 : Code := { maxStack := 1, maxLocals := 1, code := jdk_38_method_8_code, exceptionTable := #[], attributes := #[] }
def k18m3 : Method := { name := "size", desc := "()I", sig := { parameters := [], returnType := some .int }, accessFlags := 1, code := some k18c3 }
def k18c4 : Code := { maxStack := 1, maxLocals := 1, code := jdk_38_method_9_code, exceptionTable := #[], attributes := #[] }
def k18m4 : Method := { name := "isEmpty", desc := "()Z", sig := { parameters := [], returnType := some .boolean }, accessFlags := 1, code := some k18c4 }
def k18c5 : Code := { maxStack := 2, maxLocals := 1, code := jdk_38_method_16_code, exceptionTable := #[], attributes := #[] }
def k18m5 : Method := { name := "toArray", desc := "()[Ljava/lang/Object;", sig := { parameters := [], returnType := some (.array (.object "java/lang/Object")) }, accessFlags := 1, code := some k18c5 }
def k18c6 : Code := { maxStack := 3, maxLocals := 4, code := jdk_38_method_24_code, exceptionTable := #[], attributes := #[] }
def k18m6 : Method := { name := "add", desc := "(Ljava/lang/Object;[Ljava/lang/Object;I)V", sig := { parameters := [(.object "java/lang/Object"), (.array (.object "java/lang/Object")), .int], returnType := none }, accessFlags := 2, code := some k18c6 }
def k18c7 : Code := { maxStack := 4, maxLocals := 2, code := jdk_38_method_25_code, exceptionTable := #[], attributes := #[] }
def k18m7 : Method := { name := "add", desc := "(Ljava/lang/Object;)Z", sig := { parameters := [(.object "java/lang/Object")], returnType := some .boolean }, accessFlags := 1, code := some k18c7 }
/-- java/util/ArrayList -/
def k18 : Class := { plain "java/util/ArrayList" (some 15) with
  accessFlags := 33
  interfaces := #[14, 16, 17, 4]
  cf := some (fileOf pool18 10 #[.nestMembers #[290, 276, 500, 502, 262, 267]] #[{ accessFlags := 1, nameIndex := 5, descriptorIndex := 6, attributes := #[] }, { accessFlags := 2, nameIndex := 71, descriptorIndex := 72, attributes := #[] }, { accessFlags := 2, nameIndex := 71, descriptorIndex := 47, attributes := #[] }, { accessFlags := 1, nameIndex := 50, descriptorIndex := 186, attributes := #[] }, { accessFlags := 1, nameIndex := 363, descriptorIndex := 173, attributes := #[] }, { accessFlags := 1, nameIndex := 46, descriptorIndex := 47, attributes := #[] }, { accessFlags := 2, nameIndex := 133, descriptorIndex := 134, attributes := #[] }, { accessFlags := 1, nameIndex := 133, descriptorIndex := 96, attributes := #[] }] 33 2 #[148, 329, 331, 333] #[{ accessFlags := 26, nameIndex := 335, descriptorIndex := 336, attributes := #[] }, { accessFlags := 26, nameIndex := 340, descriptorIndex := 51, attributes := #[] }, { accessFlags := 26, nameIndex := 17, descriptorIndex := 14, attributes := #[] }, { accessFlags := 26, nameIndex := 41, descriptorIndex := 14, attributes := #[] }, { accessFlags := 128, nameIndex := 13, descriptorIndex := 14, attributes := #[] }, { accessFlags := 2, nameIndex := 50, descriptorIndex := 51, attributes := #[] }])
  fields := #[{ name := "serialVersionUID", type := .long, accessFlags := 26, slot := 0, constantValue := 0 }, { name := "DEFAULT_CAPACITY", type := .int, accessFlags := 26, slot := 1, constantValue := 0 }, { name := "EMPTY_ELEMENTDATA", type := (.array (.object "java/lang/Object")), accessFlags := 26, slot := 2, constantValue := 0 }, { name := "DEFAULTCAPACITY_EMPTY_ELEMENTDATA", type := (.array (.object "java/lang/Object")), accessFlags := 26, slot := 3, constantValue := 0 }, { name := "elementData", type := (.array (.object "java/lang/Object")), accessFlags := 128, slot := 1, constantValue := 0 }, { name := "size", type := .int, accessFlags := 2, slot := 2, constantValue := 0 }]
  methods := #[k18m0, k18m1, k18m2, k18m3, k18m4, k18m5, k18m6, k18m7]
  instanceTypes := #[.int, (.array (.object "java/lang/Object")), .int]
  staticTypes := #[.long, .int, (.array (.object "java/lang/Object")), (.array (.object "java/lang/Object"))]
  resolved := Array.replicate 509 none
  statics := some 0 }

def pool19 : Array CpInfo := pool [(1, .class_ 2), (0, u "java/lang/Math"), (1, .class_ 6), (1, u "java/lang/Object"), (0, u "<init>"), (0, u "()V"), (89, .class_ 100), (1, u "java/lang/Math$RandomNumberGeneratorHolder"), (71, u "negativeZeroFloatBits"), (0, u "J"), (2, u "negativeZeroDoubleBits"), (21, u "max"), (2, u "min"), (43, u "$assertionsDisabled"), (0, u "Z"), (88, u "(II)I"), (2, u "twoToTheDoubleScaleDown"), (0, u "D"), (4, u "twoToTheDoubleScaleUp"), (9, u "E"), (3, u "PI"), (2, u "TAU"), (2, u "DEGREES_TO_RADIANS"), (0, u "RADIANS_TO_DEGREES")] 94

def k19m0 : Method := { name := "<init>", desc := "()V", sig := { parameters := [], returnType := none }, accessFlags := 2, code := none }
def k19c1 : Code := { maxStack := 2, maxLocals := 2, code := jdk_29_method_65_code, exceptionTable := #[], attributes := #[] }
def k19m1 : Method := { name := "max", desc := "(II)I", sig := { parameters := [.int, .int], returnType := some .int }, accessFlags := 9, code := some k19c1 }
def k19c2 : Code := { maxStack := 2, maxLocals := 2, code := jdk_29_method_69_code, exceptionTable := #[], attributes := #[] }
def k19m2 : Method := { name := "min", desc := "(II)I", sig := { parameters := [.int, .int], returnType := some .int }, accessFlags := 9, code := some k19c2 }
/-- java/lang/Math -/
def k19 : Class := { plain "java/lang/Math" (some 0) with
  accessFlags := 49
  interfaces := #[]
  cf := some (fileOf pool19 1 #[.nestMembers #[98]] #[{ accessFlags := 2, nameIndex := 7, descriptorIndex := 8, attributes := #[] }, { accessFlags := 9, nameIndex := 198, descriptorIndex := 335, attributes := #[] }, { accessFlags := 9, nameIndex := 201, descriptorIndex := 335, attributes := #[] }] 49 4 #[] #[{ accessFlags := 25, nameIndex := 354, descriptorIndex := 339, attributes := #[] }, { accessFlags := 25, nameIndex := 358, descriptorIndex := 339, attributes := #[] }, { accessFlags := 25, nameIndex := 361, descriptorIndex := 339, attributes := #[] }, { accessFlags := 26, nameIndex := 364, descriptorIndex := 339, attributes := #[] }, { accessFlags := 26, nameIndex := 365, descriptorIndex := 339, attributes := #[] }, { accessFlags := 26, nameIndex := 172, descriptorIndex := 173, attributes := #[] }, { accessFlags := 26, nameIndex := 176, descriptorIndex := 173, attributes := #[] }, { accessFlags := 8, nameIndex := 344, descriptorIndex := 339, attributes := #[] }, { accessFlags := 8, nameIndex := 338, descriptorIndex := 339, attributes := #[] }, { accessFlags := 4120, nameIndex := 245, descriptorIndex := 246, attributes := #[] }])
  fields := #[{ name := "E", type := .double, accessFlags := 25, slot := 0, constantValue := 0 }, { name := "PI", type := .double, accessFlags := 25, slot := 1, constantValue := 0 }, { name := "TAU", type := .double, accessFlags := 25, slot := 2, constantValue := 0 }, { name := "DEGREES_TO_RADIANS", type := .double, accessFlags := 26, slot := 3, constantValue := 0 }, { name := "RADIANS_TO_DEGREES", type := .double, accessFlags := 26, slot := 4, constantValue := 0 }, { name := "negativeZeroFloatBits", type := .long, accessFlags := 26, slot := 5, constantValue := 0 }, { name := "negativeZeroDoubleBits", type := .long, accessFlags := 26, slot := 6, constantValue := 0 }, { name := "twoToTheDoubleScaleUp", type := .double, accessFlags := 8, slot := 7, constantValue := 0 }, { name := "twoToTheDoubleScaleDown", type := .double, accessFlags := 8, slot := 8, constantValue := 0 }, { name := "$assertionsDisabled", type := .boolean, accessFlags := 4120, slot := 9, constantValue := 0 }]
  methods := #[k19m0, k19m1, k19m2]
  instanceTypes := #[]
  staticTypes := #[.double, .double, .double, .double, .double, .long, .long, .double, .double, .boolean]
  resolved := Array.replicate 460 none
  statics := none }

def pool20 : Array CpInfo := pool [(1, .methodref 2 3), (0, .class_ 4), (0, .nameAndType 5 6), (0, u "java/lang/Record"), (0, u "<init>"), (0, u "()V"), (9, .methodref 17 18), (0, .class_ 19), (0, .nameAndType 20 21), (0, u "[J"), (0, u "clone"), (0, u "()Ljava/lang/Object;"), (0, .fieldref 23 24), (0, .class_ 25), (0, .nameAndType 26 27), (0, u "com/example/feedergen/feedergen/core/StreetWay"), (0, u "id"), (0, u "J"), (0, .fieldref 23 29), (0, .nameAndType 30 31), (0, u "name"), (0, u "Ljava/lang/String;"), (0, .fieldref 23 33), (0, .nameAndType 34 35), (0, u "streetClass"), (0, u "Lcom/example/feedergen/feedergen/core/StreetClass;"), (0, .fieldref 23 37), (0, .nameAndType 38 39), (0, u "oneway"), (0, u "Z"), (0, .fieldref 23 41), (0, .nameAndType 42 43), (0, u "travel"), (0, u "Lcom/example/feedergen/feedergen/core/TravelDirection;"), (0, .fieldref 23 45), (0, .nameAndType 46 19), (0, u "nodes"), (20, u "CLOSED"), (0, u "Ljava/util/Set;"), (51, u "(JLjava/lang/String;Lcom/example/feedergen/feedergen/core/StreetClass;ZLcom/example/feedergen/feedergen/core/TravelDirection;[J)V")] 99

def k20c0 : Code := { maxStack := 4, maxLocals := 8, code := prog_35_method_1_code, exceptionTable := #[], attributes := #[] }
def k20m0 : Method := { name := "<init>", desc := "(JLjava/lang/String;Lcom/example/feedergen/feedergen/core/StreetClass;ZLcom/example/feedergen/feedergen/core/TravelDirection;[J)V", sig := { parameters := [.long, (.object "java/lang/String"), (.object "com/example/feedergen/feedergen/core/StreetClass"), .boolean, (.object "com/example/feedergen/feedergen/core/TravelDirection"), (.array .long)], returnType := none }, accessFlags := 1, code := some k20c0 }
/-- com/example/feedergen/feedergen/core/StreetWay -/
def k20 : Class := { plain "com/example/feedergen/feedergen/core/StreetWay" (some 2) with
  accessFlags := 49
  interfaces := #[]
  cf := some (fileOf pool20 23 #[] #[{ accessFlags := 1, nameIndex := 5, descriptorIndex := 120, attributes := #[] }] 49 2 #[] #[{ accessFlags := 18, nameIndex := 26, descriptorIndex := 27, attributes := #[] }, { accessFlags := 18, nameIndex := 30, descriptorIndex := 31, attributes := #[] }, { accessFlags := 18, nameIndex := 34, descriptorIndex := 35, attributes := #[] }, { accessFlags := 18, nameIndex := 38, descriptorIndex := 39, attributes := #[] }, { accessFlags := 18, nameIndex := 42, descriptorIndex := 43, attributes := #[] }, { accessFlags := 18, nameIndex := 46, descriptorIndex := 19, attributes := #[] }, { accessFlags := 26, nameIndex := 67, descriptorIndex := 68, attributes := #[] }])
  fields := #[{ name := "id", type := .long, accessFlags := 18, slot := 0, constantValue := 0 }, { name := "name", type := (.object "java/lang/String"), accessFlags := 18, slot := 1, constantValue := 0 }, { name := "streetClass", type := (.object "com/example/feedergen/feedergen/core/StreetClass"), accessFlags := 18, slot := 2, constantValue := 0 }, { name := "oneway", type := .boolean, accessFlags := 18, slot := 3, constantValue := 0 }, { name := "travel", type := (.object "com/example/feedergen/feedergen/core/TravelDirection"), accessFlags := 18, slot := 4, constantValue := 0 }, { name := "nodes", type := (.array .long), accessFlags := 18, slot := 5, constantValue := 0 }, { name := "CLOSED", type := (.object "java/util/Set"), accessFlags := 26, slot := 0, constantValue := 0 }]
  methods := #[k20m0]
  instanceTypes := #[.long, (.object "java/lang/String"), (.object "com/example/feedergen/feedergen/core/StreetClass"), .boolean, (.object "com/example/feedergen/feedergen/core/TravelDirection"), (.array .long)]
  staticTypes := #[(.object "java/util/Set")]
  resolved := Array.replicate 220 none
  statics := none }

def pool21 : Array CpInfo := pool [(1, .methodref 2 3), (0, .class_ 4), (0, .nameAndType 5 6), (0, u "java/lang/Record"), (0, u "<init>"), (0, u "()V"), (0, .interfaceMethodref 8 9), (0, .class_ 10), (0, .nameAndType 11 12), (0, u "java/util/List"), (0, u "size"), (0, u "()I"), (7, u "()J"), (7, .methodref 29 30), (0, .class_ 31), (0, .nameAndType 32 33), (0, u "[J"), (0, u "clone"), (0, u "()Ljava/lang/Object;"), (0, .interfaceMethodref 8 35), (0, .nameAndType 36 37), (0, u "copyOf"), (0, u "(Ljava/util/Collection;)Ljava/util/List;"), (0, .fieldref 39 40), (0, .class_ 41), (0, .nameAndType 42 43), (0, u "com/example/feedergen/feedergen/core/StreetLink"), (0, u "way"), (0, u "Lcom/example/feedergen/feedergen/core/StreetWay;"), (0, .fieldref 39 45), (0, .nameAndType 46 31), (0, u "nodes"), (0, .fieldref 39 48), (0, .nameAndType 49 50), (0, u "points"), (0, u "Ljava/util/List;"), (15, .class_ 68), (1, u "com/example/feedergen/feedergen/core/StreetLink$Middle"), (67, u "(Lcom/example/feedergen/feedergen/core/StreetWay;[JLjava/util/List;)V"), (6, u "last")] 40

def k21c0 : Code := { maxStack := 6, maxLocals := 4, code := prog_31_method_1_code, exceptionTable := #[], attributes := #[] }
def k21m0 : Method := { name := "<init>", desc := "(Lcom/example/feedergen/feedergen/core/StreetWay;[JLjava/util/List;)V", sig := { parameters := [(.object "com/example/feedergen/feedergen/core/StreetWay"), (.array .long), (.object "java/util/List")], returnType := none }, accessFlags := 1, code := some k21c0 }
def k21c1 : Code := { maxStack := 3, maxLocals := 1, code := prog_31_method_3_code, exceptionTable := #[], attributes := #[] }
def k21m1 : Method := { name := "last", desc := "()J", sig := { parameters := [], returnType := some .long }, accessFlags := 1, code := some k21c1 }
/-- com/example/feedergen/feedergen/core/StreetLink -/
def k21 : Class := { plain "com/example/feedergen/feedergen/core/StreetLink" (some 2) with
  accessFlags := 49
  interfaces := #[]
  cf := some (fileOf pool21 39 #[.nestMembers #[66]] #[{ accessFlags := 1, nameIndex := 5, descriptorIndex := 136, attributes := #[] }, { accessFlags := 1, nameIndex := 143, descriptorIndex := 20, attributes := #[] }] 49 2 #[] #[{ accessFlags := 18, nameIndex := 42, descriptorIndex := 43, attributes := #[] }, { accessFlags := 18, nameIndex := 46, descriptorIndex := 31, attributes := #[] }, { accessFlags := 18, nameIndex := 49, descriptorIndex := 50, attributes := #[] }])
  fields := #[{ name := "way", type := (.object "com/example/feedergen/feedergen/core/StreetWay"), accessFlags := 18, slot := 0, constantValue := 0 }, { name := "nodes", type := (.array .long), accessFlags := 18, slot := 1, constantValue := 0 }, { name := "points", type := (.object "java/util/List"), accessFlags := 18, slot := 2, constantValue := 0 }]
  methods := #[k21m0, k21m1]
  instanceTypes := #[(.object "com/example/feedergen/feedergen/core/StreetWay"), (.array .long), (.object "java/util/List")]
  staticTypes := #[]
  resolved := Array.replicate 184 none
  statics := none }

def pool22 : Array CpInfo := pool [(2, .class_ 4), (1, u "java/lang/Object"), (0, u "<init>"), (0, u "()V"), (3, .class_ 11), (0, u "java/util/ImmutableCollections$List12"), (0, .class_ 13), (0, u "java/util/ImmutableCollections$ListN"), (3, u "Z"), (0, .class_ 19), (0, u "java/util/List"), (0, .interfaceMethodref 21 22), (0, .class_ 23), (0, .nameAndType 24 25), (0, u "java/util/Collection"), (0, u "isEmpty"), (0, u "()Z"), (2, u "of"), (1, .interfaceMethodref 21 31), (0, .nameAndType 32 33), (0, u "toArray"), (0, u "()[Ljava/lang/Object;"), (0, .interfaceMethodref 18 35), (0, .nameAndType 28 36), (0, u "([Ljava/lang/Object;)Ljava/util/List;"), (0, .methodref 38 39), (0, .class_ 40), (0, .nameAndType 41 42), (0, u "java/util/Objects"), (0, u "requireNonNull"), (0, u "(Ljava/lang/Object;)Ljava/lang/Object;"), (0, .methodref 12 44), (0, .nameAndType 5 45), (0, u "([Ljava/lang/Object;Z)V"), (1, .class_ 49), (1, u "java/util/ImmutableCollections"), (0, u "$assertionsDisabled"), (5, u "[Ljava/lang/Object;"), (5, u "EMPTY_LIST"), (0, u "Ljava/util/ImmutableCollections$ListN;"), (8, u "EMPTY_LIST_NULLS"), (22, u "SALT32L"), (0, u "J"), (2, u "REVERSE"), (6, u "archivedObjects"), (2, u "EMPTY"), (0, u "Ljava/lang/Object;"), (0, .class_ 112), (0, u "java/util/ImmutableCollections$SetN"), (5, u "EMPTY_SET"), (0, u "Ljava/util/ImmutableCollections$SetN;"), (0, .class_ 121), (0, u "java/util/ImmutableCollections$MapN"), (3, u "EMPTY_MAP"), (0, u "Ljava/util/ImmutableCollections$MapN;"), (4, u "EXPAND_FACTOR"), (0, u "I"), (9, u "listCopy"), (0, u "(Ljava/util/Collection;)Ljava/util/List;"), (7, u "listFromArray"), (17, .class_ 170), (0, u "java/util/ImmutableCollections$MapN$MapNIterator"), (0, .class_ 172), (0, u "java/util/ImmutableCollections$MapN$1"), (0, .class_ 174), (0, u "java/util/ImmutableCollections$Map1"), (0, .class_ 176), (0, u "java/util/ImmutableCollections$AbstractImmutableMap"), (0, .class_ 178), (0, u "java/util/ImmutableCollections$SetN$SetNIterator"), (0, .class_ 180), (0, u "java/util/ImmutableCollections$Set12"), (0, .class_ 182), (0, u "java/util/ImmutableCollections$Set12$1"), (0, .class_ 184), (0, u "java/util/ImmutableCollections$AbstractImmutableSet"), (0, .class_ 186), (0, u "java/util/ImmutableCollections$SubList"), (0, .class_ 188), (0, u "java/util/ImmutableCollections$ListItr"), (0, .class_ 190), (0, u "java/util/ImmutableCollections$AbstractImmutableList"), (0, .class_ 192), (0, u "java/util/ImmutableCollections$AbstractImmutableCollection"), (0, .class_ 194), (0, u "java/util/ImmutableCollections$Access"), (0, .class_ 196), (0, u "java/util/ImmutableCollections$Access$1")] 16

def k22m0 : Method := { name := "<init>", desc := "()V", sig := { parameters := [], returnType := none }, accessFlags := 2, code := none }
def k22c1 : Code := { maxStack := 1, maxLocals := 2, code := jdk_56_method_3_code, exceptionTable := #[], attributes := #[] }
def k22m1 : Method := { name := "listCopy", desc := "(Ljava/util/Collection;)Ljava/util/List;", sig := { parameters := [(.object "java/util/Collection")], returnType := some (.object "java/util/List") }, accessFlags := 8, code := some k22c1 }
def k22c2 : Code := { maxStack := 4, maxLocals := 3, code := jdk_56_method_4_code, exceptionTable := #[], attributes := #[] }
def k22m2 : Method := { name := "listFromArray", desc := "([Ljava/lang/Object;)Ljava/util/List;", sig := { parameters := [(.array (.object "java/lang/Object"))], returnType := some (.object "java/util/List") }, accessFlags := 136, code := some k22c2 }
/-- java/util/ImmutableCollections -/
def k22 : Class := { plain "java/util/ImmutableCollections" (some 0) with
  accessFlags := 32
  interfaces := #[]
  cf := some (fileOf pool22 47 #[.nestMembers #[120, 169, 171, 173, 175, 111, 177, 179, 181, 183, 12, 10, 185, 187, 189, 191, 193, 195]] #[{ accessFlags := 2, nameIndex := 5, descriptorIndex := 6, attributes := #[] }, { accessFlags := 8, nameIndex := 142, descriptorIndex := 143, attributes := #[] }, { accessFlags := 136, nameIndex := 151, descriptorIndex := 36, attributes := #[] }] 32 2 #[] #[{ accessFlags := 26, nameIndex := 95, descriptorIndex := 96, attributes := #[] }, { accessFlags := 26, nameIndex := 99, descriptorIndex := 17, attributes := #[] }, { accessFlags := 10, nameIndex := 106, descriptorIndex := 56, attributes := #[] }, { accessFlags := 26, nameIndex := 109, descriptorIndex := 110, attributes := #[] }, { accessFlags := 24, nameIndex := 62, descriptorIndex := 63, attributes := #[] }, { accessFlags := 24, nameIndex := 72, descriptorIndex := 63, attributes := #[] }, { accessFlags := 24, nameIndex := 118, descriptorIndex := 119, attributes := #[] }, { accessFlags := 24, nameIndex := 125, descriptorIndex := 126, attributes := #[] }, { accessFlags := 24, nameIndex := 131, descriptorIndex := 132, attributes := #[] }, { accessFlags := 4120, nameIndex := 50, descriptorIndex := 17, attributes := #[] }])
  fields := #[{ name := "SALT32L", type := .long, accessFlags := 26, slot := 0, constantValue := 0 }, { name := "REVERSE", type := .boolean, accessFlags := 26, slot := 1, constantValue := 0 }, { name := "archivedObjects", type := (.array (.object "java/lang/Object")), accessFlags := 10, slot := 2, constantValue := 0 }, { name := "EMPTY", type := (.object "java/lang/Object"), accessFlags := 26, slot := 3, constantValue := 0 }, { name := "EMPTY_LIST", type := (.object "java/util/ImmutableCollections$ListN"), accessFlags := 24, slot := 4, constantValue := 0 }, { name := "EMPTY_LIST_NULLS", type := (.object "java/util/ImmutableCollections$ListN"), accessFlags := 24, slot := 5, constantValue := 0 }, { name := "EMPTY_SET", type := (.object "java/util/ImmutableCollections$SetN"), accessFlags := 24, slot := 6, constantValue := 0 }, { name := "EMPTY_MAP", type := (.object "java/util/ImmutableCollections$MapN"), accessFlags := 24, slot := 7, constantValue := 0 }, { name := "EXPAND_FACTOR", type := .int, accessFlags := 24, slot := 8, constantValue := 0 }, { name := "$assertionsDisabled", type := .boolean, accessFlags := 4120, slot := 9, constantValue := 0 }]
  methods := #[k22m0, k22m1, k22m2]
  instanceTypes := #[]
  staticTypes := #[.long, .boolean, (.array (.object "java/lang/Object")), (.object "java/lang/Object"), (.object "java/util/ImmutableCollections$ListN"), (.object "java/util/ImmutableCollections$ListN"), (.object "java/util/ImmutableCollections$SetN"), (.object "java/util/ImmutableCollections$MapN"), .int, .boolean]
  resolved := Array.replicate 213 none
  statics := none }

def pool23 : Array CpInfo := pool [(1, .methodref 2 3), (0, .class_ 4), (0, .nameAndType 5 6), (0, u "java/util/AbstractCollection"), (0, u "<init>"), (0, u "()V"), (1, .class_ 10), (1, u "java/util/ImmutableCollections"), (2, .class_ 14), (0, u "java/util/ImmutableCollections$AbstractImmutableCollection")] 41

def k23c0 : Code := { maxStack := 1, maxLocals := 1, code := jdk_47_method_1_code, exceptionTable := #[], attributes := #[] }
def k23m0 : Method := { name := "<init>", desc := "()V", sig := { parameters := [], returnType := none }, accessFlags := 0, code := some k23c0 }
/-- java/util/ImmutableCollections$AbstractImmutableCollection -/
def k23 : Class := { plain "java/util/ImmutableCollections$AbstractImmutableCollection" (some 12) with
  accessFlags := 1056
  interfaces := #[]
  cf := some (fileOf pool23 13 #[.nestHost 8] #[{ accessFlags := 0, nameIndex := 5, descriptorIndex := 6, attributes := #[] }] 1056 2 #[] #[])
  fields := #[]
  methods := #[k23m0]
  instanceTypes := #[]
  staticTypes := #[]
  resolved := Array.replicate 56 none
  statics := none }

def pool24 : Array CpInfo := pool [(1, .methodref 2 3), (0, .class_ 4), (0, .nameAndType 5 6), (0, u "java/util/ImmutableCollections$AbstractImmutableCollection"), (0, u "<init>"), (0, u "()V"), (1, .class_ 10), (1, u "java/util/ImmutableCollections"), (3, .class_ 16), (1, u "java/util/ImmutableCollections$AbstractImmutableList"), (60, .class_ 78), (0, u "java/util/List"), (45, .class_ 125), (0, u "java/util/RandomAccess")] 70

def k24c0 : Code := { maxStack := 1, maxLocals := 1, code := jdk_46_method_1_code, exceptionTable := #[], attributes := #[] }
def k24m0 : Method := { name := "<init>", desc := "()V", sig := { parameters := [], returnType := none }, accessFlags := 0, code := some k24c0 }
/-- java/util/ImmutableCollections$AbstractImmutableList -/
def k24 : Class := { plain "java/util/ImmutableCollections$AbstractImmutableList" (some 23) with
  accessFlags := 1056
  interfaces := #[14, 16]
  cf := some (fileOf pool24 14 #[.nestHost 8] #[{ accessFlags := 0, nameIndex := 5, descriptorIndex := 6, attributes := #[] }] 1056 2 #[77, 124] #[])
  fields := #[]
  methods := #[k24m0]
  instanceTypes := #[]
  staticTypes := #[]
  resolved := Array.replicate 196 none
  statics := none }

def pool25 : Array CpInfo := pool [(1, .methodref 2 3), (0, .class_ 4), (0, .nameAndType 5 6), (0, u "java/util/ImmutableCollections$AbstractImmutableList"), (0, u "<init>"), (0, u "()V"), (0, .methodref 8 9), (0, .class_ 10), (0, .nameAndType 11 12), (0, u "java/util/Objects"), (0, u "requireNonNull"), (0, u "(Ljava/lang/Object;)Ljava/lang/Object;"), (0, .fieldref 14 15), (0, .class_ 16), (0, .nameAndType 17 18), (0, u "java/util/ImmutableCollections$List12"), (0, u "e0"), (0, u "Ljava/lang/Object;"), (1, .class_ 22), (1, u "java/util/ImmutableCollections"), (1, .fieldref 14 25), (0, .nameAndType 26 18), (0, u "e1"), (43, .class_ 71), (0, u "java/io/Serializable"), (13, u "(Ljava/lang/Object;Ljava/lang/Object;)V")] 39

def k25c0 : Code := { maxStack := 2, maxLocals := 3, code := jdk_44_method_2_code, exceptionTable := #[], attributes := #[] }
def k25m0 : Method := { name := "<init>", desc := "(Ljava/lang/Object;Ljava/lang/Object;)V", sig := { parameters := [(.object "java/lang/Object"), (.object "java/lang/Object")], returnType := none }, accessFlags := 0, code := some k25c0 }
/-- java/util/ImmutableCollections$List12 -/
def k25 : Class := { plain "java/util/ImmutableCollections$List12" (some 24) with
  accessFlags := 48
  interfaces := #[4]
  cf := some (fileOf pool25 14 #[.nestHost 20] #[{ accessFlags := 0, nameIndex := 5, descriptorIndex := 85, attributes := #[] }] 48 2 #[70] #[{ accessFlags := 18, nameIndex := 17, descriptorIndex := 18, attributes := #[] }, { accessFlags := 18, nameIndex := 26, descriptorIndex := 18, attributes := #[] }])
  fields := #[{ name := "e0", type := (.object "java/lang/Object"), accessFlags := 18, slot := 0, constantValue := 0 }, { name := "e1", type := (.object "java/lang/Object"), accessFlags := 18, slot := 1, constantValue := 0 }]
  methods := #[k25m0]
  instanceTypes := #[(.object "java/lang/Object"), (.object "java/lang/Object")]
  staticTypes := #[]
  resolved := Array.replicate 125 none
  statics := none }

def pool26 : Array CpInfo := pool [(1, .methodref 2 3), (0, .class_ 4), (0, .nameAndType 5 6), (0, u "java/util/ImmutableCollections$AbstractImmutableList"), (0, u "<init>"), (0, u "()V"), (0, .fieldref 8 9), (0, .class_ 10), (0, .nameAndType 11 12), (0, u "java/util/ImmutableCollections$ListN"), (0, u "elements"), (0, u "[Ljava/lang/Object;"), (0, .fieldref 8 14), (0, .nameAndType 15 16), (0, u "allowNulls"), (0, u "Z"), (42, .class_ 60), (0, u "java/io/Serializable"), (4, u "([Ljava/lang/Object;Z)V"), (48, .class_ 115), (0, u "java/util/ImmutableCollections")] 3

def k26c0 : Code := { maxStack := 2, maxLocals := 3, code := jdk_45_method_1_code, exceptionTable := #[], attributes := #[] }
def k26m0 : Method := { name := "<init>", desc := "([Ljava/lang/Object;Z)V", sig := { parameters := [(.array (.object "java/lang/Object")), .boolean], returnType := none }, accessFlags := 2, code := some k26c0 }
/-- java/util/ImmutableCollections$ListN -/
def k26 : Class := { plain "java/util/ImmutableCollections$ListN" (some 24) with
  accessFlags := 48
  interfaces := #[4]
  cf := some (fileOf pool26 8 #[.nestHost 114] #[{ accessFlags := 2, nameIndex := 5, descriptorIndex := 65, attributes := #[] }] 48 2 #[59] #[{ accessFlags := 18, nameIndex := 11, descriptorIndex := 12, attributes := #[] }, { accessFlags := 18, nameIndex := 15, descriptorIndex := 16, attributes := #[] }])
  fields := #[{ name := "elements", type := (.array (.object "java/lang/Object")), accessFlags := 18, slot := 0, constantValue := 0 }, { name := "allowNulls", type := .boolean, accessFlags := 18, slot := 1, constantValue := 0 }]
  methods := #[k26m0]
  instanceTypes := #[(.array (.object "java/lang/Object")), .boolean]
  staticTypes := #[]
  resolved := Array.replicate 119 none
  statics := none }

def pool27 : Array CpInfo := pool [(2, .class_ 4), (1, u "java/lang/Object"), (0, u "<init>"), (0, u "()V"), (7, .class_ 16), (1, u "java/util/Arrays"), (57, .class_ 76), (1, u "java/util/Arrays$NaturalOrder"), (9, .methodref 2 87), (0, .nameAndType 88 89), (0, u "getClass"), (0, u "()Ljava/lang/Class;"), (20, .class_ 111), (0, u "[Ljava/lang/Object;"), (1, .class_ 115), (1, u "java/util/Arrays$LegacyMergeSort"), (1, u "Z"), (32, .methodref 151 152), (0, .class_ 153), (0, .nameAndType 154 155), (0, u "java/lang/System"), (0, u "arraycopy"), (0, u "(Ljava/lang/Object;ILjava/lang/Object;II)V"), (144, .methodref 14 301), (0, .nameAndType 302 303), (0, u "copyOf"), (0, u "([Ljava/lang/Object;ILjava/lang/Class;)[Ljava/lang/Object;"), (0, .methodref 305 306), (0, .class_ 307), (0, .nameAndType 308 309), (0, u "java/lang/Math"), (0, u "min"), (0, u "(II)I"), (65, .class_ 376), (0, u "java/util/Arrays$ArrayList"), (68, u "$assertionsDisabled"), (269, u "MIN_ARRAY_SORT_GRAN"), (0, u "I"), (2, u "INSERTIONSORT_THRESHOLD"), (140, u "([Ljava/lang/Object;I)[Ljava/lang/Object;"), (114, .class_ 976), (0, u "java/util/Arrays$ArrayItr")] 52

def k27m0 : Method := { name := "<init>", desc := "()V", sig := { parameters := [], returnType := none }, accessFlags := 2, code := none }
def k27c1 : Code := { maxStack := 3, maxLocals := 2, code := jdk_65_method_119_code, exceptionTable := #[], attributes := #[] }
def k27m1 : Method := { name := "copyOf", desc := "([Ljava/lang/Object;I)[Ljava/lang/Object;", sig := { parameters := [(.array (.object "java/lang/Object")), .int], returnType := some (.array (.object "java/lang/Object")) }, accessFlags := 9, code := some k27c1 }
def k27c2 : Code := { maxStack := 6, maxLocals := 4, code := jdk_65_method_120_code, exceptionTable := #[], attributes := #[] }
def k27m2 : Method := { name := "copyOf", desc := "([Ljava/lang/Object;ILjava/lang/Class;)[Ljava/lang/Object;", sig := { parameters := [(.array (.object "java/lang/Object")), .int, (.object "java/lang/Class")], returnType := some (.array (.object "java/lang/Object")) }, accessFlags := 9, code := some k27c2 }
/-- java/util/Arrays -/
def k27 : Class := { plain "java/util/Arrays" (some 0) with
  accessFlags := 49
  interfaces := #[]
  cf := some (fileOf pool27 14 #[.nestMembers #[975, 375, 113, 74]] #[{ accessFlags := 2, nameIndex := 5, descriptorIndex := 6, attributes := #[] }, { accessFlags := 9, nameIndex := 302, descriptorIndex := 860, attributes := #[] }, { accessFlags := 9, nameIndex := 302, descriptorIndex := 303, attributes := #[] }] 49 2 #[] #[{ accessFlags := 26, nameIndex := 715, descriptorIndex := 716, attributes := #[] }, { accessFlags := 26, nameIndex := 719, descriptorIndex := 716, attributes := #[] }, { accessFlags := 4120, nameIndex := 445, descriptorIndex := 117, attributes := #[] }])
  fields := #[{ name := "MIN_ARRAY_SORT_GRAN", type := .int, accessFlags := 26, slot := 0, constantValue := 0 }, { name := "INSERTIONSORT_THRESHOLD", type := .int, accessFlags := 26, slot := 1, constantValue := 0 }, { name := "$assertionsDisabled", type := .boolean, accessFlags := 4120, slot := 2, constantValue := 0 }]
  methods := #[k27m0, k27m1, k27m2]
  instanceTypes := #[]
  staticTypes := #[.int, .int, .boolean]
  resolved := Array.replicate 1029 none
  statics := none }

def pool28 : Array CpInfo := pool [(2, .class_ 4), (1, u "java/lang/Object"), (0, u "<init>"), (0, u "()V"), (1, .class_ 10), (1, u "java/lang/System"), (0, u "allowSecurityManager"), (0, u "I"), (16, u "cons"), (0, u "Ljava/io/Console;"), (77, .class_ 110), (1, u "java/lang/System$CallersHolder"), (43, u "initialErrStream"), (0, u "Ljava/io/PrintStream;"), (19, u "security"), (0, u "Ljava/lang/SecurityManager;"), (31, .class_ 209), (0, u "java/lang/System$1"), (7, u "props"), (0, u "Ljava/util/Properties;"), (2, u "lineSeparator"), (0, u "Ljava/lang/String;"), (96, .class_ 321), (1, u "java/lang/System$LoggerFinder"), (5, .class_ 328), (0, u "java/lang/System$Logger"), (67, u "err"), (2, u "out"), (91, u "notSupportedJnuEncoding"), (15, u "in"), (17, u "initialIn"), (0, u "Ljava/io/InputStream;"), (35, u "bootLayer"), (0, u "Ljava/lang/ModuleLayer;"), (99, .class_ 664), (0, u "java/lang/System$2"), (9, u "NEVER"), (2, u "MAYBE"), (49, u "arraycopy"), (0, u "(Ljava/lang/Object;ILjava/lang/Object;II)V"), (72, .class_ 802), (0, u "java/lang/System$Logger$Level")] 31

def k28m0 : Method := { name := "<init>", desc := "()V", sig := { parameters := [], returnType := none }, accessFlags := 2, code := none }
def k28m1 : Method := { name := "arraycopy", desc := "(Ljava/lang/Object;ILjava/lang/Object;II)V", sig := { parameters := [(.object "java/lang/Object"), .int, (.object "java/lang/Object"), .int, .int], returnType := none }, accessFlags := 265, code := none }
/-- java/lang/System -/
def k28 : Class := { plain "java/lang/System" (some 0) with
  accessFlags := 49
  interfaces := #[]
  cf := some (fileOf pool28 8 #[.nestMembers #[319, 327, 801, 108, 663, 208]] #[{ accessFlags := 2, nameIndex := 5, descriptorIndex := 6, attributes := #[] }, { accessFlags := 265, nameIndex := 727, descriptorIndex := 728, attributes := #[] }] 49 2 #[] #[{ accessFlags := 25, nameIndex := 507, descriptorIndex := 526, attributes := #[] }, { accessFlags := 25, nameIndex := 399, descriptorIndex := 155, attributes := #[] }, { accessFlags := 25, nameIndex := 396, descriptorIndex := 155, attributes := #[] }, { accessFlags := 10, nameIndex := 525, descriptorIndex := 526, attributes := #[] }, { accessFlags := 26, nameIndex := 674, descriptorIndex := 12, attributes := #[] }, { accessFlags := 26, nameIndex := 677, descriptorIndex := 12, attributes := #[] }, { accessFlags := 10, nameIndex := 11, descriptorIndex := 12, attributes := #[] }, { accessFlags := 74, nameIndex := 175, descriptorIndex := 176, attributes := #[] }, { accessFlags := 10, nameIndex := 491, descriptorIndex := 222, attributes := #[] }, { accessFlags := 74, nameIndex := 29, descriptorIndex := 30, attributes := #[] }, { accessFlags := 74, nameIndex := 154, descriptorIndex := 155, attributes := #[] }, { accessFlags := 10, nameIndex := 217, descriptorIndex := 218, attributes := #[] }, { accessFlags := 10, nameIndex := 221, descriptorIndex := 222, attributes := #[] }, { accessFlags := 8, nameIndex := 562, descriptorIndex := 563, attributes := #[] }])
  fields := #[{ name := "in", type := (.object "java/io/InputStream"), accessFlags := 25, slot := 0, constantValue := 0 }, { name := "out", type := (.object "java/io/PrintStream"), accessFlags := 25, slot := 1, constantValue := 0 }, { name := "err", type := (.object "java/io/PrintStream"), accessFlags := 25, slot := 2, constantValue := 0 }, { name := "initialIn", type := (.object "java/io/InputStream"), accessFlags := 10, slot := 3, constantValue := 0 }, { name := "NEVER", type := .int, accessFlags := 26, slot := 4, constantValue := 0 }, { name := "MAYBE", type := .int, accessFlags := 26, slot := 5, constantValue := 0 }, { name := "allowSecurityManager", type := .int, accessFlags := 10, slot := 6, constantValue := 0 }, { name := "security", type := (.object "java/lang/SecurityManager"), accessFlags := 74, slot := 7, constantValue := 0 }, { name := "notSupportedJnuEncoding", type := (.object "java/lang/String"), accessFlags := 10, slot := 8, constantValue := 0 }, { name := "cons", type := (.object "java/io/Console"), accessFlags := 74, slot := 9, constantValue := 0 }, { name := "initialErrStream", type := (.object "java/io/PrintStream"), accessFlags := 74, slot := 10, constantValue := 0 }, { name := "props", type := (.object "java/util/Properties"), accessFlags := 10, slot := 11, constantValue := 0 }, { name := "lineSeparator", type := (.object "java/lang/String"), accessFlags := 10, slot := 12, constantValue := 0 }, { name := "bootLayer", type := (.object "java/lang/ModuleLayer"), accessFlags := 8, slot := 13, constantValue := 0 }]
  methods := #[k28m0, k28m1]
  instanceTypes := #[]
  staticTypes := #[(.object "java/io/InputStream"), (.object "java/io/PrintStream"), (.object "java/io/PrintStream"), (.object "java/io/InputStream"), .int, .int, .int, (.object "java/lang/SecurityManager"), (.object "java/lang/String"), (.object "java/io/Console"), (.object "java/io/PrintStream"), (.object "java/util/Properties"), (.object "java/lang/String"), (.object "java/lang/ModuleLayer")]
  resolved := Array.replicate 834 none
  statics := none }

def pool29 : Array CpInfo := pool [(2, .class_ 4), (1, u "java/lang/Object"), (0, u "<init>"), (0, u "()V"), (35, .class_ 44), (1, u "java/util/Objects"), (0, u "requireNonNull"), (0, u "(Ljava/lang/Object;)Ljava/lang/Object;")] 137

def k29m0 : Method := { name := "<init>", desc := "()V", sig := { parameters := [], returnType := none }, accessFlags := 2, code := none }
def k29c1 : Code := { maxStack := 2, maxLocals := 1, code := jdk_31_method_10_code, exceptionTable := #[], attributes := #[] }
def k29m1 : Method := { name := "requireNonNull", desc := "(Ljava/lang/Object;)Ljava/lang/Object;", sig := { parameters := [(.object "java/lang/Object")], returnType := some (.object "java/lang/Object") }, accessFlags := 9, code := some k29c1 }
/-- java/util/Objects -/
def k29 : Class := { plain "java/util/Objects" (some 0) with
  accessFlags := 49
  interfaces := #[]
  cf := some (fileOf pool29 42 #[] #[{ accessFlags := 2, nameIndex := 5, descriptorIndex := 6, attributes := #[] }, { accessFlags := 9, nameIndex := 45, descriptorIndex := 46, attributes := #[] }] 49 2 #[] #[])
  fields := #[]
  methods := #[k29m0, k29m1]
  instanceTypes := #[]
  staticTypes := #[]
  resolved := Array.replicate 184 none
  statics := none }

def pool30 : Array CpInfo := pool [(1, .class_ 2), (0, u "java/lang/Class"), (0, .class_ 4), (0, u "java/lang/Object")] 0

/-- java/lang/Class -/
def k30 : Class := { plain "java/lang/Class" (some 0) with
  accessFlags := 49
  interfaces := #[]
  cf := some (fileOf pool30 1 #[] #[] 49 3 #[] #[])
  fields := #[]
  methods := #[]
  instanceTypes := #[]
  staticTypes := #[]
  resolved := Array.replicate 5 none
  statics := none }

/-- the primitive byte -/
def k31 : Class := { plain "byte" none with kind := .primitive 'B', accessFlags := 0x411 }
/-- [B -/
def k32 : Class := { plain "[B" (some 0) with kind := .array 31 .byte, interfaces := #[17, 4], accessFlags := 1041 }

/-- the primitive int -/
def k33 : Class := { plain "int" none with kind := .primitive 'I', accessFlags := 0x411 }
/-- [I -/
def k34 : Class := { plain "[I" (some 0) with kind := .array 33 .int, interfaces := #[17, 4], accessFlags := 1041 }

/-- the primitive long -/
def k35 : Class := { plain "long" none with kind := .primitive 'J', accessFlags := 0x411 }
/-- [J -/
def k36 : Class := { plain "[J" (some 0) with kind := .array 35 .long, interfaces := #[17, 4], accessFlags := 1041 }

/-- [Ljava/lang/Object; -/
def k37 : Class := { plain "[Ljava/lang/Object;" (some 0) with kind := .array 0 (.object "java/lang/Object"), interfaces := #[17, 4], accessFlags := 1041, mirror := some 1 }

def heap : Heap := #[{ cls := 18, slots := #[.long 0, .int 0, .ref 2, .ref 3], vm := .statics 18 },
  { cls := 30, slots := #[], vm := .mirror 37 },
  { cls := 37, slots := #[], vm := .none },
  { cls := 37, slots := #[], vm := .none }]
def classes : Array Class := #[k0, k1, k2, k3, k4, k5, k6, k7, k8, k9, k10, k11, k12, k13, k14, k15, k16, k17, k18, k19, k20, k21, k22, k23, k24, k25, k26, k27, k28, k29, k30, k31, k32, k33, k34, k35, k36, k37]
def interned : List (Array UInt16 × Addr) := []
def slotsUsed : Nat := 4
def theMethod : MethodId := ⟨1, 1⟩
def args0 : Array Value := #[.long 5, .long 6, .long 7, .long 8, .int 9]
def aboutOver (below : List Frame) : State where
  vm := { classes := classes, interned := interned.toArray }
  heap := heap
  slotsUsed := slotsUsed
  threads := #[{ frames := .invoking theMethod args0 :: below }]
def below0 : List Frame := [.native { method := ⟨0, 0⟩, args := #[] }]
def about1 : State := aboutOver below0
def p0 : Program := .bare "" "" ""
def e0 : Env := launch0.env 0 0 0
theorem w_frames : about1.frames = Frame.invoking theMethod args0 :: below0 := rfl
set_option maxRecDepth 65536 in
theorem w_args : argsFit about1.vm theMethod args0 = true := by decide +kernel
set_option maxRecDepth 65536 in
theorem w_heap : heapFits about1 = true := by decide +kernel
set_option maxRecDepth 65536 in
theorem w_runnable : about1.curStatus? = some .runnable := by decide +kernel
set_option maxRecDepth 65536 in
theorem w_alone : about1.alone = true := by decide +kernel
set_option maxRecDepth 65536 in
theorem w_named : about1.methodNamed? x = some theMethod := by decide +kernel
set_option maxRecDepth 65536 in
theorem w_hears : about1.hears theMethod below0 = true := by decide +kernel
set_option maxRecDepth 65536 in
theorem w_ripe : about1.ripe theMethod args0 below0 = true := by decide +kernel
theorem w_running : about1.status = .running := rfl
set_option maxRecDepth 65536 in
theorem w_room : about1.hasRoom e0.platform room_1 = true :=
  launch0.hasRoom_least _ room_1 (by decide +kernel) (by decide +kernel) (by decide +kernel) (by decide +kernel) (by decide +kernel) (by decide +kernel)
theorem allAtoms_all (ts : List Jvm.Cond) (a : Array Jvm.Value) (st : Jvm.State) : (allAtoms ts).before a st = ts.all (fun c => c.before a st) := by
  induction ts with
  | nil => rfl
  | cons c t ih =>
    show (Jvm.Cond.and c (allAtoms t)).before a st = _
    rw [Jvm.Cond.before_and, ih, List.all_cons]
def words1 : List Jvm.Cond := Jvm.Cond.code x code maxLocals ret :: tables_1
/-- a 'code' word, met by the world's own term for the bytes: nothing is compared byte by byte -/
theorem code_word {y : MethodName} {bytes : ByteArray} {mx : Nat} {rt : Option FieldType} {a : Array Value} {s : State} {m : MethodId} {meth : Method} {c : Code} (h1 : s.methodNamed? y = some m) (h2 : s.vm.method? m = some meth) (h3 : meth.code = some c) (h4 : c.code = bytes)
    (h5 : (c.maxLocals == mx && c.exceptionTable.isEmpty && decide (c.maxStack ≤ mostOperands) && decide (meth.sig.returnType = rt) && !meth.locks && decide (parseMethodDescriptor y.desc = some meth.sig)) = true) : (Jvm.Cond.code y bytes mx rt).before a s = true := by
  simp only [Bool.and_eq_true, beq_iff_eq, Bool.not_eq_true', decide_eq_true_eq] at h5
  obtain ⟨⟨⟨⟨⟨g1, g2⟩, g3⟩, g4⟩, g5⟩, g6⟩ := h5
  simp [Cond.before, Cond.holds, Cond.value, h1, h2, h3, h4, g1, g2, g3, g4, g5, g6]
def isCode : Jvm.Cond → Bool
  | .code _ _ _ _ => true
  | _ => false
theorem all_split {L : List Jvm.Cond} {P : Jvm.Cond → Bool} (h1 : L.all (fun c => isCode c || P c) = true) (h2 : ∀ c ∈ L.filter isCode, P c = true) : L.all P = true := by
  refine List.all_eq_true.mpr fun c hc => ?_
  have h := List.all_eq_true.mp h1 c hc
  rcases Bool.eq_false_or_eq_true (isCode c) with hi | hi
  · exact h2 c (List.mem_filter.mpr ⟨hc, hi⟩)
  · simpa [hi] using h
set_option maxRecDepth 65536 in
theorem w_c0 : (Jvm.Cond.code x code maxLocals ret).before args0 about1 = true := code_word (m := ⟨1, 1⟩) (meth := k1m1) (c := k1c1) (by decide +kernel) rfl rfl rfl (by decide +kernel)
set_option maxRecDepth 65536 in
theorem w_c1 : (Jvm.Cond.code ({ cls := "com/example/feedergen/feedergen/core/GeoPoint", name := "<init>", desc := "(DD)V" } : Jvm.MethodName) prog_10_method_1_code (5 : Nat) (Option.none : Option Jvm.ClassFile.FieldType)).before args0 about1 = true := code_word (m := ⟨3, 0⟩) (meth := k3m0) (c := k3c0) (by decide +kernel) rfl rfl rfl (by decide +kernel)
set_option maxRecDepth 65536 in
theorem w_c2 : (Jvm.Cond.code ({ cls := "java/lang/Record", name := "<init>", desc := "()V" } : Jvm.MethodName) jdk_30_method_1_code (1 : Nat) (Option.none : Option Jvm.ClassFile.FieldType)).before args0 about1 = true := code_word (m := ⟨2, 0⟩) (meth := k2m0) (c := k2c0) (by decide +kernel) rfl rfl rfl (by decide +kernel)
set_option maxRecDepth 65536 in
theorem w_c3 : (Jvm.Cond.code ({ cls := "java/lang/Object", name := "<init>", desc := "()V" } : Jvm.MethodName) object_method_1_code (1 : Nat) (Option.none : Option Jvm.ClassFile.FieldType)).before args0 about1 = true := code_word (m := ⟨0, 0⟩) (meth := k0m0) (c := k0c0) (by decide +kernel) rfl rfl rfl (by decide +kernel)
set_option maxRecDepth 65536 in
theorem w_c4 : (Jvm.Cond.code ({ cls := "java/lang/Double", name := "isNaN", desc := "(D)Z" } : Jvm.MethodName) jdk_117_method_6_code (2 : Nat) (Option.some Jvm.ClassFile.FieldType.boolean)).before args0 about1 = true := code_word (m := ⟨9, 0⟩) (meth := k9m0) (c := k9c0) (by decide +kernel) rfl rfl rfl (by decide +kernel)
set_option maxRecDepth 65536 in
theorem w_c5 : (Jvm.Cond.code ({ cls := "java/util/ArrayList", name := "<init>", desc := "()V" } : Jvm.MethodName) jdk_38_method_2_code (1 : Nat) (Option.none : Option Jvm.ClassFile.FieldType)).before args0 about1 = true := code_word (m := ⟨18, 0⟩) (meth := k18m0) (c := k18c0) (by decide +kernel) rfl rfl rfl (by decide +kernel)
set_option maxRecDepth 65536 in
theorem w_c6 : (Jvm.Cond.code ({ cls := "java/util/AbstractList", name := "<init>", desc := "()V" } : Jvm.MethodName) jdk_39_method_1_code (1 : Nat) (Option.none : Option Jvm.ClassFile.FieldType)).before args0 about1 = true := code_word (m := ⟨15, 0⟩) (meth := k15m0) (c := k15c0) (by decide +kernel) rfl rfl rfl (by decide +kernel)
set_option maxRecDepth 65536 in
theorem w_c7 : (Jvm.Cond.code ({ cls := "java/util/AbstractCollection", name := "<init>", desc := "()V" } : Jvm.MethodName) jdk_22_method_1_code (1 : Nat) (Option.none : Option Jvm.ClassFile.FieldType)).before args0 about1 = true := code_word (m := ⟨12, 0⟩) (meth := k12m0) (c := k12c0) (by decide +kernel) rfl rfl rfl (by decide +kernel)
set_option maxRecDepth 65536 in
theorem w_c8 : (Jvm.Cond.code ({ cls := "java/util/ArrayList", name := "add", desc := "(Ljava/lang/Object;)Z" } : Jvm.MethodName) jdk_38_method_25_code (2 : Nat) (Option.some Jvm.ClassFile.FieldType.boolean)).before args0 about1 = true := code_word (m := ⟨18, 7⟩) (meth := k18m7) (c := k18c7) (by decide +kernel) rfl rfl rfl (by decide +kernel)
set_option maxRecDepth 65536 in
theorem w_c9 : (Jvm.Cond.code ({ cls := "java/util/ArrayList", name := "add", desc := "(Ljava/lang/Object;[Ljava/lang/Object;I)V" } : Jvm.MethodName) jdk_38_method_24_code (4 : Nat) (Option.none : Option Jvm.ClassFile.FieldType)).before args0 about1 = true := code_word (m := ⟨18, 6⟩) (meth := k18m6) (c := k18c6) (by decide +kernel) rfl rfl rfl (by decide +kernel)
set_option maxRecDepth 65536 in
theorem w_c10 : (Jvm.Cond.code ({ cls := "java/util/ArrayList", name := "grow", desc := "()[Ljava/lang/Object;" } : Jvm.MethodName) jdk_38_method_7_code (1 : Nat) (Option.some (Jvm.ClassFile.FieldType.array (Jvm.ClassFile.FieldType.object "java/lang/Object")))).before args0 about1 = true := code_word (m := ⟨18, 2⟩) (meth := k18m2) (c := k18c2) (by decide +kernel) rfl rfl rfl (by decide +kernel)
set_option maxRecDepth 65536 in
theorem w_c11 : (Jvm.Cond.code ({ cls := "java/util/ArrayList", name := "grow", desc := "(I)[Ljava/lang/Object;" } : Jvm.MethodName) jdk_38_method_6_code (4 : Nat) (Option.some (Jvm.ClassFile.FieldType.array (Jvm.ClassFile.FieldType.object "java/lang/Object")))).before args0 about1 = true := code_word (m := ⟨18, 1⟩) (meth := k18m1) (c := k18c1) (by decide +kernel) rfl rfl rfl (by decide +kernel)
set_option maxRecDepth 65536 in
theorem w_c12 : (Jvm.Cond.code ({ cls := "java/lang/Math", name := "max", desc := "(II)I" } : Jvm.MethodName) jdk_29_method_65_code (2 : Nat) (Option.some Jvm.ClassFile.FieldType.int)).before args0 about1 = true := code_word (m := ⟨19, 1⟩) (meth := k19m1) (c := k19c1) (by decide +kernel) rfl rfl rfl (by decide +kernel)
set_option maxRecDepth 65536 in
theorem w_c13 : (Jvm.Cond.code ({ cls := "com/example/feedergen/feedergen/core/StreetWay", name := "<init>", desc := "(JLjava/lang/String;Lcom/example/feedergen/feedergen/core/StreetClass;ZLcom/example/feedergen/feedergen/core/TravelDirection;[J)V" } : Jvm.MethodName) prog_35_method_1_code (8 : Nat) (Option.none : Option Jvm.ClassFile.FieldType)).before args0 about1 = true := code_word (m := ⟨20, 0⟩) (meth := k20m0) (c := k20c0) (by decide +kernel) rfl rfl rfl (by decide +kernel)
set_option maxRecDepth 65536 in
theorem w_c14 : (Jvm.Cond.code ({ cls := "com/example/feedergen/feedergen/core/StreetLink", name := "<init>", desc := "(Lcom/example/feedergen/feedergen/core/StreetWay;[JLjava/util/List;)V" } : Jvm.MethodName) prog_31_method_1_code (4 : Nat) (Option.none : Option Jvm.ClassFile.FieldType)).before args0 about1 = true := code_word (m := ⟨21, 0⟩) (meth := k21m0) (c := k21c0) (by decide +kernel) rfl rfl rfl (by decide +kernel)
set_option maxRecDepth 65536 in
theorem w_c15 : (Jvm.Cond.code ({ cls := "java/util/ArrayList", name := "size", desc := "()I" } : Jvm.MethodName) jdk_38_method_8_code (1 : Nat) (Option.some Jvm.ClassFile.FieldType.int)).before args0 about1 = true := code_word (m := ⟨18, 3⟩) (meth := k18m3) (c := k18c3) (by decide +kernel) rfl rfl rfl (by decide +kernel)
set_option maxRecDepth 65536 in
theorem w_c16 : (Jvm.Cond.code ({ cls := "java/util/List", name := "copyOf", desc := "(Ljava/util/Collection;)Ljava/util/List;" } : Jvm.MethodName) jdk_40_method_48_code (1 : Nat) (Option.some (Jvm.ClassFile.FieldType.object "java/util/List"))).before args0 about1 = true := code_word (m := ⟨14, 2⟩) (meth := k14m2) (c := k14c2) (by decide +kernel) rfl rfl rfl (by decide +kernel)
set_option maxRecDepth 65536 in
theorem w_c17 : (Jvm.Cond.code ({ cls := "java/util/ImmutableCollections", name := "listCopy", desc := "(Ljava/util/Collection;)Ljava/util/List;" } : Jvm.MethodName) jdk_56_method_3_code (2 : Nat) (Option.some (Jvm.ClassFile.FieldType.object "java/util/List"))).before args0 about1 = true := code_word (m := ⟨22, 1⟩) (meth := k22m1) (c := k22c1) (by decide +kernel) rfl rfl rfl (by decide +kernel)
set_option maxRecDepth 65536 in
theorem w_c18 : (Jvm.Cond.code ({ cls := "java/util/ArrayList", name := "isEmpty", desc := "()Z" } : Jvm.MethodName) jdk_38_method_9_code (1 : Nat) (Option.some Jvm.ClassFile.FieldType.boolean)).before args0 about1 = true := code_word (m := ⟨18, 4⟩) (meth := k18m4) (c := k18c4) (by decide +kernel) rfl rfl rfl (by decide +kernel)
set_option maxRecDepth 65536 in
theorem w_c19 : (Jvm.Cond.code ({ cls := "java/util/ArrayList", name := "toArray", desc := "()[Ljava/lang/Object;" } : Jvm.MethodName) jdk_38_method_16_code (1 : Nat) (Option.some (Jvm.ClassFile.FieldType.array (Jvm.ClassFile.FieldType.object "java/lang/Object")))).before args0 about1 = true := code_word (m := ⟨18, 5⟩) (meth := k18m5) (c := k18c5) (by decide +kernel) rfl rfl rfl (by decide +kernel)
set_option maxRecDepth 65536 in
theorem w_c20 : (Jvm.Cond.code ({ cls := "java/util/Arrays", name := "copyOf", desc := "([Ljava/lang/Object;I)[Ljava/lang/Object;" } : Jvm.MethodName) jdk_65_method_119_code (2 : Nat) (Option.some (Jvm.ClassFile.FieldType.array (Jvm.ClassFile.FieldType.object "java/lang/Object")))).before args0 about1 = true := code_word (m := ⟨27, 1⟩) (meth := k27m1) (c := k27c1) (by decide +kernel) rfl rfl rfl (by decide +kernel)
set_option maxRecDepth 65536 in
theorem w_c21 : (Jvm.Cond.code ({ cls := "java/util/Arrays", name := "copyOf", desc := "([Ljava/lang/Object;ILjava/lang/Class;)[Ljava/lang/Object;" } : Jvm.MethodName) jdk_65_method_120_code (4 : Nat) (Option.some (Jvm.ClassFile.FieldType.array (Jvm.ClassFile.FieldType.object "java/lang/Object")))).before args0 about1 = true := code_word (m := ⟨27, 2⟩) (meth := k27m2) (c := k27c2) (by decide +kernel) rfl rfl rfl (by decide +kernel)
set_option maxRecDepth 65536 in
theorem w_c22 : (Jvm.Cond.code ({ cls := "java/lang/Math", name := "min", desc := "(II)I" } : Jvm.MethodName) jdk_29_method_69_code (2 : Nat) (Option.some Jvm.ClassFile.FieldType.int)).before args0 about1 = true := code_word (m := ⟨19, 2⟩) (meth := k19m2) (c := k19c2) (by decide +kernel) rfl rfl rfl (by decide +kernel)
set_option maxRecDepth 65536 in
theorem w_c23 : (Jvm.Cond.code ({ cls := "java/util/List", name := "of", desc := "([Ljava/lang/Object;)Ljava/util/List;" } : Jvm.MethodName) jdk_40_method_47_code (2 : Nat) (Option.some (Jvm.ClassFile.FieldType.object "java/util/List"))).before args0 about1 = true := code_word (m := ⟨14, 1⟩) (meth := k14m1) (c := k14c1) (by decide +kernel) rfl rfl rfl (by decide +kernel)
set_option maxRecDepth 65536 in
theorem w_c24 : (Jvm.Cond.code ({ cls := "java/util/ImmutableCollections$List12", name := "<init>", desc := "(Ljava/lang/Object;Ljava/lang/Object;)V" } : Jvm.MethodName) jdk_44_method_2_code (3 : Nat) (Option.none : Option Jvm.ClassFile.FieldType)).before args0 about1 = true := code_word (m := ⟨25, 0⟩) (meth := k25m0) (c := k25c0) (by decide +kernel) rfl rfl rfl (by decide +kernel)
set_option maxRecDepth 65536 in
theorem w_c25 : (Jvm.Cond.code ({ cls := "java/util/ImmutableCollections$AbstractImmutableList", name := "<init>", desc := "()V" } : Jvm.MethodName) jdk_46_method_1_code (1 : Nat) (Option.none : Option Jvm.ClassFile.FieldType)).before args0 about1 = true := code_word (m := ⟨24, 0⟩) (meth := k24m0) (c := k24c0) (by decide +kernel) rfl rfl rfl (by decide +kernel)
set_option maxRecDepth 65536 in
theorem w_c26 : (Jvm.Cond.code ({ cls := "java/util/ImmutableCollections$AbstractImmutableCollection", name := "<init>", desc := "()V" } : Jvm.MethodName) jdk_47_method_1_code (1 : Nat) (Option.none : Option Jvm.ClassFile.FieldType)).before args0 about1 = true := code_word (m := ⟨23, 0⟩) (meth := k23m0) (c := k23c0) (by decide +kernel) rfl rfl rfl (by decide +kernel)
set_option maxRecDepth 65536 in
theorem w_c27 : (Jvm.Cond.code ({ cls := "java/util/Objects", name := "requireNonNull", desc := "(Ljava/lang/Object;)Ljava/lang/Object;" } : Jvm.MethodName) jdk_31_method_10_code (1 : Nat) (Option.some (Jvm.ClassFile.FieldType.object "java/lang/Object"))).before args0 about1 = true := code_word (m := ⟨29, 1⟩) (meth := k29m1) (c := k29c1) (by decide +kernel) rfl rfl rfl (by decide +kernel)
set_option maxRecDepth 65536 in
theorem w_c28 : (Jvm.Cond.code ({ cls := "com/example/feedergen/feedergen/core/StreetLink", name := "last", desc := "()J" } : Jvm.MethodName) prog_31_method_3_code (1 : Nat) (Option.some Jvm.ClassFile.FieldType.long)).before args0 about1 = true := code_word (m := ⟨21, 1⟩) (meth := k21m1) (c := k21c1) (by decide +kernel) rfl rfl rfl (by decide +kernel)
set_option maxRecDepth 65536 in
theorem w_c29 : (Jvm.Cond.code ({ cls := "java/util/ImmutableCollections", name := "listFromArray", desc := "([Ljava/lang/Object;)Ljava/util/List;" } : Jvm.MethodName) jdk_56_method_4_code (3 : Nat) (Option.some (Jvm.ClassFile.FieldType.object "java/util/List"))).before args0 about1 = true := code_word (m := ⟨22, 2⟩) (meth := k22m2) (c := k22c2) (by decide +kernel) rfl rfl rfl (by decide +kernel)
set_option maxRecDepth 65536 in
theorem w_c30 : (Jvm.Cond.code ({ cls := "java/util/ImmutableCollections$ListN", name := "<init>", desc := "([Ljava/lang/Object;Z)V" } : Jvm.MethodName) jdk_45_method_1_code (3 : Nat) (Option.none : Option Jvm.ClassFile.FieldType)).before args0 about1 = true := code_word (m := ⟨26, 0⟩) (meth := k26m0) (c := k26c0) (by decide +kernel) rfl rfl rfl (by decide +kernel)
def codes1 : List Jvm.Cond := [Jvm.Cond.code x code maxLocals ret, Jvm.Cond.code ({ cls := "com/example/feedergen/feedergen/core/GeoPoint", name := "<init>", desc := "(DD)V" } : Jvm.MethodName) prog_10_method_1_code (5 : Nat) (Option.none : Option Jvm.ClassFile.FieldType), Jvm.Cond.code ({ cls := "java/lang/Record", name := "<init>", desc := "()V" } : Jvm.MethodName) jdk_30_method_1_code (1 : Nat) (Option.none : Option Jvm.ClassFile.FieldType), Jvm.Cond.code ({ cls := "java/lang/Object", name := "<init>", desc := "()V" } : Jvm.MethodName) object_method_1_code (1 : Nat) (Option.none : Option Jvm.ClassFile.FieldType), Jvm.Cond.code ({ cls := "java/lang/Double", name := "isNaN", desc := "(D)Z" } : Jvm.MethodName) jdk_117_method_6_code (2 : Nat) (Option.some Jvm.ClassFile.FieldType.boolean), Jvm.Cond.code ({ cls := "java/util/ArrayList", name := "<init>", desc := "()V" } : Jvm.MethodName) jdk_38_method_2_code (1 : Nat) (Option.none : Option Jvm.ClassFile.FieldType), Jvm.Cond.code ({ cls := "java/util/AbstractList", name := "<init>", desc := "()V" } : Jvm.MethodName) jdk_39_method_1_code (1 : Nat) (Option.none : Option Jvm.ClassFile.FieldType), Jvm.Cond.code ({ cls := "java/util/AbstractCollection", name := "<init>", desc := "()V" } : Jvm.MethodName) jdk_22_method_1_code (1 : Nat) (Option.none : Option Jvm.ClassFile.FieldType), Jvm.Cond.code ({ cls := "java/util/ArrayList", name := "add", desc := "(Ljava/lang/Object;)Z" } : Jvm.MethodName) jdk_38_method_25_code (2 : Nat) (Option.some Jvm.ClassFile.FieldType.boolean), Jvm.Cond.code ({ cls := "java/util/ArrayList", name := "add", desc := "(Ljava/lang/Object;[Ljava/lang/Object;I)V" } : Jvm.MethodName) jdk_38_method_24_code (4 : Nat) (Option.none : Option Jvm.ClassFile.FieldType), Jvm.Cond.code ({ cls := "java/util/ArrayList", name := "grow", desc := "()[Ljava/lang/Object;" } : Jvm.MethodName) jdk_38_method_7_code (1 : Nat) (Option.some (Jvm.ClassFile.FieldType.array (Jvm.ClassFile.FieldType.object "java/lang/Object"))), Jvm.Cond.code ({ cls := "java/util/ArrayList", name := "grow", desc := "(I)[Ljava/lang/Object;" } : Jvm.MethodName) jdk_38_method_6_code (4 : Nat) (Option.some (Jvm.ClassFile.FieldType.array (Jvm.ClassFile.FieldType.object "java/lang/Object"))), Jvm.Cond.code ({ cls := "java/lang/Math", name := "max", desc := "(II)I" } : Jvm.MethodName) jdk_29_method_65_code (2 : Nat) (Option.some Jvm.ClassFile.FieldType.int), Jvm.Cond.code ({ cls := "com/example/feedergen/feedergen/core/StreetWay", name := "<init>", desc := "(JLjava/lang/String;Lcom/example/feedergen/feedergen/core/StreetClass;ZLcom/example/feedergen/feedergen/core/TravelDirection;[J)V" } : Jvm.MethodName) prog_35_method_1_code (8 : Nat) (Option.none : Option Jvm.ClassFile.FieldType), Jvm.Cond.code ({ cls := "com/example/feedergen/feedergen/core/StreetLink", name := "<init>", desc := "(Lcom/example/feedergen/feedergen/core/StreetWay;[JLjava/util/List;)V" } : Jvm.MethodName) prog_31_method_1_code (4 : Nat) (Option.none : Option Jvm.ClassFile.FieldType), Jvm.Cond.code ({ cls := "java/util/ArrayList", name := "size", desc := "()I" } : Jvm.MethodName) jdk_38_method_8_code (1 : Nat) (Option.some Jvm.ClassFile.FieldType.int), Jvm.Cond.code ({ cls := "java/util/List", name := "copyOf", desc := "(Ljava/util/Collection;)Ljava/util/List;" } : Jvm.MethodName) jdk_40_method_48_code (1 : Nat) (Option.some (Jvm.ClassFile.FieldType.object "java/util/List")), Jvm.Cond.code ({ cls := "java/util/ImmutableCollections", name := "listCopy", desc := "(Ljava/util/Collection;)Ljava/util/List;" } : Jvm.MethodName) jdk_56_method_3_code (2 : Nat) (Option.some (Jvm.ClassFile.FieldType.object "java/util/List")), Jvm.Cond.code ({ cls := "java/util/ArrayList", name := "isEmpty", desc := "()Z" } : Jvm.MethodName) jdk_38_method_9_code (1 : Nat) (Option.some Jvm.ClassFile.FieldType.boolean), Jvm.Cond.code ({ cls := "java/util/ArrayList", name := "toArray", desc := "()[Ljava/lang/Object;" } : Jvm.MethodName) jdk_38_method_16_code (1 : Nat) (Option.some (Jvm.ClassFile.FieldType.array (Jvm.ClassFile.FieldType.object "java/lang/Object"))), Jvm.Cond.code ({ cls := "java/util/Arrays", name := "copyOf", desc := "([Ljava/lang/Object;I)[Ljava/lang/Object;" } : Jvm.MethodName) jdk_65_method_119_code (2 : Nat) (Option.some (Jvm.ClassFile.FieldType.array (Jvm.ClassFile.FieldType.object "java/lang/Object"))), Jvm.Cond.code ({ cls := "java/util/Arrays", name := "copyOf", desc := "([Ljava/lang/Object;ILjava/lang/Class;)[Ljava/lang/Object;" } : Jvm.MethodName) jdk_65_method_120_code (4 : Nat) (Option.some (Jvm.ClassFile.FieldType.array (Jvm.ClassFile.FieldType.object "java/lang/Object"))), Jvm.Cond.code ({ cls := "java/lang/Math", name := "min", desc := "(II)I" } : Jvm.MethodName) jdk_29_method_69_code (2 : Nat) (Option.some Jvm.ClassFile.FieldType.int), Jvm.Cond.code ({ cls := "java/util/List", name := "of", desc := "([Ljava/lang/Object;)Ljava/util/List;" } : Jvm.MethodName) jdk_40_method_47_code (2 : Nat) (Option.some (Jvm.ClassFile.FieldType.object "java/util/List")), Jvm.Cond.code ({ cls := "java/util/ImmutableCollections$List12", name := "<init>", desc := "(Ljava/lang/Object;Ljava/lang/Object;)V" } : Jvm.MethodName) jdk_44_method_2_code (3 : Nat) (Option.none : Option Jvm.ClassFile.FieldType), Jvm.Cond.code ({ cls := "java/util/ImmutableCollections$AbstractImmutableList", name := "<init>", desc := "()V" } : Jvm.MethodName) jdk_46_method_1_code (1 : Nat) (Option.none : Option Jvm.ClassFile.FieldType), Jvm.Cond.code ({ cls := "java/util/ImmutableCollections$AbstractImmutableCollection", name := "<init>", desc := "()V" } : Jvm.MethodName) jdk_47_method_1_code (1 : Nat) (Option.none : Option Jvm.ClassFile.FieldType), Jvm.Cond.code ({ cls := "java/util/Objects", name := "requireNonNull", desc := "(Ljava/lang/Object;)Ljava/lang/Object;" } : Jvm.MethodName) jdk_31_method_10_code (1 : Nat) (Option.some (Jvm.ClassFile.FieldType.object "java/lang/Object")), Jvm.Cond.code ({ cls := "com/example/feedergen/feedergen/core/StreetLink", name := "last", desc := "()J" } : Jvm.MethodName) prog_31_method_3_code (1 : Nat) (Option.some Jvm.ClassFile.FieldType.long), Jvm.Cond.code ({ cls := "java/util/ImmutableCollections", name := "listFromArray", desc := "([Ljava/lang/Object;)Ljava/util/List;" } : Jvm.MethodName) jdk_56_method_4_code (3 : Nat) (Option.some (Jvm.ClassFile.FieldType.object "java/util/List")), Jvm.Cond.code ({ cls := "java/util/ImmutableCollections$ListN", name := "<init>", desc := "([Ljava/lang/Object;Z)V" } : Jvm.MethodName) jdk_45_method_1_code (3 : Nat) (Option.none : Option Jvm.ClassFile.FieldType)]
set_option maxRecDepth 65536 in
theorem codes_eq : words1.filter isCode = codes1 := rfl
theorem w_codes : ∀ c ∈ words1.filter isCode, c.before args0 about1 = true := by
  rw [codes_eq]
  intro c hc
  simp only [codes1, List.mem_cons, List.not_mem_nil, or_false] at hc
  rcases hc with rfl | rfl | rfl | rfl | rfl | rfl | rfl | rfl | rfl | rfl | rfl | rfl | rfl | rfl | rfl | rfl | rfl | rfl | rfl | rfl | rfl | rfl | rfl | rfl | rfl | rfl | rfl | rfl | rfl | rfl | rfl
  · exact w_c0
  · exact w_c1
  · exact w_c2
  · exact w_c3
  · exact w_c4
  · exact w_c5
  · exact w_c6
  · exact w_c7
  · exact w_c8
  · exact w_c9
  · exact w_c10
  · exact w_c11
  · exact w_c12
  · exact w_c13
  · exact w_c14
  · exact w_c15
  · exact w_c16
  · exact w_c17
  · exact w_c18
  · exact w_c19
  · exact w_c20
  · exact w_c21
  · exact w_c22
  · exact w_c23
  · exact w_c24
  · exact w_c25
  · exact w_c26
  · exact w_c27
  · exact w_c28
  · exact w_c29
  · exact w_c30
set_option maxRecDepth 65536 in
theorem w_t1 : (words1.take 24).all (fun c => isCode c || c.before args0 about1) = true := by decide +kernel
set_option maxRecDepth 65536 in
theorem w_t2 : ((words1.drop 24).take 24).all (fun c => isCode c || c.before args0 about1) = true := by decide +kernel
set_option maxRecDepth 65536 in
theorem w_t3 : (((words1.drop 24).drop 24).take 24).all (fun c => isCode c || c.before args0 about1) = true := by decide +kernel
set_option maxRecDepth 65536 in
theorem w_t4 : ((((words1.drop 24).drop 24).drop 24).take 24).all (fun c => isCode c || c.before args0 about1) = true := by decide +kernel
set_option maxRecDepth 65536 in
theorem w_t5 : (((((words1.drop 24).drop 24).drop 24).drop 24).take 24).all (fun c => isCode c || c.before args0 about1) = true := by decide +kernel
set_option maxRecDepth 65536 in
theorem w_t6 : ((((((words1.drop 24).drop 24).drop 24).drop 24).drop 24).take 24).all (fun c => isCode c || c.before args0 about1) = true := by decide +kernel
set_option maxRecDepth 65536 in
theorem w_t7 : (((((((words1.drop 24).drop 24).drop 24).drop 24).drop 24).drop 24).take 24).all (fun c => isCode c || c.before args0 about1) = true := by decide +kernel
set_option maxRecDepth 65536 in
theorem w_t8 : ((((((((words1.drop 24).drop 24).drop 24).drop 24).drop 24).drop 24).drop 24).take 24).all (fun c => isCode c || c.before args0 about1) = true := by decide +kernel
set_option maxRecDepth 65536 in
theorem w_t9 : (((((((((words1.drop 24).drop 24).drop 24).drop 24).drop 24).drop 24).drop 24).drop 24).take 24).all (fun c => isCode c || c.before args0 about1) = true := by decide +kernel
set_option maxRecDepth 65536 in
theorem w_t10 : ((((((((((words1.drop 24).drop 24).drop 24).drop 24).drop 24).drop 24).drop 24).drop 24).drop 24).take 24).all (fun c => isCode c || c.before args0 about1) = true := by decide +kernel
set_option maxRecDepth 65536 in
theorem w_t11 : ((((((((((words1.drop 24).drop 24).drop 24).drop 24).drop 24).drop 24).drop 24).drop 24).drop 24).drop 24).all (fun c => isCode c || c.before args0 about1) = true := by decide +kernel
theorem w_tables : (allAtoms (Jvm.Cond.code x code maxLocals ret :: tables_1)).before args0 about1 = true := by
  rw [allAtoms_all]
  show words1.all (fun c => c.before args0 about1) = true
  refine all_split ?_ w_codes
  rw [← List.take_append_drop 24 words1, List.all_append, w_t1, ← List.take_append_drop 24 (words1.drop 24), List.all_append, w_t2, ← List.take_append_drop 24 ((words1.drop 24).drop 24), List.all_append, w_t3, ← List.take_append_drop 24 (((words1.drop 24).drop 24).drop 24), List.all_append, w_t4, ← List.take_append_drop 24 ((((words1.drop 24).drop 24).drop 24).drop 24), List.all_append, w_t5, ← List.take_append_drop 24 (((((words1.drop 24).drop 24).drop 24).drop 24).drop 24), List.all_append, w_t6, ← List.take_append_drop 24 ((((((words1.drop 24).drop 24).drop 24).drop 24).drop 24).drop 24), List.all_append, w_t7, ← List.take_append_drop 24 (((((((words1.drop 24).drop 24).drop 24).drop 24).drop 24).drop 24).drop 24), List.all_append, w_t8, ← List.take_append_drop 24 ((((((((words1.drop 24).drop 24).drop 24).drop 24).drop 24).drop 24).drop 24).drop 24), List.all_append, w_t9, ← List.take_append_drop 24 (((((((((words1.drop 24).drop 24).drop 24).drop 24).drop 24).drop 24).drop 24).drop 24).drop 24), List.all_append, w_t10, w_t11]
  rfl
set_option maxRecDepth 65536 in
theorem w_rest : rest_1_c.before args0 about1 = true := by decide +kernel
set_option maxRecDepth 65536 in
theorem w_case : (Jvm.Cond.and given_1 narrow_1).before args0 about1 = true := by decide +kernel
theorem w_applies : (headSpec (Jvm.Cond.code x code maxLocals ret :: tables_1) room_1).applies x e0.platform about1 = true :=
  (Spec.applies_iff w_frames).mpr ⟨w_running, w_runnable, w_alone, w_named, w_hears, w_ripe, w_room, w_tables⟩
theorem atStart : AtStart classFile x code maxLocals ret World_1 tables_1 room_1 Calls_1 rest_1 Pre_1 launch0 p0 e0 about1 theMethod args0 below0 :=
  ⟨lists_1, trivial, launch0.admits_env _ _ _, launch0.least_env, fairChoices_fair.cas, fairChoices_fair.clock, w_frames, w_args, w_heap, w_applies, ⟨⟨37, k37, 1, by decide +kernel, rfl, rfl, _, rfl, rfl⟩, trivial⟩, w_rest, w_case⟩
end start1
theorem witness_1 : WitnessClaimed_1 := ⟨start1.p0, start1.e0, start1.about1, start1.theMethod, start1.args0, start1.below0, start1.atStart⟩
end Jvm.Pilot.@@N@@
