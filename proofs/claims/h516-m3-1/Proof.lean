import JvmDerived
import JvmDerived.Pilot.@@N@@Statement
import JvmDerived.Pilot.@@N@@Code
set_option linter.unusedVariables false
set_option linter.unusedSimpArgs false
set_option maxRecDepth 65536
set_option maxHeartbeats 40000000
namespace Jvm.RoadKit
open Sem ClassFile Op Lib Jvm.Stand Jvm.Free Jvm.LawKit
section New
variable {p : Program} {l : Launch} {e : Env} {R : Room} {s : State} {m : MethodId} {args : Array Value} {below : List Frame} {meth : Method} {c : Code} {T : State} {locs : List Loc} {cells slots : Nat}
theorem retI (X : Stand p l e R s m args below meth c T locs cells slots) (hx : p.tables.exec = Jvm.exec) {pc : Nat} {Ls : Array Slot} {z : Int32} {rest : List Value} (hret : meth.sig.returnType = some .int) (hd : decode c.code pc = .ok (.ireturn, 1)) {fs : List Frame}
    (hl : ∀ (f : JFrame) (acts : List Action), f.method = m → f.locked = none → f.entered = [] → (doReturn e (T.setTop f) acts (some (.int z))).1 = T.setFrames fs) : Steps p.tables e below (T.setTop (mkF m pc Ls (.int z :: rest))) (T.setFrames fs) := by
  have hm' : T.vm.method? m = some meth := X.method'
  have hn : narrow .int (.int z) = .int z := rfl
  show Steps p.tables e below (T.setTop { method := m, pc := pc, locals := Ls, stack := _ :: rest, locked := none }) _
  jvm_step X.here [X.here.top, hx, hd, hm', hret, hn]
  first | (intro acts; rw [hl _ acts rfl rfl rfl]) | rw [hl _ _ rfl rfl rfl]
  exact Steps.refl _
end New
/-- a body's contract, written short -/
abbrev OwnMet (l : Launch) (Z : State) (y : MethodName) (bytes : ByteArray) (maxL : Nat) (ret : Option FieldType) (ws : List Cond) (rm : Room) (as' : Array Value) (h0 : Heap) (Q : Option Value → Heap → List Loc → Prop) : Prop :=
  MetFree l y (head1 (Cond.code y bytes maxL ret :: ws) rm) (fun a U => a = as' ∧ Z.Warmed39 U.vm ∧ U.heap = h0) (fun _ _ _ _ _ => True) (fun _ U o U' => ∃ v L, o = .returned v ∧ Q v U'.heap L ∧ FrameEnd U o U' L rm.cells rm.slots)
theorem own_body {l : Launch} {Z : State} {y : MethodName} {bytes : ByteArray} {maxL : Nat} {ret : Option FieldType} {ws : List Cond} {rm : Room} {as' : Array Value} {h0 : Heap} {Q : Option Value → Heap → List Loc → Prop} {L0 : Array Slot} (hp : plainFor y = true) (hef : ∀ m, entryFrame m as' maxL = mkF m 0 L0 [])
    (k : ∀ (p : Program) (e : Env) (s : State) (m : MethodId) (below : List Frame) (meth : Method) (c : Code) (s₁ : State), p.tables.exec = Jvm.exec → c.code = bytes → c.maxLocals = maxL → s.vm.findClass y.cls = some m.cls → meth.name = y.name → meth.sig.returnType = ret → Z.Warmed39 s.vm → Stand p l e rm s m as' below meth c s₁ [] 0 0 → s₁.heap = h0 →
      ∃ (T : State) (L : List Loc) (ce sl : Nat) (v : Option Value), Stand p l e rm s m as' below meth c T L ce sl ∧ (ret = none → v = none) ∧ ce ≤ rm.cells ∧ sl ≤ rm.slots ∧ Q v T.heap L ∧
        ∀ fs, (∀ (f : JFrame) (acts : List Action), f.method = m → f.locked = none → f.entered = [] → (doReturn e (T.setTop f) acts v).1 = T.setFrames fs) → Steps p.tables e below (s₁.setTop (mkF m 0 L0 [])) (T.setFrames fs)) :
    OwnMet l Z y bytes maxL ret ws rm as' h0 Q := by
  refine MetFree.of_bodySF hp hisR ?_
  intro p e s m args below meth c s₁ Bd hml hP hK
  obtain ⟨hargs, hZ, hh⟩ := hP
  subst hargs
  obtain ⟨T, L, ce, sl, v, X, hv, hc, hs, hq, st⟩ := k p e s m below meth c s₁ Bd.exec Bd.bytes hml (findClass_of_methodNamed Bd.named) (name_of_methodNamed Bd.named Bd.method).1 Bd.returns hZ (Stand.of_body Bd) (by rw [← hh, Bd.state]; rfl)
  obtain ⟨fs, hr, hrun, hended, hW, hsame⟩ := X.leave (v := v) (fun h => hv (Bd.returns ▸ h))
  exact ⟨_, _, castTop (hef m) (st fs hr), hrun, hended, v, L, rfl, hq, ⟨_, rfl⟩, hW, hsame.mono hc hs⟩
section Calls
variable {p : Program} {l : Launch} {e : Env} {R : Room} {s : State} {m : MethodId} {args : Array Value} {below : List Frame} {meth : Method} {c : Code} {T : State} {locs : List Loc} {cells slots : Nat} {Z : State} {a0 : Array Value} {h : Heap}
  {own : String} {index : Nat} {y z : MethodName} {bytes : ByteArray} {maxL : Nat} {ret : Option FieldType} {rm : Room} {as' : Array Value} {Q : Option Value → Heap → List Loc → Prop} {pc : Nat} {Ls : Array Slot} {argsL rest : List Value} {W : Nat}
/-- what a call leaves -/
abbrev OwnCame (p : Program) (l : Launch) (e : Env) (R : Room) (s : State) (m : MethodId) (args : Array Value) (below : List Frame) (meth : Method) (c : Code) (T : State) (locs : List Loc) (cells slots : Nat) (rm : Room) (Q : Option Value → Heap → List Loc → Prop) (pc pc' : Nat) (Ls : Array Slot) (st rest : List Value) : Prop :=
  ∃ (v : Option Value) (T' : State) (L : List Loc), Stand p l e R s m args below meth c T' (locs ++ L) (cells + rm.cells) (slots + rm.slots) ∧ Q v T'.heap L ∧
    ∀ target, Steps p.tables e below (T'.setTop (mkF m pc' Ls (v.toList ++ rest))) target → Steps p.tables e below (T.setTop (mkF m pc Ls st)) target
theorem own_callS (X : Stand p l e R s m args below meth c T locs cells slots) (hx : p.tables.exec = Jvm.exec) (hZ : Z.Warmed39 s.vm) (hown : s.vm.findClass own = some m.cls)
    (w1 : (Cond.methodLink own index y).before a0 Z = true) (w2 : (Cond.static y).before a0 Z = true) (w3 : (Cond.initialized y.cls).before a0 Z = true) (w4 : (Cond.code y bytes maxL ret).before a0 Z = true)
    (hM : OwnMet l Z y bytes maxL ret [] rm as' h Q) (eT : T.heap = h) (hsize : Ls.size = c.maxLocals) (hlen : ∀ sig, parseMethodDescriptor y.desc = some sig → argsL.length = sig.parameters.length) (hd : decode c.code pc = .ok (.invokestatic index, 3))
    (has : argsL.toArray = as' := by rfl) (hW : (rest.map fun v => v.category).sum ≤ W := by exact Nat.le_of_eq rfl) (hf : rm.frames + 1 ≤ R.frames := by decide) (hl : W + (maxL + 11) + rm.locals ≤ R.locals := by decide) (hc : cells + rm.cells ≤ R.cells := by decide) (hs : slots + rm.slots ≤ R.slots := by decide) (hy : y.cls ≠ "java/lang/invoke/MethodHandle" ∧ y.cls ≠ "java/lang/invoke/VarHandle" := by decide) :
    OwnCame p l e R s m args below meth c T locs cells slots rm Q pc (pc + 3) Ls (argsL.reverse ++ rest) rest := by
  obtain ⟨v, vm1, ⟨T', L', c', n'⟩, -, XB, ⟨L, hQ, l1, y1, z1⟩, st⟩ := Jvm.LawKit.callS X hx (y := y) hown (mvT hZ w1) (mvT hZ w2) (mvT hZ w3) (mvT hZ w4) hy (backOf (W := W) hM hZ w4 w3 hf hl) (g := mkF m pc Ls (argsL.reverse ++ rest)) rfl hsize (argsL := argsL) (rest := rest) hlen rfl (by show 2 * 0 + _ ≤ _; omega) hd (fun _ _ => ⟨has, eT, hc, hs⟩)
  dsimp only at XB l1 y1 z1 st hQ
  subst l1 y1 z1
  exact ⟨v, T', L, XB, hQ, st⟩
theorem own_special (X : Stand p l e R s m args below meth c T locs cells slots) (hx : p.tables.exec = Jvm.exec) (hZ : Z.Warmed39 s.vm) (hown : s.vm.findClass own = some m.cls) {a : Addr}
    (w1 : (Cond.methodLink own index y).before a0 Z = true) (w2 : (Cond.instanceMethod y).before a0 Z = true) (w3 : (Cond.initialized y.cls).before a0 Z = true) (w4 : (Cond.code y bytes maxL none).before a0 Z = true)
    (hM : OwnMet l Z y bytes maxL none [] rm as' h Q) (eT : T.heap = h) (hsize : Ls.size = c.maxLocals) (hlen : ∀ sig, parseMethodDescriptor y.desc = some sig → argsL.length = sig.parameters.length) (hd : decode c.code pc = .ok (.invokespecial index, 3))
    (has : (.ref a :: argsL).toArray = as' := by rfl) (hW : (rest.map fun v => v.category).sum ≤ W := by exact Nat.le_of_eq rfl) (hf : rm.frames + 1 ≤ R.frames := by decide) (hl : W + (maxL + 11) + rm.locals ≤ R.locals := by decide) (hc : cells + rm.cells ≤ R.cells := by decide) (hs : slots + rm.slots ≤ R.slots := by decide) (hy : y.cls ≠ "java/lang/invoke/MethodHandle" ∧ y.cls ≠ "java/lang/invoke/VarHandle" := by decide) (hy1 : y.name = "<init>" := by rfl) :
    OwnCame p l e R s m args below meth c T locs cells slots rm Q pc (pc + 3) Ls (argsL.reverse ++ .ref a :: rest) rest := by
  obtain ⟨v, vm1, ⟨T', L', c', n'⟩, -, XB, ⟨L, hQ, l1, y1, z1⟩, st⟩ := X.specialBack hx (y := y) hy1 hown (mvT hZ w1) (mvT hZ w2) (mvT hZ w4) hy (backOf (W := W) hM hZ w4 w3 hf hl) (g := mkF m pc Ls (argsL.reverse ++ .ref a :: rest)) rfl hsize (Steps.refl _) (a := a) (argsL := argsL) (rest := rest) hlen rfl (by show 2 * 0 + _ ≤ _; omega) hd (fun _ _ => ⟨has, eT, hc, hs⟩)
  dsimp only at XB l1 y1 z1 st hQ
  subst l1 y1 z1
  exact ⟨v, T', L, XB, hQ, fun t k => st.trans k⟩
theorem own_virtual (X : Stand p l e R s m args below meth c T locs cells slots) (hx : p.tables.exec = Jvm.exec) (hZ : Z.Warmed39 s.vm) (hown : s.vm.findClass own = some m.cls) {a : Addr} {C : String} (E : Exa Z h a C)
    (w1 : (Cond.methodLink own index y).before a0 Z = true) (w2 : (Cond.declares y).before a0 Z = true) (nf : NotFace s y) (w5 : (Cond.selects C y z).before a0 Z = true) (w6 : (Cond.instanceMethod z).before a0 Z = true) (w3 : (Cond.initialized z.cls).before a0 Z = true) (w4 : (Cond.code z bytes maxL ret).before a0 Z = true)
    (hM : OwnMet l Z z bytes maxL ret [] rm as' h Q) (eT : T.heap = h) (hsize : Ls.size = c.maxLocals) (hlen : ∀ sig, parseMethodDescriptor y.desc = some sig → argsL.length = sig.parameters.length) (hd : decode c.code pc = .ok (.invokevirtual index, 3))
    (has : (.ref a :: argsL).toArray = as' := by rfl) (hW : (rest.map fun v => v.category).sum ≤ W := by exact Nat.le_of_eq rfl) (hf : rm.frames + 1 ≤ R.frames := by decide) (hl : W + (maxL + 11) + rm.locals ≤ R.locals := by decide) (hc : cells + rm.cells ≤ R.cells := by decide) (hs : slots + rm.slots ≤ R.slots := by decide) (hy : y.cls ≠ "java/lang/invoke/MethodHandle" ∧ y.cls ≠ "java/lang/invoke/VarHandle" := by decide) :
    OwnCame p l e R s m args below meth c T locs cells slots rm Q pc (pc + 3) Ls (argsL.reverse ++ .ref a :: rest) rest := by
  obtain ⟨cB, kB, i1, -, i3⟩ := isOf hZ eT E
  obtain ⟨v, vm1, ⟨T', L', c', n'⟩, -, XB, ⟨L, hQ, l1, y1, z1⟩, st⟩ := X.virtualBack hx (y := y) (z := z) hown (mvT hZ w1) (mvT hZ w2) nf (mvT hZ w5) (mvT hZ w6) hy (backOf (W := W) hM hZ w4 w3 hf hl) i1 i3 (g := mkF m pc Ls (argsL.reverse ++ .ref a :: rest)) rfl hsize (Steps.refl _) (argsL := argsL) (rest := rest) hlen rfl (by show 2 * 0 + _ ≤ _; omega) hd (fun _ _ => ⟨has, eT, hc, hs⟩)
  dsimp only at XB l1 y1 z1 st hQ
  subst l1 y1 z1
  exact ⟨v, T', L, XB, hQ, fun t k => st.trans k⟩
theorem own_virtualUp (X : Stand p l e R s m args below meth c T locs cells slots) (hx : p.tables.exec = Jvm.exec) (hZ : Z.Warmed39 s.vm) (hown : s.vm.findClass own = some m.cls) {a : Addr} {C owner : String} (E : Exa Z h a C)
    (w1 : (Cond.methodLink own index y).before a0 Z = true) (w7 : (Cond.sameMethod y.cls owner y.name y.desc).before a0 Z = true) (w2 : (Cond.declares ⟨owner, y.name, y.desc⟩).before a0 Z = true) (w5 : (Cond.selects C y z).before a0 Z = true) (w6 : (Cond.instanceMethod z).before a0 Z = true) (w3 : (Cond.initialized z.cls).before a0 Z = true) (w4 : (Cond.code z bytes maxL ret).before a0 Z = true)
    (hM : OwnMet l Z z bytes maxL ret [] rm as' h Q) (eT : T.heap = h) (hsize : Ls.size = c.maxLocals) (hlen : ∀ sig, parseMethodDescriptor y.desc = some sig → argsL.length = sig.parameters.length) (hd : decode c.code pc = .ok (.invokevirtual index, 3))
    (has : (.ref a :: argsL).toArray = as' := by rfl) (hW : (rest.map fun v => v.category).sum ≤ W := by exact Nat.le_of_eq rfl) (hf : rm.frames + 1 ≤ R.frames := by decide) (hl : W + (maxL + 11) + rm.locals ≤ R.locals := by decide) (hc : cells + rm.cells ≤ R.cells := by decide) (hs : slots + rm.slots ≤ R.slots := by decide) (hy : owner ≠ "java/lang/invoke/MethodHandle" ∧ owner ≠ "java/lang/invoke/VarHandle" := by decide) :
    OwnCame p l e R s m args below meth c T locs cells slots rm Q pc (pc + 3) Ls (argsL.reverse ++ .ref a :: rest) rest := by
  obtain ⟨cB, kB, i1, -, i3⟩ := isOf hZ eT E
  obtain ⟨v, vm1, ⟨T', L', c', n'⟩, -, XB, ⟨L, hQ, l1, y1, z1⟩, st⟩ := X.virtualBackUp hx (x := y) (y := z) (owner := owner) hown (mvT hZ w1) (mvT hZ w7) (mvT hZ w2) hy (mvT hZ w5) (mvT hZ w6) (backOf (W := W) hM hZ w4 w3 hf hl) i1 i3 (g := mkF m pc Ls (argsL.reverse ++ .ref a :: rest)) rfl hsize (Steps.refl _) (argsL := argsL) (rest := rest) hlen rfl (by show 2 * 0 + _ ≤ _; omega) hd (fun _ _ => ⟨has, eT, hc, hs⟩)
  dsimp only at XB l1 y1 z1 st hQ
  subst l1 y1 z1
  exact ⟨v, T', L, XB, hQ, fun t k => st.trans k⟩
theorem own_private (X : Stand p l e R s m args below meth c T locs cells slots) (hx : p.tables.exec = Jvm.exec) (hZ : Z.Warmed39 s.vm) (hown : s.vm.findClass own = some m.cls) {a : Addr} {C : String} (E : Exa Z h a C)
    (w1 : (Cond.methodLink own index y).before a0 Z = true) (w2 : (Cond.instanceMethod y).before a0 Z = true) (w5 : (Cond.selects y.cls y y).before args s = true) (w6 : (Cond.privateMethod y).before a0 Z = true) (w3 : (Cond.initialized y.cls).before a0 Z = true) (w4 : (Cond.code y bytes maxL ret).before a0 Z = true)
    (hM : OwnMet l Z y bytes maxL ret [] rm as' h Q) (eT : T.heap = h) (hsize : Ls.size = c.maxLocals) (hlen : ∀ sig, parseMethodDescriptor y.desc = some sig → argsL.length = sig.parameters.length) (hd : decode c.code pc = .ok (.invokevirtual index, 3))
    (has : (.ref a :: argsL).toArray = as' := by rfl) (hW : (rest.map fun v => v.category).sum ≤ W := by exact Nat.le_of_eq rfl) (hf : rm.frames + 1 ≤ R.frames := by decide) (hl : W + (maxL + 11) + rm.locals ≤ R.locals := by decide) (hc : cells + rm.cells ≤ R.cells := by decide) (hs : slots + rm.slots ≤ R.slots := by decide) (hy : y.cls ≠ "java/lang/invoke/MethodHandle" ∧ y.cls ≠ "java/lang/invoke/VarHandle" := by decide) :
    OwnCame p l e R s m args below meth c T locs cells slots rm Q pc (pc + 3) Ls (argsL.reverse ++ .ref a :: rest) rest := by
  obtain ⟨cq, q1, q2⟩ := E.cell
  obtain ⟨v, vm1, ⟨T', L', c', n'⟩, -, XB, ⟨L, hQ, l1, y1, z1⟩, st⟩ := X.privateBack hx (y := y) hown (mvT hZ w1) (mvT hZ w2) w5 (Cond.privateMethod_at (mvP hZ w6 (args := #[]))) (mvT hZ w4) hy (backOf (W := W) hM hZ w4 w3 hf hl) (g := mkF m pc Ls (argsL.reverse ++ .ref a :: rest)) rfl hsize (Steps.refl _) (a := a) (by rw [eT]; exact q1) q2 (argsL := argsL) (rest := rest) hlen rfl (by show 2 * 0 + _ ≤ _; omega) hd (fun _ _ => ⟨has, eT, hc, hs⟩)
  dsimp only at XB l1 y1 z1 st hQ
  subst l1 y1 z1
  exact ⟨v, T', L, XB, hQ, fun t k => st.trans k⟩
theorem own_iface (X : Stand p l e R s m args below meth c T locs cells slots) (hx : p.tables.exec = Jvm.exec) (hZ : Z.Warmed39 s.vm) (hown : s.vm.findClass own = some m.cls) {a : Addr} {C : String} {count : Nat} (E : Exa Z h a C)
    (w1 : (Cond.methodLink own index y).before a0 Z = true) (w2 : (Cond.declares y).before a0 Z = true) (w7 : (Cond.interfaceMethod y.cls y.cls y.name y.desc).before a0 Z = true) (w5 : (Cond.selects C y z).before a0 Z = true) (w6 : (Cond.instanceMethod z).before a0 Z = true) (w8 : (Cond.publicMethod z).before a0 Z = true) (w9 : (Cond.unhidden C y.name y.desc).before a0 Z = true) (wc : (Cond.castable C y.cls).before a0 Z = true) (w3 : (Cond.initialized z.cls).before a0 Z = true) (w4 : (Cond.code z bytes maxL ret).before a0 Z = true)
    (hM : OwnMet l Z z bytes maxL ret [] rm as' h Q) (eT : T.heap = h) (hsize : Ls.size = c.maxLocals) (hlen : ∀ sig, parseMethodDescriptor y.desc = some sig → argsL.length = sig.parameters.length) (hd : decode c.code pc = .ok (.invokeinterface index count, 5))
    (has : (.ref a :: argsL).toArray = as' := by rfl) (hW : (rest.map fun v => v.category).sum ≤ W := by exact Nat.le_of_eq rfl) (hf : rm.frames + 1 ≤ R.frames := by decide) (hl : W + (maxL + 11) + rm.locals ≤ R.locals := by decide) (hc : cells + rm.cells ≤ R.cells := by decide) (hs : slots + rm.slots ≤ R.slots := by decide) (hy : y.cls ≠ "java/lang/invoke/MethodHandle" ∧ y.cls ≠ "java/lang/invoke/VarHandle" := by decide) :
    OwnCame p l e R s m args below meth c T locs cells slots rm Q pc (pc + 5) Ls (argsL.reverse ++ .ref a :: rest) rest := by
  obtain ⟨cB, kB, i1, i2, i3⟩ := isOf hZ eT E
  obtain ⟨v, vm1, ⟨T', L', c', n'⟩, -, XB, ⟨L, hQ, l1, y1, z1⟩, st⟩ := X.interfaceBack hx (xi := y) (y := z) hown (mvT hZ w1) (mvT hZ w2) (mvT hZ w7 (by simp [Cond.onTables, Cond.keepsFace, Cond.keeps, Cond.steady, Cond.faceAtom, hy.1, hy.2])) (mvT hZ w5) (mvT hZ w6) (mvT hZ w8) (mvT hZ w9) (mvT hZ wc) hy (backOf (W := W) hM hZ w4 w3 hf hl) i1 i2 i3 (g := mkF m pc Ls (argsL.reverse ++ .ref a :: rest)) rfl hsize (Steps.refl _) (argsL := argsL) (rest := rest) hlen rfl (by show 2 * 0 + _ ≤ _; omega) hd (fun _ _ => ⟨has, eT, hc, hs⟩)
  dsimp only at XB l1 y1 z1 st hQ
  subst l1 y1 z1
  exact ⟨v, T', L, XB, hQ, fun t k => st.trans k⟩
theorem own_specialNest (X : Stand p l e R s m args below meth c T locs cells slots) (hx : p.tables.exec = Jvm.exec) (hZ : Z.Warmed39 s.vm) (hown : s.vm.findClass own = some m.cls) {a : Addr} {host : String}
    (w1 : (Cond.methodLinkNest own index y host).before args s = true) (w2 : (Cond.instanceMethod y).before a0 Z = true) (w3 : (Cond.initialized y.cls).before a0 Z = true) (w4 : (Cond.code y bytes maxL none).before a0 Z = true)
    (hM : OwnMet l Z y bytes maxL none [] rm as' h Q) (eT : T.heap = h) (hsize : Ls.size = c.maxLocals) (hlen : ∀ sig, parseMethodDescriptor y.desc = some sig → argsL.length = sig.parameters.length) (hd : decode c.code pc = .ok (.invokespecial index, 3))
    (has : (.ref a :: argsL).toArray = as' := by rfl) (hW : (rest.map fun v => v.category).sum ≤ W := by exact Nat.le_of_eq rfl) (hf : rm.frames + 1 ≤ R.frames := by decide) (hl : W + (maxL + 11) + rm.locals ≤ R.locals := by decide) (hc : cells + rm.cells ≤ R.cells := by decide) (hs : slots + rm.slots ≤ R.slots := by decide) (hy : y.cls ≠ "java/lang/invoke/MethodHandle" ∧ y.cls ≠ "java/lang/invoke/VarHandle" := by decide) (hy1 : y.name = "<init>" := by rfl) :
    OwnCame p l e R s m args below meth c T locs cells slots rm Q pc (pc + 3) Ls (argsL.reverse ++ .ref a :: rest) rest := by
  obtain ⟨v, vm1, ⟨T', L', c', n'⟩, -, XB, ⟨L, hQ, l1, y1, z1⟩, st⟩ := X.specialBackNest hx (y := y) hy1 hown w1 (mvT hZ w2) (mvT hZ w4) hy (backOf (W := W) hM hZ w4 w3 hf hl) (g := mkF m pc Ls (argsL.reverse ++ .ref a :: rest)) rfl hsize (Steps.refl _) (a := a) (argsL := argsL) (rest := rest) hlen rfl (by show 2 * 0 + _ ≤ _; omega) hd (fun _ _ => ⟨has, eT, hc, hs⟩)
  dsimp only at XB l1 y1 z1 st hQ
  subst l1 y1 z1
  exact ⟨v, T', L, XB, hQ, fun t k => st.trans k⟩
end Calls
theorem own_narR {v : Value} (h : v.isRef = true) {t : FieldType} (ht : t.isReference = true := by rfl) : narrow t v = v := by
  rcases ref_cases h with rfl | ⟨a, rfl⟩ <;> cases t <;> first | rfl | cases ht
theorem own_fitR {v : Value} (h : v.isRef = true) {t : FieldType} (ht : t.isReference = true := by rfl) : fits t v = true := by
  rcases ref_cases h with rfl | ⟨a, rfl⟩ <;> cases t <;> first | rfl | cases ht
theorem own_catR {v : Value} (h : v.isRef = true) : v.category = 1 := by rcases ref_cases h with rfl | ⟨a, rfl⟩ <;> rfl
theorem own_arv_of_arh {Z : State} {h : Heap} {a : Addr} {k : ClassId} {ty : FieldType} {z : Int32} {vs : List Value} {dv : Value} (F : Arh Z h a k ty z [] vs dv) : Arv Z h a k ty z vs dv := by
  obtain ⟨c, A, q, S, N, H, G⟩ := F
  exact ⟨c, A, q, S, N, H, G⟩
theorem own_getD_all (j : Nat) (d : Value) : ∀ n, (List.replicate n d).getD j d = d := by
  intro n
  simp only [List.getD_eq_getElem?_getD, List.getElem?_replicate]
  split <;> rfl
theorem own_c_nar_char (x : Int32) : ((nar .char x).toInt - x.toInt) % 65536 = 0 ∧ 0 ≤ (nar .char x).toInt ∧ (nar .char x).toInt < 65536 := c_i2c x
theorem own_c_nar_byte (x : Int32) : ((nar .byte x).toInt - x.toInt) % 256 = 0 ∧ -128 ≤ (nar .byte x).toInt ∧ (nar .byte x).toInt < 128 := c_i2b x
theorem own_mask (x m : Int32) (k : Nat) (hk : k ≤ 31) (hm : m.toBitVec.toNat = 2 ^ k - 1) (P : Int) (hP : ((2 ^ k : Nat) : Int) = P) : (x &&& m).toInt = x.toInt % P := by rw [← hP]; exact c_mask x m k hk hm
theorem own_maskL (x m : Int64) (k : Nat) (hk : k ≤ 63) (hm : m.toBitVec.toNat = 2 ^ k - 1) (P : Int) (hP : ((2 ^ k : Nat) : Int) = P) : (x &&& m).toInt = x.toInt % P := by rw [← hP]; exact c_maskL x m k hk hm
theorem own_ushr (x q : Int32) (k : Nat) (hk : q.toBitVec.toNat % 32 = k) (h0 : 0 < k) (P : Int) (hP : ((2 ^ k : Nat) : Int) = P) : ((x.toUInt32 >>> (q &&& 31).toUInt32).toInt32).toInt = (x.toInt % 4294967296) / P := by rw [← hP]; exact c_iushr x q k hk h0
theorem own_shr (x q : Int32) (k : Nat) (hk : q.toBitVec.toNat % 32 = k) (P : Int) (hP : ((2 ^ k : Nat) : Int) = P) : (x >>> (q &&& 31)).toInt = x.toInt / P := by rw [← hP]; exact c_ishr x q k hk
theorem own_irem_eq (x y : Int32) : x - (x / y) * y = x % y := by
  have h : (x - (x / y) * y).toInt = (x % y).toInt := by
    rw [Int32.toInt_sub, Int32.toInt_mul, Int32.toInt_mod, Int32.toInt_div, Int.bmod_mul_bmod, Int.sub_bmod_bmod]
    have hx := x.le_toInt; have hx' := x.toInt_lt
    have e : x.toInt - x.toInt.tdiv y.toInt * y.toInt = x.toInt.tmod y.toInt := by rw [Int.tmod_def, Int.mul_comm]
    rw [e]
    have h4 : (x.toInt.tmod y.toInt) ≤ 2147483647 := by
      by_cases hp : 0 ≤ x.toInt
      · have := Int.natAbs_tmod x.toInt y.toInt; have := Nat.mod_le x.toInt.natAbs y.toInt.natAbs; omega
      · have := Int.tmod_nonneg (a := -x.toInt) y.toInt (by omega); rw [Int.neg_tmod] at this; omega
    have h5 : -2147483648 ≤ (x.toInt.tmod y.toInt) := by
      have := Int.natAbs_tmod x.toInt y.toInt; have := Nat.mod_le x.toInt.natAbs y.toInt.natAbs; omega
    exact Int.bmod_eq_of_le (by omega) (by omega)
  exact Int32.toInt_inj.mp h
theorem own_irem (x y : Int32) (d : Int) (hy : y.toInt = d) : (0 ≤ x.toInt → (x - (x / y) * y).toInt = x.toInt % d) ∧ (x.toInt < 0 → (x - (x / y) * y).toInt = -((-x.toInt) % d)) := by rw [own_irem_eq]; exact c_irem x y d hy
end Jvm.RoadKit
namespace Jvm.Pilot.@@N@@
open Jvm Jvm.ClassFile Sem Op Lib Jvm.Free Jvm.Stand Jvm.LawKit Jvm.RoadKit Bundle Jvm.Pilot.@@N@@.Jvm.D
def Q0 (n0 : Nat) (v : Option Value) (h : Heap) (L : List Loc) : Prop := v = some (.int 1) ∧ Fr n0 L
theorem d1_0 : decode method_3_code 0 = .ok (.iconst 2, 1) := by decide +kernel
theorem d1_1 : decode method_3_code 1 = .ok (.newarray .char, 2) := by decide +kernel
theorem w_4 {a0 : Array Value} {Z : State} (hw : ∀ d ∈ tables_1, d.before a0 Z = true) : Jvm.Cond.before (Jvm.Cond.arrayClass Jvm.ClassFile.FieldType.char) a0 Z = true := hw _ (List.mem_of_getElem? (i := 4) rfl)
theorem d1_3 : decode method_3_code 3 = .ok (.astore_n 1, 1) := by decide +kernel
theorem d1_4 : decode method_3_code 4 = .ok (.aload_n 1, 1) := by decide +kernel
theorem d1_5 : decode method_3_code 5 = .ok (.iconst 0, 1) := by decide +kernel
theorem d1_6 : decode method_3_code 6 = .ok (.iload_n 0, 1) := by decide +kernel
theorem d1_7 : decode method_3_code 7 = .ok (.sipush 255, 3) := by decide +kernel
theorem d1_10 : decode method_3_code 10 = .ok (.iand, 1) := by decide +kernel
theorem d1_11 : decode method_3_code 11 = .ok (.i2c, 1) := by decide +kernel
theorem d1_12 : decode method_3_code 12 = .ok (.castore, 1) := by decide +kernel
theorem d1_13 : decode method_3_code 13 = .ok (.aload_n 1, 1) := by decide +kernel
theorem d1_14 : decode method_3_code 14 = .ok (.iconst 1, 1) := by decide +kernel
theorem d1_15 : decode method_3_code 15 = .ok (.iload_n 0, 1) := by decide +kernel
theorem d1_16 : decode method_3_code 16 = .ok (.bipush 8, 2) := by decide +kernel
theorem d1_18 : decode method_3_code 18 = .ok (.iushr, 1) := by decide +kernel
theorem d1_19 : decode method_3_code 19 = .ok (.sipush 255, 3) := by decide +kernel
theorem d1_22 : decode method_3_code 22 = .ok (.iand, 1) := by decide +kernel
theorem d1_23 : decode method_3_code 23 = .ok (.i2c, 1) := by decide +kernel
theorem d1_24 : decode method_3_code 24 = .ok (.castore, 1) := by decide +kernel
theorem d1_25 : decode method_3_code 25 = .ok (.new 36, 3) := by decide +kernel
theorem w_5 {a0 : Array Value} {Z : State} (hw : ∀ d ∈ tables_1, d.before a0 Z = true) : Jvm.Cond.before (Jvm.Cond.classLink "com/example/whenfree/whenfree/DialogReversedPinLaw" (36 : Nat) "java/lang/String") a0 Z = true := hw _ (List.mem_of_getElem? (i := 5) rfl)
theorem w_6 {a0 : Array Value} {Z : State} (hw : ∀ d ∈ tables_1, d.before a0 Z = true) : Jvm.Cond.before (Jvm.Cond.instantiable "java/lang/String" (4 : Nat)) a0 Z = true := hw _ (List.mem_of_getElem? (i := 6) rfl)
theorem w_7 {a0 : Array Value} {Z : State} (hw : ∀ d ∈ tables_1, d.before a0 Z = true) : Jvm.Cond.before (Jvm.Cond.initialized "java/lang/String") a0 Z = true := hw _ (List.mem_of_getElem? (i := 7) rfl)
theorem w_31 {a0 : Array Value} {Z : State} (hw : ∀ d ∈ tables_1, d.before a0 Z = true) : Jvm.Cond.before (Jvm.Cond.laysFinal "java/lang/String" "java/lang/String" "coder" "B") a0 Z = true := hw _ (List.mem_of_getElem? (i := 31) rfl)
theorem w_33 {a0 : Array Value} {Z : State} (hw : ∀ d ∈ tables_1, d.before a0 Z = true) : Jvm.Cond.before (Jvm.Cond.laysFinal "java/lang/String" "java/lang/String" "value" "[B") a0 Z = true := hw _ (List.mem_of_getElem? (i := 33) rfl)
theorem d1_28 : decode method_3_code 28 = .ok (.dup, 1) := by decide +kernel
theorem d1_29 : decode method_3_code 29 = .ok (.aload_n 1, 1) := by decide +kernel
theorem d1_30 : decode method_3_code 30 = .ok (.invokespecial 38, 3) := by decide +kernel
theorem d2_0 : decode jdk_42_method_3_code 0 = .ok (.aload_n 0, 1) := by decide +kernel
theorem d2_1 : decode jdk_42_method_3_code 1 = .ok (.aload_n 1, 1) := by decide +kernel
theorem d2_2 : decode jdk_42_method_3_code 2 = .ok (.iconst 0, 1) := by decide +kernel
theorem d2_3 : decode jdk_42_method_3_code 3 = .ok (.aload_n 1, 1) := by decide +kernel
theorem d2_4 : decode jdk_42_method_3_code 4 = .ok (.arraylength, 1) := by decide +kernel
theorem d2_5 : decode jdk_42_method_3_code 5 = .ok (.aconst_null, 1) := by decide +kernel
theorem d2_6 : decode jdk_42_method_3_code 6 = .ok (.invokespecial 27, 3) := by decide +kernel
theorem d3_0 : decode jdk_42_method_149_code 0 = .ok (.aload_n 0, 1) := by decide +kernel
theorem d3_1 : decode jdk_42_method_149_code 1 = .ok (.invokespecial 1, 3) := by decide +kernel
theorem w_15 {a0 : Array Value} {Z : State} (hw : ∀ d ∈ tables_1, d.before a0 Z = true) : Jvm.Cond.before (Jvm.Cond.methodLink "java/lang/String" (1 : Nat) ({ cls := "java/lang/Object", name := "<init>", desc := "()V" } : Jvm.MethodName)) a0 Z = true := hw _ (List.mem_of_getElem? (i := 15) rfl)
theorem w_16 {a0 : Array Value} {Z : State} (hw : ∀ d ∈ tables_1, d.before a0 Z = true) : Jvm.Cond.before (Jvm.Cond.instanceMethod ({ cls := "java/lang/Object", name := "<init>", desc := "()V" } : Jvm.MethodName)) a0 Z = true := hw _ (List.mem_of_getElem? (i := 16) rfl)
theorem w_17 {a0 : Array Value} {Z : State} (hw : ∀ d ∈ tables_1, d.before a0 Z = true) : Jvm.Cond.before (Jvm.Cond.code ({ cls := "java/lang/Object", name := "<init>", desc := "()V" } : Jvm.MethodName) object_method_1_code (1 : Nat) (Option.none : Option Jvm.ClassFile.FieldType)) a0 Z = true := hw _ (List.mem_of_getElem? (i := 17) rfl)
theorem d3_4 : decode jdk_42_method_149_code 4 = .ok (.iload_n 3, 1) := by decide +kernel
theorem d3_5 : decode jdk_42_method_149_code 5 = .ok (.ifCond .ne 22, 3) := by decide +kernel
theorem d3_27 : decode jdk_42_method_149_code 27 = .ok (.getstatic 38, 3) := by decide +kernel
theorem w_18 {a0 : Array Value} {Z : State} (hw : ∀ d ∈ tables_1, d.before a0 Z = true) : Jvm.Cond.before (Jvm.Cond.fieldLink "java/lang/String" (38 : Nat) "java/lang/String" "COMPACT_STRINGS" "Z") a0 Z = true := hw _ (List.mem_of_getElem? (i := 18) rfl)
theorem d3_30 : decode jdk_42_method_149_code 30 = .ok (.ifCond .eq 28, 3) := by decide +kernel
theorem d3_33 : decode jdk_42_method_149_code 33 = .ok (.aload_n 1, 1) := by decide +kernel
theorem d3_34 : decode jdk_42_method_149_code 34 = .ok (.iload_n 2, 1) := by decide +kernel
theorem d3_35 : decode jdk_42_method_149_code 35 = .ok (.iload_n 3, 1) := by decide +kernel
theorem d3_36 : decode jdk_42_method_149_code 36 = .ok (.invokestatic 177, 3) := by decide +kernel
theorem d5_0 : decode jdk_52_method_16_code 0 = .ok (.iload_n 2, 1) := by decide +kernel
theorem d5_1 : decode jdk_52_method_16_code 1 = .ok (.newarray .byte, 2) := by decide +kernel
theorem w_23 {a0 : Array Value} {Z : State} (hw : ∀ d ∈ tables_1, d.before a0 Z = true) : Jvm.Cond.before (Jvm.Cond.arrayClass Jvm.ClassFile.FieldType.byte) a0 Z = true := hw _ (List.mem_of_getElem? (i := 23) rfl)
theorem d5_3 : decode jdk_52_method_16_code 3 = .ok (.astore_n 3, 1) := by decide +kernel
theorem d5_4 : decode jdk_52_method_16_code 4 = .ok (.aload_n 0, 1) := by decide +kernel
theorem d5_5 : decode jdk_52_method_16_code 5 = .ok (.iload_n 1, 1) := by decide +kernel
theorem d5_6 : decode jdk_52_method_16_code 6 = .ok (.aload_n 3, 1) := by decide +kernel
theorem d5_7 : decode jdk_52_method_16_code 7 = .ok (.iconst 0, 1) := by decide +kernel
theorem d5_8 : decode jdk_52_method_16_code 8 = .ok (.iload_n 2, 1) := by decide +kernel
theorem d5_9 : decode jdk_52_method_16_code 9 = .ok (.invokestatic 115, 3) := by decide +kernel
theorem d6_0 : decode jdk_52_method_21_code 0 = .ok (.iconst 0, 1) := by decide +kernel
theorem d6_1 : decode jdk_52_method_21_code 1 = .ok (.istore 5, 2) := by decide +kernel
theorem d6_3 : decode jdk_52_method_21_code 3 = .ok (.iload 5, 2) := by decide +kernel
theorem d6_5 : decode jdk_52_method_21_code 5 = .ok (.iload 4, 2) := by decide +kernel
theorem d6_7 : decode jdk_52_method_21_code 7 = .ok (.if_icmp .ge 37, 3) := by decide +kernel
theorem d6_10 : decode jdk_52_method_21_code 10 = .ok (.aload_n 0, 1) := by decide +kernel
theorem d6_11 : decode jdk_52_method_21_code 11 = .ok (.iload_n 1, 1) := by decide +kernel
theorem d6_12 : decode jdk_52_method_21_code 12 = .ok (.caload, 1) := by decide +kernel
theorem d6_13 : decode jdk_52_method_21_code 13 = .ok (.istore 6, 2) := by decide +kernel
theorem d6_15 : decode jdk_52_method_21_code 15 = .ok (.iload 6, 2) := by decide +kernel
theorem d6_17 : decode jdk_52_method_21_code 17 = .ok (.sipush 255, 3) := by decide +kernel
theorem d6_20 : decode jdk_52_method_21_code 20 = .ok (.if_icmp .le 6, 3) := by decide +kernel
theorem d6_26 : decode jdk_52_method_21_code 26 = .ok (.aload_n 2, 1) := by decide +kernel
theorem d6_27 : decode jdk_52_method_21_code 27 = .ok (.iload_n 3, 1) := by decide +kernel
theorem d6_28 : decode jdk_52_method_21_code 28 = .ok (.iload 6, 2) := by decide +kernel
theorem d6_30 : decode jdk_52_method_21_code 30 = .ok (.i2b, 1) := by decide +kernel
theorem d6_31 : decode jdk_52_method_21_code 31 = .ok (.bastore, 1) := by decide +kernel
theorem d6_32 : decode jdk_52_method_21_code 32 = .ok (.iinc 1 1, 3) := by decide +kernel
theorem d6_35 : decode jdk_52_method_21_code 35 = .ok (.iinc 3 1, 3) := by decide +kernel
theorem d6_38 : decode jdk_52_method_21_code 38 = .ok (.iinc 5 1, 3) := by decide +kernel
theorem d6_41 : decode jdk_52_method_21_code 41 = .ok (.goto (-38), 3) := by decide +kernel
theorem d6_44 : decode jdk_52_method_21_code 44 = .ok (.iload 4, 2) := by decide +kernel
theorem d6_46 : decode jdk_52_method_21_code 46 = .ok (.ireturn, 1) := by decide +kernel
abbrev y_0 : MethodName := ⟨"java/lang/StringUTF16", "compress", "([CI[BII)I"⟩
theorem pn_0 : plainName "java/lang/StringUTF16" = true := by first | (simp [plainName, overriddenIn]; done) | decide +kernel
-- java/lang/StringUTF16.compress([CI[BII)I
abbrev Rm1 : Room := { frames := 0, cells := 0, slots := 0, locals := 0 }
def Q1 (Z : State) (a1 : Addr) (a2 : Addr) (p3 : Int32) (p4 : Int32) (k5 : ClassId) (k9 : ClassId) (h0 : Heap) (n0 : Nat) (v : Option Value) (h : Heap) (L : List Loc) : Prop := v = some (.int (2 : Int32)) ∧ Fr n0 L ∧ Keep h0 h [a2] ∧ Exa Z h a2 "[B" ∧ Arv Z h a2 k9 .byte (2 : Int32) [(.int (nar .byte (p3.toInt8.toInt32))), (.int (nar .byte (p4.toInt8.toInt32)))] (.int (0 : Int32))
theorem ef1 (a1 : Addr) (a2 : Addr) (m : MethodId) : entryFrame m #[(.ref a1), (.int (0 : Int32)), (.ref a2), (.int (0 : Int32)), (.int (2 : Int32))] 7 = mkF m 0 #[.val (.ref a1), .val (.int (0 : Int32)), .val (.ref a2), .val (.int (0 : Int32)), .val (.int (2 : Int32)), .unset, .unset] [] := by first | (simp [entryFrame, mkF, argsToLocals, Value.category]; done) | rfl
theorem rm1 (l : Launch) (Z : State) (a0 : Array Value) (hw : ∀ d ∈ tables_1, d.before a0 Z = true) (ws : List Jvm.Cond) (a1 : Addr) (a2 : Addr) (p3 : Int32) (p4 : Int32) (k5 : ClassId) (k9 : ClassId) (h0 : Heap) (n0 : Nat) (Z0 : n0 ≤ h0.size) (V_a1 : Arv Z h0 a1 k5 .char (2 : Int32) [(.int p3), (.int p4)] (.int (0 : Int32))) (c8 : ¬ ((255 : Int32) < p3)) (V_a2 : Arv Z h0 a2 k9 .byte (2 : Int32) [(.int (0 : Int32)), (.int (0 : Int32))] (.int (0 : Int32))) (g_a2 : n0 ≤ a2) (ne_a1_a2 : a1 ≠ a2) (c16 : ¬ ((255 : Int32) < p4)) (E_a2 : Exa Z h0 a2 "[B") :
    OwnMet l Z y_0 jdk_52_method_21_code 7 (some .int) ws Rm1 #[(.ref a1), (.int (0 : Int32)), (.ref a2), (.int (0 : Int32)), (.int (2 : Int32))] h0 (Q1 Z a1 a2 p3 p4 k5 k9 h0 n0) := by
  refine own_body (plainFor_of_name pn_0) (ef1 a1 a2) ?_
  intro p e s m below meth c s₁ hx hby hml hown hnm hret hZ X0 e0
  have N0 := Fr.nil n0
  obtain ⟨cl6, Ar6, q6, S6, M6, Hs6, G6⟩ := id V_a1
  have hin7 : ¬ ((0 : Int32) < 0 ∨ cl6.slots.size ≤ ((0 : Int32)).toNatClampNeg) := inb_of S6 ⟨(by decide : ¬ ((0 : Int32) < (0 : Int32))), (by decide : (0 : Int32) < (2 : Int32))⟩
  obtain ⟨cl10, Ar10, q10, S10, M10, Hs10, G10⟩ := id V_a2
  have hin11 : ¬ ((0 : Int32) < 0 ∨ cl10.slots.size ≤ ((0 : Int32)).toNatClampNeg) := inb_of S10 ⟨(by decide : ¬ ((0 : Int32) < (0 : Int32))), (by decide : (0 : Int32) < (2 : Int32))⟩
  obtain ⟨T12, h12, X12, e12, W12, st12⟩ := stB X0 hx hZ e0 Ar10 (j := (0 : Int32)) hin11 (g := (mkF m 31 #[.val (.ref a1), .val (.int (0 : Int32)), .val (.ref a2), .val (.int (0 : Int32)), .val (.int (2 : Int32)), .val (.int (0 : Int32)), .val (.int p3)] [(.int (p3.toInt8.toInt32)), (.int (0 : Int32)), (.ref a2)])) rfl rfl (hb hby d6_31)
  have s0 := (Keep.of_wr W12).1
  have N12 := Fr.snoc X12 N0 g_a2
  have Vs12 : Arv Z h12 a2 k9 .byte (2 : Int32) [(.int (nar .byte (p3.toInt8.toInt32))), (.int (0 : Int32))] (.int (0 : Int32)) := Arv.set Ar10 q10 S10 M10 Hs10 G10 (fits_nar_byte _) W12 0 rfl (Nat.le_of_ble_eq_true rfl)
  have Va13 := (V_a1.other W12 ne_a1_a2)
  obtain ⟨cl14, Ar14, q14, S14, M14, Hs14, G14⟩ := id Va13
  have hin15 : ¬ ((1 : Int32) < 0 ∨ cl14.slots.size ≤ ((1 : Int32)).toNatClampNeg) := inb_of S14 ⟨(by decide : ¬ ((1 : Int32) < (0 : Int32))), (by decide : (1 : Int32) < (2 : Int32))⟩
  obtain ⟨cl17, Ar17, q17, S17, M17, Hs17, G17⟩ := id Vs12
  have hin18 : ¬ ((1 : Int32) < 0 ∨ cl17.slots.size ≤ ((1 : Int32)).toNatClampNeg) := inb_of S17 ⟨(by decide : ¬ ((1 : Int32) < (0 : Int32))), (by decide : (1 : Int32) < (2 : Int32))⟩
  obtain ⟨T19, h19, X19, e19, W19, st19⟩ := stB X12 hx hZ e12 Ar17 (j := (1 : Int32)) hin18 (g := (mkF m 31 #[.val (.ref a1), .val (.int (1 : Int32)), .val (.ref a2), .val (.int (1 : Int32)), .val (.int (2 : Int32)), .val (.int (1 : Int32)), .val (.int p4)] [(.int (p4.toInt8.toInt32)), (.int (1 : Int32)), (.ref a2)])) rfl rfl (hb hby d6_31)
  have s1 := (Keep.of_wr W19).1
  have N19 := Fr.snoc X19 N12 g_a2
  have Vs19 : Arv Z h19 a2 k9 .byte (2 : Int32) [(.int (nar .byte (p3.toInt8.toInt32))), (.int (nar .byte (p4.toInt8.toInt32)))] (.int (0 : Int32)) := Arv.set Ar17 q17 S17 M17 Hs17 G17 (fits_nar_byte _) W19 1 rfl (Nat.le_of_ble_eq_true rfl)
  have Ex20 := ((E_a2.wr W12).wr W19)
  have Kp0 : Keep h0 h12 [a2] := (Keep.refl h0 [a2]).wr W12 (Or.inl (List.mem_of_getElem? (i := 0) rfl))
  have Kp1 : Keep h0 h19 [a2] := Kp0.wr W19 (Or.inl (List.mem_of_getElem? (i := 0) rfl))
  refine ⟨T19, _, _, _, (some (.int (2 : Int32))), X19, nofun, by decide, by decide, ?_, fun fs hr => ?_⟩
  · show Q1 Z a1 a2 p3 p4 k5 k9 h0 n0 _ T19.heap _
    rw [e19]
    exact ⟨rfl, N19, Kp1, Ex20, Vs19⟩
  · show Steps p.tables e below (s₁.setTop (mkF m 0 #[.val (.ref a1), .val (.int (0 : Int32)), .val (.ref a2), .val (.int (0 : Int32)), .val (.int (2 : Int32)), .unset, .unset] [])) _
    refine XS.iconst X0.here hx rfl (hb hby d6_0) ?_
    refine XS.istore X0.here hx rfl (hb hby d6_1) rfl (l' := #[.val (.ref a1), .val (.int (0 : Int32)), .val (.ref a2), .val (.int (0 : Int32)), .val (.int (2 : Int32)), .val (.int (0 : Int32)), .unset]) rfl ?_
    refine XS.iload X0.here hx rfl (hb hby d6_3) rfl ?_
    refine XS.iload X0.here hx rfl (hb hby d6_5) rfl ?_
    refine XS.icmpNo X0.here hx rfl (hb hby d6_7) rfl (tlt ((by decide : (0 : Int32) < (2 : Int32)) : (0 : Int32) < (2 : Int32))).2.1 ?_
    refine XS.aloadN X0.here hx rfl (hb hby d6_10) rfl rfl ?_
    refine XS.iloadN X0.here hx rfl (hb hby d6_11) rfl ?_
    refine X0.caload hx (j := (0 : Int32)) (v := (.int p3)) (by rw [e0]; exact Ar6.1) (State.isArrayOf_alike hZ.alike Ar6.2.1) Ar6.2.2 hin7 (Has.at Hs6 hin7 rfl) (g := (mkF m 12 #[.val (.ref a1), .val (.int (0 : Int32)), .val (.ref a2), .val (.int (0 : Int32)), .val (.int (2 : Int32)), .val (.int (0 : Int32)), .unset] [(.int (0 : Int32)), (.ref a1)])) rfl rfl (hb hby d6_12) _ ?_
    refine XS.istore X0.here hx rfl (hb hby d6_13) rfl (l' := #[.val (.ref a1), .val (.int (0 : Int32)), .val (.ref a2), .val (.int (0 : Int32)), .val (.int (2 : Int32)), .val (.int (0 : Int32)), .val (.int p3)]) rfl ?_
    refine XS.iload X0.here hx rfl (hb hby d6_15) rfl ?_
    refine XS.sipush X0.here hx rfl (hb hby d6_17) ?_
    refine XS.icmpYes X0.here hx rfl (pc0 := 20) (pc' := 26) rfl (hb hby d6_20) rfl (flt (c8 : ¬ ((255 : Int32) < p3))).2.2.2 (by decide) (by decide) ?_
    show Steps p.tables e below (s₁.setTop (mkF m 26 #[.val (.ref a1), .val (.int (0 : Int32)), .val (.ref a2), .val (.int (0 : Int32)), .val (.int (2 : Int32)), .val (.int (0 : Int32)), .val (.int p3)] [])) _
    refine XS.aloadN X0.here hx rfl (hb hby d6_26) rfl rfl ?_
    refine XS.iloadN X0.here hx rfl (hb hby d6_27) rfl ?_
    refine XS.iload X0.here hx rfl (hb hby d6_28) rfl ?_
    refine XS.i2b X0.here hx rfl (hb hby d6_30) rfl ?_
    refine st12 _ ?_
    refine XS.iinc X12.here hx rfl (hb hby d6_32) rfl (l' := #[.val (.ref a1), .val (.int (1 : Int32)), .val (.ref a2), .val (.int (0 : Int32)), .val (.int (2 : Int32)), .val (.int (0 : Int32)), .val (.int p3)]) rfl ?_
    refine XS.iinc X12.here hx rfl (hb hby d6_35) rfl (l' := #[.val (.ref a1), .val (.int (1 : Int32)), .val (.ref a2), .val (.int (1 : Int32)), .val (.int (2 : Int32)), .val (.int (0 : Int32)), .val (.int p3)]) rfl ?_
    refine XS.iinc X12.here hx rfl (hb hby d6_38) rfl (l' := #[.val (.ref a1), .val (.int (1 : Int32)), .val (.ref a2), .val (.int (1 : Int32)), .val (.int (2 : Int32)), .val (.int (1 : Int32)), .val (.int p3)]) rfl ?_
    refine XS.goto X12.here hx rfl (pc0 := 41) (pc' := 3) rfl (hb hby d6_41) (by decide) (by decide) ?_
    refine XS.iload X12.here hx rfl (hb hby d6_3) rfl ?_
    refine XS.iload X12.here hx rfl (hb hby d6_5) rfl ?_
    refine XS.icmpNo X12.here hx rfl (hb hby d6_7) rfl (tlt ((by decide : (1 : Int32) < (2 : Int32)) : (1 : Int32) < (2 : Int32))).2.1 ?_
    show Steps p.tables e below (T12.setTop (mkF m 10 #[.val (.ref a1), .val (.int (1 : Int32)), .val (.ref a2), .val (.int (1 : Int32)), .val (.int (2 : Int32)), .val (.int (1 : Int32)), .val (.int p3)] [])) _
    refine XS.aloadN X12.here hx rfl (hb hby d6_10) rfl rfl ?_
    refine XS.iloadN X12.here hx rfl (hb hby d6_11) rfl ?_
    refine X12.caload hx (j := (1 : Int32)) (v := (.int p4)) (by rw [e12]; exact Ar14.1) (State.isArrayOf_alike hZ.alike Ar14.2.1) Ar14.2.2 hin15 (Has.at Hs14 hin15 rfl) (g := (mkF m 12 #[.val (.ref a1), .val (.int (1 : Int32)), .val (.ref a2), .val (.int (1 : Int32)), .val (.int (2 : Int32)), .val (.int (1 : Int32)), .val (.int p3)] [(.int (1 : Int32)), (.ref a1)])) rfl rfl (hb hby d6_12) _ ?_
    refine XS.istore X12.here hx rfl (hb hby d6_13) rfl (l' := #[.val (.ref a1), .val (.int (1 : Int32)), .val (.ref a2), .val (.int (1 : Int32)), .val (.int (2 : Int32)), .val (.int (1 : Int32)), .val (.int p4)]) rfl ?_
    refine XS.iload X12.here hx rfl (hb hby d6_15) rfl ?_
    refine XS.sipush X12.here hx rfl (hb hby d6_17) ?_
    refine XS.icmpYes X12.here hx rfl (pc0 := 20) (pc' := 26) rfl (hb hby d6_20) rfl (flt (c16 : ¬ ((255 : Int32) < p4))).2.2.2 (by decide) (by decide) ?_
    refine XS.aloadN X12.here hx rfl (hb hby d6_26) rfl rfl ?_
    refine XS.iloadN X12.here hx rfl (hb hby d6_27) rfl ?_
    refine XS.iload X12.here hx rfl (hb hby d6_28) rfl ?_
    refine XS.i2b X12.here hx rfl (hb hby d6_30) rfl ?_
    refine st19 _ ?_
    show Steps p.tables e below (T19.setTop (mkF m 32 #[.val (.ref a1), .val (.int (1 : Int32)), .val (.ref a2), .val (.int (1 : Int32)), .val (.int (2 : Int32)), .val (.int (1 : Int32)), .val (.int p4)] [])) _
    refine XS.iinc X19.here hx rfl (hb hby d6_32) rfl (l' := #[.val (.ref a1), .val (.int (2 : Int32)), .val (.ref a2), .val (.int (1 : Int32)), .val (.int (2 : Int32)), .val (.int (1 : Int32)), .val (.int p4)]) rfl ?_
    refine XS.iinc X19.here hx rfl (hb hby d6_35) rfl (l' := #[.val (.ref a1), .val (.int (2 : Int32)), .val (.ref a2), .val (.int (2 : Int32)), .val (.int (2 : Int32)), .val (.int (1 : Int32)), .val (.int p4)]) rfl ?_
    refine XS.iinc X19.here hx rfl (hb hby d6_38) rfl (l' := #[.val (.ref a1), .val (.int (2 : Int32)), .val (.ref a2), .val (.int (2 : Int32)), .val (.int (2 : Int32)), .val (.int (2 : Int32)), .val (.int p4)]) rfl ?_
    refine XS.goto X19.here hx rfl (pc0 := 41) (pc' := 3) rfl (hb hby d6_41) (by decide) (by decide) ?_
    refine XS.iload X19.here hx rfl (hb hby d6_3) rfl ?_
    refine XS.iload X19.here hx rfl (hb hby d6_5) rfl ?_
    refine XS.icmpYes X19.here hx rfl (pc0 := 7) (pc' := 44) rfl (hb hby d6_7) rfl (flt ((by decide : ¬ ((2 : Int32) < (2 : Int32))) : ¬ ((2 : Int32) < (2 : Int32)))).2.1 (by decide) (by decide) ?_
    refine XS.iload X19.here hx rfl (hb hby d6_44) rfl ?_
    exact retI X19 hx hret (hb hby d6_46) hr
theorem pd_0 : parseMethodDescriptor "([CI[BII)I" = some ⟨[(.array .char), .int, (.array .byte), .int, .int], some .int⟩ := by decide +kernel
theorem w_21 {a0 : Array Value} {Z : State} (hw : ∀ d ∈ tables_1, d.before a0 Z = true) : Jvm.Cond.before (Jvm.Cond.initialized "java/lang/StringUTF16") a0 Z = true := hw _ (List.mem_of_getElem? (i := 21) rfl)
theorem w_26 {a0 : Array Value} {Z : State} (hw : ∀ d ∈ tables_1, d.before a0 Z = true) : Jvm.Cond.before (Jvm.Cond.code ({ cls := "java/lang/StringUTF16", name := "compress", desc := "([CI[BII)I" } : Jvm.MethodName) jdk_52_method_21_code (7 : Nat) (Option.some Jvm.ClassFile.FieldType.int)) a0 Z = true := hw _ (List.mem_of_getElem? (i := 26) rfl)
theorem w_24 {a0 : Array Value} {Z : State} (hw : ∀ d ∈ tables_1, d.before a0 Z = true) : Jvm.Cond.before (Jvm.Cond.methodLink "java/lang/StringUTF16" (115 : Nat) ({ cls := "java/lang/StringUTF16", name := "compress", desc := "([CI[BII)I" } : Jvm.MethodName)) a0 Z = true := hw _ (List.mem_of_getElem? (i := 24) rfl)
theorem w_25 {a0 : Array Value} {Z : State} (hw : ∀ d ∈ tables_1, d.before a0 Z = true) : Jvm.Cond.before (Jvm.Cond.static ({ cls := "java/lang/StringUTF16", name := "compress", desc := "([CI[BII)I" } : Jvm.MethodName)) a0 Z = true := hw _ (List.mem_of_getElem? (i := 25) rfl)
theorem d5_12 : decode jdk_52_method_16_code 12 = .ok (.istore 4, 2) := by decide +kernel
theorem d5_14 : decode jdk_52_method_16_code 14 = .ok (.iload 4, 2) := by decide +kernel
theorem d5_16 : decode jdk_52_method_16_code 16 = .ok (.iload_n 2, 1) := by decide +kernel
theorem d5_17 : decode jdk_52_method_16_code 17 = .ok (.if_icmp .eq 40, 3) := by decide +kernel
theorem d5_57 : decode jdk_52_method_16_code 57 = .ok (.aload_n 3, 1) := by decide +kernel
theorem d5_58 : decode jdk_52_method_16_code 58 = .ok (.areturn, 1) := by decide +kernel
abbrev y_1 : MethodName := ⟨"java/lang/StringUTF16", "compress", "([CII)[B"⟩
-- java/lang/StringUTF16.compress([CII)[B
abbrev Rm2 : Room := { frames := 1, cells := 1, slots := 2, locals := 18 }
def Q2 (Z : State) (a1 : Addr) (p3 : Int32) (p4 : Int32) (k5 : ClassId) (h0 : Heap) (n0 : Nat) (v : Option Value) (h : Heap) (L : List Loc) : Prop := ∃ b2 : Addr, ∃ k2 : ClassId, v = some (.ref b2) ∧ Fr n0 L ∧ Keep h0 h [] ∧ h0.size ≤ b2 ∧ Exa Z h b2 "[B" ∧ Arv Z h b2 k2 .byte (2 : Int32) [(.int (nar .byte (p3.toInt8.toInt32))), (.int (nar .byte (p4.toInt8.toInt32)))] (.int (0 : Int32))
theorem ef2 (a1 : Addr) (m : MethodId) : entryFrame m #[(.ref a1), (.int (0 : Int32)), (.int (2 : Int32))] 6 = mkF m 0 #[.val (.ref a1), .val (.int (0 : Int32)), .val (.int (2 : Int32)), .unset, .unset, .unset] [] := by first | (simp [entryFrame, mkF, argsToLocals, Value.category]; done) | rfl
theorem rm2 (l : Launch) (Z : State) (a0 : Array Value) (hw : ∀ d ∈ tables_1, d.before a0 Z = true) (ws : List Jvm.Cond) (a1 : Addr) (p3 : Int32) (p4 : Int32) (k5 : ClassId) (h0 : Heap) (n0 : Nat) (Z0 : n0 ≤ h0.size) (V_a1 : Arv Z h0 a1 k5 .char (2 : Int32) [(.int p3), (.int p4)] (.int (0 : Int32))) (c7 : ¬ ((255 : Int32) < p3)) (c8 : ¬ ((255 : Int32) < p4)) :
    OwnMet l Z y_1 jdk_52_method_16_code 6 (some (.array .byte)) ws Rm2 #[(.ref a1), (.int (0 : Int32)), (.int (2 : Int32))] h0 (Q2 Z a1 p3 p4 k5 h0 n0) := by
  refine own_body (plainFor_of_name pn_0) (ef2 a1) ?_
  intro p e s m below meth c s₁ hx hby hml hown hnm hret hZ X0 e0
  have N0 := Fr.nil n0
  obtain ⟨T2, h2, k2, X2, e2, E2, A2, B2, st2⟩ := newPE (aty := .byte) X0 hx hZ (w_23 hw) e0 (g := (mkF m 1 #[.val (.ref a1), .val (.int (0 : Int32)), .val (.int (2 : Int32)), .unset, .unset, .unset] [(.int (2 : Int32))])) rfl (hb hby d5_1) rfl (by decide) (cap := 2) (by decide) (by decide) (by decide) (by decide) (ad := "[B") (by decide)
  obtain ⟨b2, g2⟩ : ∃ z, z = h0.size := ⟨_, rfl⟩
  rw [← g2] at A2 B2 st2
  have s0 := E2.1
  have Vn2 : Arv Z h2 b2 k2 .byte (2 : Int32) [(.int (0 : Int32)), (.int (0 : Int32))] (.int (0 : Int32)) := (Arv.new A2 (by decide)).pad (pad_rep [] (.int (0 : Int32)) 2)
  have Va6 := (V_a1.ext E2)
  have g_b2 : n0 ≤ b2 := Nat.le_trans Z0 (Nat.le_of_eq g2.symm)
  have ne_a1_b2 := Nat.ne_of_lt (Nat.lt_of_lt_of_le V_a1.lt (Nat.le_of_eq g2.symm))
  have z1 := Nat.le_trans Z0 s0
  obtain ⟨_, T9, L9, X9, hQ9, st9⟩ := own_callS X2 hx hZ hown (y := y_0) (w_24 hw) (w_25 hw) (w_21 hw) (w_26 hw) (rm1 l Z a0 hw [] a1 b2 p3 p4 k5 k2 h2 n0 z1 Va6 c7 Vn2 g_b2 ne_a1_b2 c8 B2) e2 (Ls := #[.val (.ref a1), .val (.int (0 : Int32)), .val (.int (2 : Int32)), .val (.ref b2), .unset, .unset]) (by rw [hml]; rfl) (argsL := [(.ref a1), (.int (0 : Int32)), (.ref b2), (.int (0 : Int32)), (.int (2 : Int32))]) (rest := []) (lenOf pd_0 rfl) (hb hby d5_9) (W := 0)
  obtain ⟨rfl, Nq9, K9, o9_0, o9_1⟩ := hQ9
  have N9 := Fr.app N0 Nq9
  have s1 := K9.1
  have sz_b2 : h0.size ≤ b2 := (Nat.le_of_eq g2.symm)
  have Kp0 : Keep h0 h2 [] := (Keep.refl h0 []).ext E2
  have Kp1 : Keep h0 T9.heap [] := Kp0.trans K9 (allS (Or.inr sz_b2) all0)
  refine ⟨T9, _, _, _, (some (.ref b2)), X9, nofun, by decide, by decide, ?_, fun fs hr => ?_⟩
  · show Q2 Z a1 p3 p4 k5 h0 n0 _ T9.heap _
    exact ⟨b2, k2, rfl, N9, Kp1, sz_b2, o9_0, o9_1⟩
  · show Steps p.tables e below (s₁.setTop (mkF m 0 #[.val (.ref a1), .val (.int (0 : Int32)), .val (.int (2 : Int32)), .unset, .unset, .unset] [])) _
    refine XS.iloadN X0.here hx rfl (hb hby d5_0) rfl ?_
    refine st2 _ ?_
    refine XS.astoreN X2.here hx rfl (hb hby d5_3) rfl rfl (l' := #[.val (.ref a1), .val (.int (0 : Int32)), .val (.int (2 : Int32)), .val (.ref b2), .unset, .unset]) rfl ?_
    refine XS.aloadN X2.here hx rfl (hb hby d5_4) rfl rfl ?_
    refine XS.iloadN X2.here hx rfl (hb hby d5_5) rfl ?_
    refine XS.aloadN X2.here hx rfl (hb hby d5_6) rfl rfl ?_
    refine XS.iconst X2.here hx rfl (hb hby d5_7) ?_
    refine XS.iloadN X2.here hx rfl (hb hby d5_8) rfl ?_
    refine st9 _ ?_
    refine XS.istore X9.here hx rfl (hb hby d5_12) rfl (l' := #[.val (.ref a1), .val (.int (0 : Int32)), .val (.int (2 : Int32)), .val (.ref b2), .val (.int (2 : Int32)), .unset]) rfl ?_
    refine XS.iload X9.here hx rfl (hb hby d5_14) rfl ?_
    refine XS.iloadN X9.here hx rfl (hb hby d5_16) rfl ?_
    show Steps p.tables e below (T9.setTop (mkF m 17 #[.val (.ref a1), .val (.int (0 : Int32)), .val (.int (2 : Int32)), .val (.ref b2), .val (.int (2 : Int32)), .unset] [(.int (2 : Int32)), (.int (2 : Int32))])) _
    refine XS.icmpYes X9.here hx rfl (pc0 := 17) (pc' := 57) rfl (hb hby d5_17) rfl (teq ((by decide : (2 : Int32) = (2 : Int32)) : (2 : Int32) = (2 : Int32))).1 (by decide) (by decide) ?_
    refine XS.aloadN X9.here hx rfl (hb hby d5_57) rfl rfl ?_
    exact retOut X9 hx hret rfl (Or.inr (Or.inr (Or.inr (Or.inr ⟨rfl, rfl, rfl⟩)))) (hb hby d5_58) hr
theorem pd_1 : parseMethodDescriptor "([CII)[B" = some ⟨[(.array .char), .int, .int], some (.array .byte)⟩ := by decide +kernel
theorem w_22 {a0 : Array Value} {Z : State} (hw : ∀ d ∈ tables_1, d.before a0 Z = true) : Jvm.Cond.before (Jvm.Cond.code ({ cls := "java/lang/StringUTF16", name := "compress", desc := "([CII)[B" } : Jvm.MethodName) jdk_52_method_16_code (6 : Nat) (Option.some (Jvm.ClassFile.FieldType.array Jvm.ClassFile.FieldType.byte))) a0 Z = true := hw _ (List.mem_of_getElem? (i := 22) rfl)
theorem w_19 {a0 : Array Value} {Z : State} (hw : ∀ d ∈ tables_1, d.before a0 Z = true) : Jvm.Cond.before (Jvm.Cond.methodLink "java/lang/String" (177 : Nat) ({ cls := "java/lang/StringUTF16", name := "compress", desc := "([CII)[B" } : Jvm.MethodName)) a0 Z = true := hw _ (List.mem_of_getElem? (i := 19) rfl)
theorem w_20 {a0 : Array Value} {Z : State} (hw : ∀ d ∈ tables_1, d.before a0 Z = true) : Jvm.Cond.before (Jvm.Cond.static ({ cls := "java/lang/StringUTF16", name := "compress", desc := "([CII)[B" } : Jvm.MethodName)) a0 Z = true := hw _ (List.mem_of_getElem? (i := 20) rfl)
theorem d3_39 : decode jdk_42_method_149_code 39 = .ok (.astore 5, 2) := by decide +kernel
theorem d3_41 : decode jdk_42_method_149_code 41 = .ok (.aload_n 0, 1) := by decide +kernel
theorem d3_42 : decode jdk_42_method_149_code 42 = .ok (.aload 5, 2) := by decide +kernel
theorem d3_44 : decode jdk_42_method_149_code 44 = .ok (.iload_n 3, 1) := by decide +kernel
theorem d3_45 : decode jdk_42_method_149_code 45 = .ok (.invokestatic 47, 3) := by decide +kernel
theorem d7_0 : decode jdk_52_method_15_code 0 = .ok (.iload_n 1, 1) := by decide +kernel
theorem d7_1 : decode jdk_52_method_15_code 1 = .ok (.aload_n 0, 1) := by decide +kernel
theorem d7_2 : decode jdk_52_method_15_code 2 = .ok (.arraylength, 1) := by decide +kernel
theorem d7_3 : decode jdk_52_method_15_code 3 = .ok (.isub, 1) := by decide +kernel
theorem d7_4 : decode jdk_52_method_15_code 4 = .ok (.bipush 31, 2) := by decide +kernel
theorem d7_6 : decode jdk_52_method_15_code 6 = .ok (.iushr, 1) := by decide +kernel
theorem d7_7 : decode jdk_52_method_15_code 7 = .ok (.i2b, 1) := by decide +kernel
theorem d7_8 : decode jdk_52_method_15_code 8 = .ok (.ireturn, 1) := by decide +kernel
abbrev y_2 : MethodName := ⟨"java/lang/StringUTF16", "coderFromArrayLen", "([BI)B"⟩
-- java/lang/StringUTF16.coderFromArrayLen([BI)B
abbrev Rm3 : Room := { frames := 0, cells := 0, slots := 0, locals := 0 }
def Q3 (Z : State) (a1 : Addr) (p2 : Int32) (p3 : Int32) (k4 : ClassId) (h0 : Heap) (n0 : Nat) (v : Option Value) (h : Heap) (L : List Loc) : Prop := v = some (.int (0 : Int32)) ∧ Fr n0 L ∧ h = h0
theorem ef3 (a1 : Addr) (m : MethodId) : entryFrame m #[(.ref a1), (.int (2 : Int32))] 2 = mkF m 0 #[.val (.ref a1), .val (.int (2 : Int32))] [] := by first | (simp [entryFrame, mkF, argsToLocals, Value.category]; done) | rfl
theorem rm3 (l : Launch) (Z : State) (a0 : Array Value) (hw : ∀ d ∈ tables_1, d.before a0 Z = true) (ws : List Jvm.Cond) (a1 : Addr) (p2 : Int32) (p3 : Int32) (k4 : ClassId) (h0 : Heap) (n0 : Nat) (Z0 : n0 ≤ h0.size) (V_a1 : Arv Z h0 a1 k4 .byte (2 : Int32) [(.int p2), (.int p3)] (.int (0 : Int32))) :
    OwnMet l Z y_2 jdk_52_method_15_code 2 (some .byte) ws Rm3 #[(.ref a1), (.int (2 : Int32))] h0 (Q3 Z a1 p2 p3 k4 h0 n0) := by
  refine own_body (plainFor_of_name pn_0) (ef3 a1) ?_
  intro p e s m below meth c s₁ hx hby hml hown hnm hret hZ X0 e0
  have N0 := Fr.nil n0
  obtain ⟨cl5, Ar5, q5, S5, M5, Hs5, G5⟩ := id V_a1
  refine ⟨s₁, _, _, _, (some (.int (0 : Int32))), X0, nofun, by decide, by decide, ?_, fun fs hr => ?_⟩
  · show Q3 Z a1 p2 p3 k4 h0 n0 _ s₁.heap _
    rw [e0]
    exact ⟨rfl, N0, rfl⟩
  · show Steps p.tables e below (s₁.setTop (mkF m 0 #[.val (.ref a1), .val (.int (2 : Int32))] [])) _
    refine XS.iloadN X0.here hx rfl (hb hby d7_0) rfl ?_
    refine XS.aloadN X0.here hx rfl (hb hby d7_1) rfl rfl ?_
    refine X0.arraylength hx (by rw [e0]; exact Ar5.1) (State.isArrayOf_alike hZ.alike Ar5.2.1) (g := (mkF m 2 #[.val (.ref a1), .val (.int (2 : Int32))] [(.ref a1), (.int (2 : Int32))])) rfl rfl (hb hby d7_2) _ ?_
    show Steps p.tables e below (s₁.setTop (mkF m 3 #[.val (.ref a1), .val (.int (2 : Int32))] [(.int cl5.slots.size.toInt32), (.int (2 : Int32))])) _
    rw [len_of S5 M5]
    refine XS.isub X0.here hx rfl (hb hby d7_3) rfl ?_
    refine XS.bipush X0.here hx rfl (hb hby d7_4) ?_
    refine XS.iushr X0.here hx rfl (hb hby d7_6) rfl ?_
    refine XS.i2b X0.here hx rfl (hb hby d7_7) rfl ?_
    exact retN X0 hx (t := .byte) hret (by simp) (hb hby d7_8) hr
theorem pd_2 : parseMethodDescriptor "([BI)B" = some ⟨[(.array .byte), .int], some .byte⟩ := by decide +kernel
theorem w_29 {a0 : Array Value} {Z : State} (hw : ∀ d ∈ tables_1, d.before a0 Z = true) : Jvm.Cond.before (Jvm.Cond.code ({ cls := "java/lang/StringUTF16", name := "coderFromArrayLen", desc := "([BI)B" } : Jvm.MethodName) jdk_52_method_15_code (2 : Nat) (Option.some Jvm.ClassFile.FieldType.byte)) a0 Z = true := hw _ (List.mem_of_getElem? (i := 29) rfl)
theorem w_27 {a0 : Array Value} {Z : State} (hw : ∀ d ∈ tables_1, d.before a0 Z = true) : Jvm.Cond.before (Jvm.Cond.methodLink "java/lang/String" (47 : Nat) ({ cls := "java/lang/StringUTF16", name := "coderFromArrayLen", desc := "([BI)B" } : Jvm.MethodName)) a0 Z = true := hw _ (List.mem_of_getElem? (i := 27) rfl)
theorem w_28 {a0 : Array Value} {Z : State} (hw : ∀ d ∈ tables_1, d.before a0 Z = true) : Jvm.Cond.before (Jvm.Cond.static ({ cls := "java/lang/StringUTF16", name := "coderFromArrayLen", desc := "([BI)B" } : Jvm.MethodName)) a0 Z = true := hw _ (List.mem_of_getElem? (i := 28) rfl)
theorem d3_48 : decode jdk_42_method_149_code 48 = .ok (.putfield 15, 3) := by decide +kernel
theorem w_30 {a0 : Array Value} {Z : State} (hw : ∀ d ∈ tables_1, d.before a0 Z = true) : Jvm.Cond.before (Jvm.Cond.fieldLink "java/lang/String" (15 : Nat) "java/lang/String" "coder" "B") a0 Z = true := hw _ (List.mem_of_getElem? (i := 30) rfl)
theorem d3_51 : decode jdk_42_method_149_code 51 = .ok (.aload_n 0, 1) := by decide +kernel
theorem d3_52 : decode jdk_42_method_149_code 52 = .ok (.aload 5, 2) := by decide +kernel
theorem d3_54 : decode jdk_42_method_149_code 54 = .ok (.putfield 9, 3) := by decide +kernel
theorem w_32 {a0 : Array Value} {Z : State} (hw : ∀ d ∈ tables_1, d.before a0 Z = true) : Jvm.Cond.before (Jvm.Cond.fieldLink "java/lang/String" (9 : Nat) "java/lang/String" "value" "[B") a0 Z = true := hw _ (List.mem_of_getElem? (i := 32) rfl)
theorem d3_57 : decode jdk_42_method_149_code 57 = .ok (.return_, 1) := by decide +kernel
abbrev y_3 : MethodName := ⟨"java/lang/String", "<init>", "([CIILjava/lang/Void;)V"⟩
theorem pn_1 : plainName "java/lang/String" = true := by first | (simp [plainName, overriddenIn]; done) | decide +kernel
-- java/lang/String.<init>([CIILjava/lang/Void;)V
abbrev Rm4 : Room := { frames := 2, cells := 1, slots := 2, locals := 35 }
def Q4 (Z : State) (a1 : Addr) (a2 : Addr) (p4 : Int32) (p7 : Int32) (p8 : Int32) (k9 : ClassId) (h0 : Heap) (n0 : Nat) (v : Option Value) (h : Heap) (L : List Loc) : Prop := ∃ b12_b2 : Addr, ∃ k12_k2 : ClassId, v = none ∧ Fr n0 L ∧ Keep h0 h [a1] ∧ Exa Z h a1 "java/lang/String" ∧ Fld Z h a1 "java/lang/String" "coder" "B" (.int (0 : Int32)) ∧ Fld Z h a1 "java/lang/String" "value" "[B" (.ref b12_b2) ∧ h0.size ≤ b12_b2 ∧ Exa Z h b12_b2 "[B" ∧ Arv Z h b12_b2 k12_k2 .byte (2 : Int32) [(.int (nar .byte (p7.toInt8.toInt32))), (.int (nar .byte (p8.toInt8.toInt32)))] (.int (0 : Int32))
theorem ef4 (a1 : Addr) (a2 : Addr) (m : MethodId) : entryFrame m #[(.ref a1), (.ref a2), (.int (0 : Int32)), (.int (2 : Int32)), .null] 6 = mkF m 0 #[.val (.ref a1), .val (.ref a2), .val (.int (0 : Int32)), .val (.int (2 : Int32)), .val .null, .unset] [] := by first | (simp [entryFrame, mkF, argsToLocals, Value.category]; done) | rfl
theorem rm4 (l : Launch) (Z : State) (a0 : Array Value) (hw : ∀ d ∈ tables_1, d.before a0 Z = true) (ws : List Jvm.Cond) (a1 : Addr) (a2 : Addr) (p4 : Int32) (p7 : Int32) (p8 : Int32) (k9 : ClassId) (h0 : Heap) (n0 : Nat) (Z0 : n0 ≤ h0.size) (S_COMPACT_STRINGS : Sta Z Z.heap "java/lang/String" "COMPACT_STRINGS" "Z" (.int p4)) (Od0 : Old Z n0 h0) (c6 : ¬ (p4 = (0 : Int32))) (V_a2 : Arv Z h0 a2 k9 .char (2 : Int32) [(.int p7), (.int p8)] (.int (0 : Int32))) (c10 : ¬ ((255 : Int32) < p7)) (c11 : ¬ ((255 : Int32) < p8)) (F_coder_a1 : Fld Z h0 a1 "java/lang/String" "coder" "B" (.int (0 : Int32))) (E_a1 : Exa Z h0 a1 "java/lang/String") (g_a1 : n0 ≤ a1) (F_value_a1 : Fld Z h0 a1 "java/lang/String" "value" "[B" .null) :
    OwnMet l Z y_3 jdk_42_method_149_code 6 none ws Rm4 #[(.ref a1), (.ref a2), (.int (0 : Int32)), (.int (2 : Int32)), .null] h0 (Q4 Z a1 a2 p4 p7 p8 k9 h0 n0) := by
  refine own_body (plainFor_of_name pn_1) (ef4 a1 a2) ?_
  intro p e s m below meth c s₁ hx hby hml hown hnm hret hZ X0 e0
  have N0 := Fr.nil n0
  obtain ⟨T3, X3, e3, st3⟩ := initO X0 hx hZ hown (w_15 hw) (w_16 hw) (w_17 hw) e0 (g := (mkF m 1 #[.val (.ref a1), .val (.ref a2), .val (.int (0 : Int32)), .val (.int (2 : Int32)), .val .null, .unset] [(.ref a1)])) rfl (by rw [hml]; rfl) rfl (hb hby d3_1) (by decide) (W := 0) (by show 2 * 0 + _ ≤ _; exact Nat.le_of_eq rfl) (by decide)
  obtain ⟨T5, X5, e5, st5⟩ := getS2 X3 hx hZ hown (host := "") (Or.inl (w_18 hw)) Via.refl e3 (S_COMPACT_STRINGS.ext Od0.2) (g := (mkF m 27 #[.val (.ref a1), .val (.ref a2), .val (.int (0 : Int32)), .val (.int (2 : Int32)), .val .null, .unset] [])) rfl (hb hby d3_27)
  obtain ⟨_, T12, L12, X12, hQ12, st12⟩ := own_callS X5 hx hZ hown (y := y_1) (w_19 hw) (w_20 hw) (w_21 hw) (w_22 hw) (rm2 l Z a0 hw [] a2 p7 p8 k9 h0 n0 Z0 V_a2 c10 c11) e5 (Ls := #[.val (.ref a1), .val (.ref a2), .val (.int (0 : Int32)), .val (.int (2 : Int32)), .val .null, .unset]) (by rw [hml]; rfl) (argsL := [(.ref a2), (.int (0 : Int32)), (.int (2 : Int32))]) (rest := []) (lenOf pd_1 rfl) (hb hby d3_36) (W := 0)
  obtain ⟨b12_b2, k12_k2, rfl, Nq12, K12, o12_0, o12_1, o12_2⟩ := hQ12
  have N12 := Fr.app N0 Nq12
  have s0 := K12.1
  have z1 := Nat.le_trans Z0 s0
  obtain ⟨_, T13, L13, X13, hQ13, st13⟩ := own_callS X12 hx hZ hown (y := y_2) (w_27 hw) (w_28 hw) (w_21 hw) (w_29 hw) (rm3 l Z a0 hw [] b12_b2 (nar .byte (p7.toInt8.toInt32)) (nar .byte (p8.toInt8.toInt32)) k12_k2 T12.heap n0 z1 o12_2) rfl (Ls := #[.val (.ref a1), .val (.ref a2), .val (.int (0 : Int32)), .val (.int (2 : Int32)), .val .null, .val (.ref b12_b2)]) (by rw [hml]; rfl) (argsL := [(.ref b12_b2), (.int (2 : Int32))]) (rest := [(.ref a1)]) (lenOf pd_2 rfl) (hb hby d3_45) (W := 1)
  obtain ⟨rfl, Nq13, e13⟩ := hQ13
  have N13 := Fr.app N12 Nq13
  have Fl14 := (F_coder_a1.keep K12 nin0)
  have Ex15 := (E_a1.keep K12)
  obtain ⟨T16, h16, X16, e16, W16, st16⟩ := putFN X13 hx hZ hown (w_30 hw) Via.refl e13 Fl14 Ex15 (Or.inr ⟨(w_31 hw), rfl, hnm⟩) (w_6 hw) (ty := .byte) (v' := (.int (nar .byte (0 : Int32)))) (by decide) rfl (fits_nar_byte _) (g := (mkF m 48 #[.val (.ref a1), .val (.ref a2), .val (.int (0 : Int32)), .val (.int (2 : Int32)), .val .null, .val (.ref b12_b2)] [(.int (0 : Int32)), (.ref a1)])) rfl rfl (hb hby d3_48)
  have s1 := (Keep.of_wr W16).1
  have N16 := Fr.snoc X16 N13 g_a1
  have Fw16 : Fld Z h16 a1 "java/lang/String" "coder" "B" (.int (0 : Int32)) := Fl14.same W16
  have Ex17 := (Ex15.wr W16)
  have Fl18 := ((F_value_a1.keep K12 nin0).other W16 (Or.inr (slot_ne (Or.inr (w_33 hw)) (Or.inr (w_31 hw)) (by decide) (t := (.array .byte)) (t' := .byte) (by decide) (by decide))))
  obtain ⟨T19, h19, X19, e19, W19, st19⟩ := putF X16 hx hZ hown (host := "") (Or.inl (w_32 hw)) Via.refl e16 Fl18 Ex17 (Or.inr ⟨(w_33 hw), rfl, hnm⟩) (w_6 hw) (ty := (.array .byte)) (by decide) rfl rfl (g := (mkF m 54 #[.val (.ref a1), .val (.ref a2), .val (.int (0 : Int32)), .val (.int (2 : Int32)), .val .null, .val (.ref b12_b2)] [(.ref b12_b2), (.ref a1)])) rfl rfl (hb hby d3_54)
  have s2 := (Keep.of_wr W19).1
  have N19 := Fr.snoc X19 N16 g_a1
  have Fw19 : Fld Z h19 a1 "java/lang/String" "value" "[B" (.ref b12_b2) := Fl18.same W19
  have Ex20 := (Ex17.wr W19)
  have Fl21 := (Fw16.other W19 (Or.inr (slot_ne (Or.inr (w_31 hw)) (Or.inr (w_33 hw)) (by decide) (t := .byte) (t' := (.array .byte)) (by decide) (by decide))))
  have sz_b12_b2 : h0.size ≤ b12_b2 := o12_0
  have Ex22 := ((o12_1.wr W16).wr W19)
  have ne_a1_b12_b2 := Nat.ne_of_lt (Nat.lt_of_lt_of_le F_value_a1.lt o12_0)
  have Va23 := ((o12_2.other W16 (Ne.symm ne_a1_b12_b2)).other W19 (Ne.symm ne_a1_b12_b2))
  have Kp0 : Keep h0 T12.heap [a1] := (Keep.refl h0 [a1]).trans K12 all0
  have Kp1 : Keep h0 h16 [a1] := Kp0.wr W16 (Or.inl (List.mem_of_getElem? (i := 0) rfl))
  have Kp2 : Keep h0 h19 [a1] := Kp1.wr W19 (Or.inl (List.mem_of_getElem? (i := 0) rfl))
  refine ⟨T19, _, _, _, none, X19, (fun _ => rfl), by decide, by decide, ?_, fun fs hr => ?_⟩
  · show Q4 Z a1 a2 p4 p7 p8 k9 h0 n0 _ T19.heap _
    rw [e19]
    exact ⟨b12_b2, k12_k2, rfl, N19, Kp2, Ex20, Fl21, Fw19, sz_b12_b2, Ex22, Va23⟩
  · show Steps p.tables e below (s₁.setTop (mkF m 0 #[.val (.ref a1), .val (.ref a2), .val (.int (0 : Int32)), .val (.int (2 : Int32)), .val .null, .unset] [])) _
    refine XS.aloadN X0.here hx rfl (hb hby d3_0) rfl rfl ?_
    refine st3 _ ?_
    refine XS.iloadN X3.here hx rfl (hb hby d3_4) rfl ?_
    refine XS.ifYes X3.here hx rfl (pc0 := 5) (pc' := 27) rfl (hb hby d3_5) rfl ((if0 _ _).trans (feq ((by decide : ¬ ((2 : Int32) = (0 : Int32))) : ¬ ((2 : Int32) = (0 : Int32)))).2) (by decide) (by decide) ?_
    refine st5 _ ?_
    refine XS.ifNo X5.here hx rfl (hb hby d3_30) rfl ((if0 _ _).trans (feq (c6 : ¬ (p4 = (0 : Int32)))).1) ?_
    refine XS.aloadN X5.here hx rfl (hb hby d3_33) rfl rfl ?_
    refine XS.iloadN X5.here hx rfl (hb hby d3_34) rfl ?_
    refine XS.iloadN X5.here hx rfl (hb hby d3_35) rfl ?_
    refine st12 _ ?_
    refine XS.astore X12.here hx rfl (hb hby d3_39) rfl rfl (l' := #[.val (.ref a1), .val (.ref a2), .val (.int (0 : Int32)), .val (.int (2 : Int32)), .val .null, .val (.ref b12_b2)]) rfl ?_
    refine XS.aloadN X12.here hx rfl (hb hby d3_41) rfl rfl ?_
    show Steps p.tables e below (T12.setTop (mkF m 42 #[.val (.ref a1), .val (.ref a2), .val (.int (0 : Int32)), .val (.int (2 : Int32)), .val .null, .val (.ref b12_b2)] [(.ref a1)])) _
    refine XS.aload X12.here hx rfl (hb hby d3_42) rfl rfl ?_
    refine XS.iloadN X12.here hx rfl (hb hby d3_44) rfl ?_
    refine st13 _ ?_
    refine st16 _ ?_
    refine XS.aloadN X16.here hx rfl (hb hby d3_51) rfl rfl ?_
    refine XS.aload X16.here hx rfl (hb hby d3_52) rfl rfl ?_
    refine st19 _ ?_
    exact X19.returnOut hx hret (hb hby d3_57) hr
theorem pd_3 : parseMethodDescriptor "([CIILjava/lang/Void;)V" = some ⟨[(.array .char), .int, .int, (.object "java/lang/Void")], none⟩ := by decide +kernel
theorem w_14 {a0 : Array Value} {Z : State} (hw : ∀ d ∈ tables_1, d.before a0 Z = true) : Jvm.Cond.before (Jvm.Cond.code ({ cls := "java/lang/String", name := "<init>", desc := "([CIILjava/lang/Void;)V" } : Jvm.MethodName) jdk_42_method_149_code (6 : Nat) (Option.none : Option Jvm.ClassFile.FieldType)) a0 Z = true := hw _ (List.mem_of_getElem? (i := 14) rfl)
theorem w_11 {a0 : Array Value} {Z : State} (hw : ∀ d ∈ tables_1, d.before a0 Z = true) : Jvm.Cond.before (Jvm.Cond.methodLink "java/lang/String" (27 : Nat) ({ cls := "java/lang/String", name := "<init>", desc := "([CIILjava/lang/Void;)V" } : Jvm.MethodName)) a0 Z = true := hw _ (List.mem_of_getElem? (i := 11) rfl)
theorem w_12 {a0 : Array Value} {Z : State} (hw : ∀ d ∈ tables_1, d.before a0 Z = true) : Jvm.Cond.before (Jvm.Cond.instanceMethod ({ cls := "java/lang/String", name := "<init>", desc := "([CIILjava/lang/Void;)V" } : Jvm.MethodName)) a0 Z = true := hw _ (List.mem_of_getElem? (i := 12) rfl)
theorem d2_9 : decode jdk_42_method_3_code 9 = .ok (.return_, 1) := by decide +kernel
abbrev y_4 : MethodName := ⟨"java/lang/String", "<init>", "([C)V"⟩
-- java/lang/String.<init>([C)V
abbrev Rm5 : Room := { frames := 3, cells := 1, slots := 2, locals := 52 }
def Q5 (Z : State) (a1 : Addr) (a2 : Addr) (p3 : Int32) (p4 : Int32) (k5 : ClassId) (p7 : Int32) (h0 : Heap) (n0 : Nat) (v : Option Value) (h : Heap) (L : List Loc) : Prop := ∃ b11_b12_b2 : Addr, ∃ k11_k12_k2 : ClassId, v = none ∧ Fr n0 L ∧ Keep h0 h [a1] ∧ Exa Z h a1 "java/lang/String" ∧ Fld Z h a1 "java/lang/String" "coder" "B" (.int (0 : Int32)) ∧ Fld Z h a1 "java/lang/String" "value" "[B" (.ref b11_b12_b2) ∧ h0.size ≤ b11_b12_b2 ∧ Exa Z h b11_b12_b2 "[B" ∧ Arv Z h b11_b12_b2 k11_k12_k2 .byte (2 : Int32) [(.int (nar .byte (p3.toInt8.toInt32))), (.int (nar .byte (p4.toInt8.toInt32)))] (.int (0 : Int32))
theorem ef5 (a1 : Addr) (a2 : Addr) (m : MethodId) : entryFrame m #[(.ref a1), (.ref a2)] 2 = mkF m 0 #[.val (.ref a1), .val (.ref a2)] [] := by first | (simp [entryFrame, mkF, argsToLocals, Value.category]; done) | rfl
theorem rm5 (l : Launch) (Z : State) (a0 : Array Value) (hw : ∀ d ∈ tables_1, d.before a0 Z = true) (ws : List Jvm.Cond) (a1 : Addr) (a2 : Addr) (p3 : Int32) (p4 : Int32) (k5 : ClassId) (p7 : Int32) (h0 : Heap) (n0 : Nat) (Z0 : n0 ≤ h0.size) (V_a2 : Arv Z h0 a2 k5 .char (2 : Int32) [(.int p3), (.int p4)] (.int (0 : Int32))) (S_COMPACT_STRINGS : Sta Z Z.heap "java/lang/String" "COMPACT_STRINGS" "Z" (.int p7)) (Od0 : Old Z n0 h0) (c8 : ¬ (p7 = (0 : Int32))) (c9 : ¬ ((255 : Int32) < p3)) (c10 : ¬ ((255 : Int32) < p4)) (F_coder_a1 : Fld Z h0 a1 "java/lang/String" "coder" "B" (.int (0 : Int32))) (E_a1 : Exa Z h0 a1 "java/lang/String") (g_a1 : n0 ≤ a1) (F_value_a1 : Fld Z h0 a1 "java/lang/String" "value" "[B" .null) :
    OwnMet l Z y_4 jdk_42_method_3_code 2 none ws Rm5 #[(.ref a1), (.ref a2)] h0 (Q5 Z a1 a2 p3 p4 k5 p7 h0 n0) := by
  refine own_body (plainFor_of_name pn_1) (ef5 a1 a2) ?_
  intro p e s m below meth c s₁ hx hby hml hown hnm hret hZ X0 e0
  have N0 := Fr.nil n0
  obtain ⟨cl6, Ar6, q6, S6, M6, Hs6, G6⟩ := id V_a2
  obtain ⟨_, T11, L11, X11, hQ11, st11⟩ := own_special X0 hx hZ hown (y := y_3) (a := a1) (w_11 hw) (w_12 hw) (w_7 hw) (w_14 hw) (rm4 l Z a0 hw [] a1 a2 p7 p3 p4 k5 h0 n0 Z0 S_COMPACT_STRINGS Od0 c8 V_a2 c9 c10 F_coder_a1 E_a1 g_a1 F_value_a1) e0 (Ls := #[.val (.ref a1), .val (.ref a2)]) (by rw [hml]; rfl) (argsL := [(.ref a2), (.int (0 : Int32)), (.int (2 : Int32)), .null]) (rest := []) (lenOf pd_3 rfl) (hb hby d2_6) (W := 0)
  obtain ⟨b11_b12_b2, k11_k12_k2, rfl, Nq11, K11, o11_0, o11_1, o11_2, o11_3, o11_4, o11_5⟩ := hQ11
  have N11 := Fr.app N0 Nq11
  have s0 := K11.1
  have sz_b11_b12_b2 : h0.size ≤ b11_b12_b2 := o11_3
  have Kp0 : Keep h0 T11.heap [a1] := (Keep.refl h0 [a1]).trans K11 (allS (Or.inl (List.mem_of_getElem? (i := 0) rfl)) all0)
  refine ⟨T11, _, _, _, none, X11, (fun _ => rfl), by decide, by decide, ?_, fun fs hr => ?_⟩
  · show Q5 Z a1 a2 p3 p4 k5 p7 h0 n0 _ T11.heap _
    exact ⟨b11_b12_b2, k11_k12_k2, rfl, N11, Kp0, o11_0, o11_1, o11_2, sz_b11_b12_b2, o11_4, o11_5⟩
  · show Steps p.tables e below (s₁.setTop (mkF m 0 #[.val (.ref a1), .val (.ref a2)] [])) _
    refine XS.aloadN X0.here hx rfl (hb hby d2_0) rfl rfl ?_
    refine XS.aloadN X0.here hx rfl (hb hby d2_1) rfl rfl ?_
    refine XS.iconst X0.here hx rfl (hb hby d2_2) ?_
    refine XS.aloadN X0.here hx rfl (hb hby d2_3) rfl rfl ?_
    refine X0.arraylength hx (by rw [e0]; exact Ar6.1) (State.isArrayOf_alike hZ.alike Ar6.2.1) (g := (mkF m 4 #[.val (.ref a1), .val (.ref a2)] [(.ref a2), (.int (0 : Int32)), (.ref a2), (.ref a1)])) rfl rfl (hb hby d2_4) _ ?_
    show Steps p.tables e below (s₁.setTop (mkF m 5 #[.val (.ref a1), .val (.ref a2)] [(.int cl6.slots.size.toInt32), (.int (0 : Int32)), (.ref a2), (.ref a1)])) _
    rw [len_of S6 M6]
    refine XS.aconstNull X0.here hx rfl (hb hby d2_5) ?_
    refine st11 _ ?_
    exact X11.returnOut hx hret (hb hby d2_9) hr
theorem pd_4 : parseMethodDescriptor "([C)V" = some ⟨[(.array .char)], none⟩ := by decide +kernel
theorem w_10 {a0 : Array Value} {Z : State} (hw : ∀ d ∈ tables_1, d.before a0 Z = true) : Jvm.Cond.before (Jvm.Cond.code ({ cls := "java/lang/String", name := "<init>", desc := "([C)V" } : Jvm.MethodName) jdk_42_method_3_code (2 : Nat) (Option.none : Option Jvm.ClassFile.FieldType)) a0 Z = true := hw _ (List.mem_of_getElem? (i := 10) rfl)
theorem w_8 {a0 : Array Value} {Z : State} (hw : ∀ d ∈ tables_1, d.before a0 Z = true) : Jvm.Cond.before (Jvm.Cond.methodLink "com/example/whenfree/whenfree/DialogReversedPinLaw" (38 : Nat) ({ cls := "java/lang/String", name := "<init>", desc := "([C)V" } : Jvm.MethodName)) a0 Z = true := hw _ (List.mem_of_getElem? (i := 8) rfl)
theorem w_9 {a0 : Array Value} {Z : State} (hw : ∀ d ∈ tables_1, d.before a0 Z = true) : Jvm.Cond.before (Jvm.Cond.instanceMethod ({ cls := "java/lang/String", name := "<init>", desc := "([C)V" } : Jvm.MethodName)) a0 Z = true := hw _ (List.mem_of_getElem? (i := 9) rfl)
theorem d1_33 : decode method_3_code 33 = .ok (.areturn, 1) := by decide +kernel
abbrev y_5 : MethodName := ⟨"com/example/whenfree/whenfree/DialogReversedPinLaw", "draw", "(I)Ljava/lang/String;"⟩
theorem pn_2 : plainName "com/example/whenfree/whenfree/DialogReversedPinLaw" = true := by first | (simp [plainName, overriddenIn]; done) | decide +kernel
-- com/example/whenfree/whenfree/DialogReversedPinLaw.draw(I)Ljava/lang/String;
abbrev Rm6 : Room := { frames := 4, cells := 3, slots := 8, locals := 66 }
def Q6 (Z : State) (p1 : Int32) (p11 : Int32) (h0 : Heap) (n0 : Nat) (v : Option Value) (h : Heap) (L : List Loc) : Prop := ∃ b9 : Addr, ∃ b15_b11_b12_b2 : Addr, ∃ k15_k11_k12_k2 : ClassId, v = some (.ref b9) ∧ Fr n0 L ∧ Keep h0 h [] ∧ h0.size ≤ b9 ∧ Exa Z h b9 "java/lang/String" ∧ Fld Z h b9 "java/lang/String" "coder" "B" (.int (0 : Int32)) ∧ Fld Z h b9 "java/lang/String" "value" "[B" (.ref b15_b11_b12_b2) ∧ h0.size ≤ b15_b11_b12_b2 ∧ Exa Z h b15_b11_b12_b2 "[B" ∧ Arv Z h b15_b11_b12_b2 k15_k11_k12_k2 .byte (2 : Int32) [(.int (nar .byte ((nar .char ((p1 &&& (255 : Int32)).toUInt32.toUInt16.toUInt32.toInt32)).toInt8.toInt32))), (.int (nar .byte ((nar .char ((((p1.toUInt32 >>> ((8 : Int32) &&& 31).toUInt32).toInt32) &&& (255 : Int32)).toUInt32.toUInt16.toUInt32.toInt32)).toInt8.toInt32)))] (.int (0 : Int32)) ∧ b9 ≠ b15_b11_b12_b2
theorem ef6 (p1 : Int32) (m : MethodId) : entryFrame m #[(.int p1)] 2 = mkF m 0 #[.val (.int p1), .unset] [] := by first | (simp [entryFrame, mkF, argsToLocals, Value.category]; done) | rfl
theorem rm6 (l : Launch) (Z : State) (a0 : Array Value) (hw : ∀ d ∈ tables_1, d.before a0 Z = true) (ws : List Jvm.Cond) (p1 : Int32) (p11 : Int32) (h0 : Heap) (n0 : Nat) (Z0 : n0 ≤ h0.size) (S_COMPACT_STRINGS : Sta Z Z.heap "java/lang/String" "COMPACT_STRINGS" "Z" (.int p11)) (Od0 : Old Z n0 h0) (c12 : ¬ (p11 = (0 : Int32))) :
    OwnMet l Z y_5 method_3_code 2 (some (.object "java/lang/String")) ws Rm6 #[(.int p1)] h0 (Q6 Z p1 p11 h0 n0) := by
  refine own_body (plainFor_of_name pn_2) (ef6 p1) ?_
  intro p e s m below meth c s₁ hx hby hml hown hnm hret hZ X0 e0
  have N0 := Fr.nil n0
  obtain ⟨T2, h2, k2, X2, e2, E2, A2, B2, st2⟩ := newPE (aty := .char) X0 hx hZ (w_4 hw) e0 (g := (mkF m 1 #[.val (.int p1), .unset] [(.int (2 : Int32))])) rfl (hb hby d1_1) rfl (by decide) (cap := 2) (by decide) (by decide) (by decide) (by decide) (ad := "[C") (by decide)
  obtain ⟨b2, g2⟩ : ∃ z, z = h0.size := ⟨_, rfl⟩
  rw [← g2] at A2 B2 st2
  have s0 := E2.1
  have Vn2 : Arv Z h2 b2 k2 .char (2 : Int32) [(.int (0 : Int32)), (.int (0 : Int32))] (.int (0 : Int32)) := (Arv.new A2 (by decide)).pad (pad_rep [] (.int (0 : Int32)) 2)
  obtain ⟨cl3, Ar3, q3, S3, M3, Hs3, G3⟩ := id Vn2
  have hin4 : ¬ ((0 : Int32) < 0 ∨ cl3.slots.size ≤ ((0 : Int32)).toNatClampNeg) := inb_of S3 ⟨(by decide : ¬ ((0 : Int32) < (0 : Int32))), (by decide : (0 : Int32) < (2 : Int32))⟩
  obtain ⟨T5, h5, X5, e5, W5, st5⟩ := stC X2 hx hZ e2 Ar3 (j := (0 : Int32)) hin4 (g := (mkF m 12 #[.val (.int p1), .val (.ref b2)] [(.int ((p1 &&& (255 : Int32)).toUInt32.toUInt16.toUInt32.toInt32)), (.int (0 : Int32)), (.ref b2)])) rfl rfl (hb hby d1_12)
  have s1 := (Keep.of_wr W5).1
  have g_b2 : n0 ≤ b2 := Nat.le_trans Z0 (Nat.le_of_eq g2.symm)
  have N5 := Fr.snoc X5 N0 g_b2
  have Vs5 : Arv Z h5 b2 k2 .char (2 : Int32) [(.int (nar .char ((p1 &&& (255 : Int32)).toUInt32.toUInt16.toUInt32.toInt32))), (.int (0 : Int32))] (.int (0 : Int32)) := Arv.set Ar3 q3 S3 M3 Hs3 G3 (fits_nar_char _) W5 0 rfl (Nat.le_of_ble_eq_true rfl)
  obtain ⟨cl6, Ar6, q6, S6, M6, Hs6, G6⟩ := id Vs5
  have hin7 : ¬ ((1 : Int32) < 0 ∨ cl6.slots.size ≤ ((1 : Int32)).toNatClampNeg) := inb_of S6 ⟨(by decide : ¬ ((1 : Int32) < (0 : Int32))), (by decide : (1 : Int32) < (2 : Int32))⟩
  obtain ⟨T8, h8, X8, e8, W8, st8⟩ := stC X5 hx hZ e5 Ar6 (j := (1 : Int32)) hin7 (g := (mkF m 24 #[.val (.int p1), .val (.ref b2)] [(.int ((((p1.toUInt32 >>> ((8 : Int32) &&& 31).toUInt32).toInt32) &&& (255 : Int32)).toUInt32.toUInt16.toUInt32.toInt32)), (.int (1 : Int32)), (.ref b2)])) rfl rfl (hb hby d1_24)
  have s2 := (Keep.of_wr W8).1
  have N8 := Fr.snoc X8 N5 g_b2
  have Vs8 : Arv Z h8 b2 k2 .char (2 : Int32) [(.int (nar .char ((p1 &&& (255 : Int32)).toUInt32.toUInt16.toUInt32.toInt32))), (.int (nar .char ((((p1.toUInt32 >>> ((8 : Int32) &&& 31).toUInt32).toInt32) &&& (255 : Int32)).toUInt32.toUInt16.toUInt32.toInt32)))] (.int (0 : Int32)) := Arv.set Ar6 q6 S6 M6 Hs6 G6 (fits_nar_char _) W8 1 rfl (Nat.le_of_ble_eq_true rfl)
  obtain ⟨T9, h9, X9, e9, E9, A9, D9, -, st9⟩ := newO X8 hx hZ hown (w_5 hw) (w_6 hw) (w_7 hw) e8 (g := (mkF m 25 #[.val (.int p1), .val (.ref b2)] [])) rfl (hb hby d1_25) (by decide) (by decide)
  obtain ⟨b9, g9⟩ : ∃ z, z = h8.size := ⟨_, rfl⟩
  rw [← g9] at A9 D9 st9
  have s3 := E9.1
  have Fn9_coder : Fld Z h9 b9 "java/lang/String" "coder" "B" (.int (0 : Int32)) := D9 (Or.inr (w_31 hw)) (ty := .byte) (by decide)
  have Fn9_value : Fld Z h9 b9 "java/lang/String" "value" "[B" .null := D9 (Or.inr (w_33 hw)) (ty := (.array .byte)) (by decide)
  have Va10 := (Vs8.ext E9)
  have Od1 : Old Z n0 h2 := Od0.ext E2
  have Od2 : Old Z n0 h5 := Od1.wr W5 g_b2
  have Od3 : Old Z n0 h8 := Od2.wr W8 g_b2
  have Od4 : Old Z n0 h9 := Od3.ext E9
  have cd13 : ¬ ((255 : Int32) < (nar .char ((p1 &&& (255 : Int32)).toUInt32.toUInt16.toUInt32.toInt32))) := (by rw [Int32.lt_iff_toInt_lt]; have : ((255 : Int32)).toInt = 255 := (by decide); have := rng32 (nar .char ((p1 &&& (255 : Int32)).toUInt32.toUInt16.toUInt32.toInt32)); have := rng32 ((p1 &&& (255 : Int32)).toUInt32.toUInt16.toUInt32.toInt32); have := rng32 (p1 &&& (255 : Int32)); have := rng32 p1; have := own_mask p1 (255 : Int32) 8 (by decide) (by decide) 256 (by decide); have := c_i2c (p1 &&& (255 : Int32)); have := own_c_nar_char ((p1 &&& (255 : Int32)).toUInt32.toUInt16.toUInt32.toInt32); omega)
  have cd14 : ¬ ((255 : Int32) < (nar .char ((((p1.toUInt32 >>> ((8 : Int32) &&& 31).toUInt32).toInt32) &&& (255 : Int32)).toUInt32.toUInt16.toUInt32.toInt32))) := (by rw [Int32.lt_iff_toInt_lt]; have : ((255 : Int32)).toInt = 255 := (by decide); have := rng32 (nar .char ((((p1.toUInt32 >>> ((8 : Int32) &&& 31).toUInt32).toInt32) &&& (255 : Int32)).toUInt32.toUInt16.toUInt32.toInt32)); have := rng32 ((((p1.toUInt32 >>> ((8 : Int32) &&& 31).toUInt32).toInt32) &&& (255 : Int32)).toUInt32.toUInt16.toUInt32.toInt32); have := rng32 (((p1.toUInt32 >>> ((8 : Int32) &&& 31).toUInt32).toInt32) &&& (255 : Int32)); have := rng32 ((p1.toUInt32 >>> ((8 : Int32) &&& 31).toUInt32).toInt32); have := rng32 p1; have : ((8 : Int32)).toInt = 8 := (by decide); have := own_ushr p1 (8 : Int32) 8 (by decide) (by decide) 256 (by decide); have := own_mask ((p1.toUInt32 >>> ((8 : Int32) &&& 31).toUInt32).toInt32) (255 : Int32) 8 (by decide) (by decide) 256 (by decide); have := c_i2c (((p1.toUInt32 >>> ((8 : Int32) &&& 31).toUInt32).toInt32) &&& (255 : Int32)); have := own_c_nar_char ((((p1.toUInt32 >>> ((8 : Int32) &&& 31).toUInt32).toInt32) &&& (255 : Int32)).toUInt32.toUInt16.toUInt32.toInt32); omega)
  have z3 := Nat.le_trans Z0 (Nat.le_trans (Nat.le_trans s0 s1) s2)
  have g_b9 : n0 ≤ b9 := Nat.le_trans z3 (Nat.le_of_eq g9.symm)
  have z4 := Nat.le_trans Z0 (Nat.le_trans (Nat.le_trans (Nat.le_trans s0 s1) s2) s3)
  obtain ⟨_, T15, L15, X15, hQ15, st15⟩ := own_special X9 hx hZ hown (y := y_4) (a := b9) (w_8 hw) (w_9 hw) (w_7 hw) (w_10 hw) (rm5 l Z a0 hw [] b9 b2 (nar .char ((p1 &&& (255 : Int32)).toUInt32.toUInt16.toUInt32.toInt32)) (nar .char ((((p1.toUInt32 >>> ((8 : Int32) &&& 31).toUInt32).toInt32) &&& (255 : Int32)).toUInt32.toUInt16.toUInt32.toInt32)) k2 p11 h9 n0 z4 Va10 S_COMPACT_STRINGS Od4 c12 cd13 cd14 Fn9_coder A9 g_b9 Fn9_value) e9 (Ls := #[.val (.int p1), .val (.ref b2)]) (by rw [hml]; rfl) (argsL := [(.ref b2)]) (rest := [(.ref b9)]) (lenOf pd_4 rfl) (hb hby d1_30) (W := 1)
  obtain ⟨b15_b11_b12_b2, k15_k11_k12_k2, rfl, Nq15, K15, o15_0, o15_1, o15_2, o15_3, o15_4, o15_5⟩ := hQ15
  have N15 := Fr.app N8 Nq15
  have s4 := K15.1
  have sz_b9 : h0.size ≤ b9 := Nat.le_trans (Nat.le_trans (Nat.le_trans s0 s1) s2) (Nat.le_of_eq g9.symm)
  have sz_b15_b11_b12_b2 : h0.size ≤ b15_b11_b12_b2 := Nat.le_trans (Nat.le_trans (Nat.le_trans (Nat.le_trans s0 s1) s2) s3) o15_3
  have ne_b9_b15_b11_b12_b2 := Nat.ne_of_lt (Nat.lt_of_lt_of_le Fn9_value.lt o15_3)
  have Kp0 : Keep h0 h2 [] := (Keep.refl h0 []).ext E2
  have sz_b2 : h0.size ≤ b2 := (Nat.le_of_eq g2.symm)
  have Kp1 : Keep h0 h5 [] := Kp0.wr W5 (Or.inr sz_b2)
  have Kp2 : Keep h0 h8 [] := Kp1.wr W8 (Or.inr sz_b2)
  have Kp3 : Keep h0 h9 [] := Kp2.ext E9
  have Kp4 : Keep h0 T15.heap [] := Kp3.trans K15 (allS (Or.inr sz_b9) all0)
  refine ⟨T15, _, _, _, (some (.ref b9)), X15, nofun, by decide, by decide, ?_, fun fs hr => ?_⟩
  · show Q6 Z p1 p11 h0 n0 _ T15.heap _
    exact ⟨b9, b15_b11_b12_b2, k15_k11_k12_k2, rfl, N15, Kp4, sz_b9, o15_0, o15_1, o15_2, sz_b15_b11_b12_b2, o15_4, o15_5, ne_b9_b15_b11_b12_b2⟩
  · show Steps p.tables e below (s₁.setTop (mkF m 0 #[.val (.int p1), .unset] [])) _
    refine XS.iconst X0.here hx rfl (hb hby d1_0) ?_
    refine st2 _ ?_
    refine XS.astoreN X2.here hx rfl (hb hby d1_3) rfl rfl (l' := #[.val (.int p1), .val (.ref b2)]) rfl ?_
    refine XS.aloadN X2.here hx rfl (hb hby d1_4) rfl rfl ?_
    refine XS.iconst X2.here hx rfl (hb hby d1_5) ?_
    refine XS.iloadN X2.here hx rfl (hb hby d1_6) rfl ?_
    refine XS.sipush X2.here hx rfl (hb hby d1_7) ?_
    refine XS.iand X2.here hx rfl (hb hby d1_10) rfl ?_
    refine XS.i2c X2.here hx rfl (hb hby d1_11) rfl ?_
    refine st5 _ ?_
    refine XS.aloadN X5.here hx rfl (hb hby d1_13) rfl rfl ?_
    refine XS.iconst X5.here hx rfl (hb hby d1_14) ?_
    show Steps p.tables e below (T5.setTop (mkF m 15 #[.val (.int p1), .val (.ref b2)] [(.int (1 : Int32)), (.ref b2)])) _
    refine XS.iloadN X5.here hx rfl (hb hby d1_15) rfl ?_
    refine XS.bipush X5.here hx rfl (hb hby d1_16) ?_
    refine XS.iushr X5.here hx rfl (hb hby d1_18) rfl ?_
    refine XS.sipush X5.here hx rfl (hb hby d1_19) ?_
    refine XS.iand X5.here hx rfl (hb hby d1_22) rfl ?_
    refine XS.i2c X5.here hx rfl (hb hby d1_23) rfl ?_
    refine st8 _ ?_
    refine st9 _ ?_
    refine XS.dup X9.here hx rfl (hb hby d1_28) rfl rfl ?_
    refine XS.aloadN X9.here hx rfl (hb hby d1_29) rfl rfl ?_
    refine st15 _ ?_
    exact retOut X15 hx hret rfl (Or.inr (Or.inr (Or.inr (Or.inr ⟨rfl, rfl, rfl⟩)))) (hb hby d1_33) hr
theorem pd_5 : parseMethodDescriptor "(I)Ljava/lang/String;" = some ⟨[.int], some (.object "java/lang/String")⟩ := by decide +kernel
theorem w_2 {a0 : Array Value} {Z : State} (hw : ∀ d ∈ tables_1, d.before a0 Z = true) : Jvm.Cond.before (Jvm.Cond.initialized "com/example/whenfree/whenfree/DialogReversedPinLaw") a0 Z = true := hw _ (List.mem_of_getElem? (i := 2) rfl)
theorem w_3 {a0 : Array Value} {Z : State} (hw : ∀ d ∈ tables_1, d.before a0 Z = true) : Jvm.Cond.before (Jvm.Cond.code ({ cls := "com/example/whenfree/whenfree/DialogReversedPinLaw", name := "draw", desc := "(I)Ljava/lang/String;" } : Jvm.MethodName) method_3_code (2 : Nat) (Option.some (Jvm.ClassFile.FieldType.object "java/lang/String"))) a0 Z = true := hw _ (List.mem_of_getElem? (i := 3) rfl)
theorem w_0 {a0 : Array Value} {Z : State} (hw : ∀ d ∈ tables_1, d.before a0 Z = true) : Jvm.Cond.before (Jvm.Cond.methodLink "com/example/whenfree/whenfree/DialogReversedPinLaw" (7 : Nat) ({ cls := "com/example/whenfree/whenfree/DialogReversedPinLaw", name := "draw", desc := "(I)Ljava/lang/String;" } : Jvm.MethodName)) a0 Z = true := hw _ (List.mem_of_getElem? (i := 0) rfl)
theorem w_1 {a0 : Array Value} {Z : State} (hw : ∀ d ∈ tables_1, d.before a0 Z = true) : Jvm.Cond.before (Jvm.Cond.static ({ cls := "com/example/whenfree/whenfree/DialogReversedPinLaw", name := "draw", desc := "(I)Ljava/lang/String;" } : Jvm.MethodName)) a0 Z = true := hw _ (List.mem_of_getElem? (i := 1) rfl)
theorem w_34 {a0 : Array Value} {Z : State} (hw : ∀ d ∈ tables_1, d.before a0 Z = true) : Jvm.Cond.before (Jvm.Cond.classLink "com/example/whenfree/whenfree/DialogReversedPinLaw" (13 : Nat) "com/example/whenfree/whenfree/Dialog") a0 Z = true := hw _ (List.mem_of_getElem? (i := 34) rfl)
theorem w_35 {a0 : Array Value} {Z : State} (hw : ∀ d ∈ tables_1, d.before a0 Z = true) : Jvm.Cond.before (Jvm.Cond.instantiable "com/example/whenfree/whenfree/Dialog" (3 : Nat)) a0 Z = true := hw _ (List.mem_of_getElem? (i := 35) rfl)
theorem w_36 {a0 : Array Value} {Z : State} (hw : ∀ d ∈ tables_1, d.before a0 Z = true) : Jvm.Cond.before (Jvm.Cond.initialized "com/example/whenfree/whenfree/Dialog") a0 Z = true := hw _ (List.mem_of_getElem? (i := 36) rfl)
theorem w_47 {a0 : Array Value} {Z : State} (hw : ∀ d ∈ tables_1, d.before a0 Z = true) : Jvm.Cond.before (Jvm.Cond.laysFinal "com/example/whenfree/whenfree/Dialog" "com/example/whenfree/whenfree/Dialog" "callId" "Ljava/lang/String;") a0 Z = true := hw _ (List.mem_of_getElem? (i := 47) rfl)
theorem w_49 {a0 : Array Value} {Z : State} (hw : ∀ d ∈ tables_1, d.before a0 Z = true) : Jvm.Cond.before (Jvm.Cond.laysFinal "com/example/whenfree/whenfree/Dialog" "com/example/whenfree/whenfree/Dialog" "uacTag" "Ljava/lang/String;") a0 Z = true := hw _ (List.mem_of_getElem? (i := 49) rfl)
theorem w_51 {a0 : Array Value} {Z : State} (hw : ∀ d ∈ tables_1, d.before a0 Z = true) : Jvm.Cond.before (Jvm.Cond.laysFinal "com/example/whenfree/whenfree/Dialog" "com/example/whenfree/whenfree/Dialog" "uasTag" "Ljava/lang/String;") a0 Z = true := hw _ (List.mem_of_getElem? (i := 51) rfl)
theorem d8_0 : decode prog_10_method_1_code 0 = .ok (.aload_n 0, 1) := by decide +kernel
theorem d8_1 : decode prog_10_method_1_code 1 = .ok (.invokespecial 1, 3) := by decide +kernel
theorem d9_0 : decode jdk_30_method_1_code 0 = .ok (.aload_n 0, 1) := by decide +kernel
theorem d9_1 : decode jdk_30_method_1_code 1 = .ok (.invokespecial 1, 3) := by decide +kernel
theorem w_45 {a0 : Array Value} {Z : State} (hw : ∀ d ∈ tables_1, d.before a0 Z = true) : Jvm.Cond.before (Jvm.Cond.methodLink "java/lang/Record" (1 : Nat) ({ cls := "java/lang/Object", name := "<init>", desc := "()V" } : Jvm.MethodName)) a0 Z = true := hw _ (List.mem_of_getElem? (i := 45) rfl)
theorem d9_4 : decode jdk_30_method_1_code 4 = .ok (.return_, 1) := by decide +kernel
abbrev y_6 : MethodName := ⟨"java/lang/Record", "<init>", "()V"⟩
theorem pn_3 : plainName "java/lang/Record" = true := by first | (simp [plainName, overriddenIn]; done) | decide +kernel
-- java/lang/Record.<init>()V
abbrev Rm7 : Room := { frames := 1, cells := 0, slots := 0, locals := 12 }
def Q7 (Z : State) (a1 : Addr) (h0 : Heap) (n0 : Nat) (v : Option Value) (h : Heap) (L : List Loc) : Prop := v = none ∧ Fr n0 L ∧ h = h0
theorem ef7 (a1 : Addr) (m : MethodId) : entryFrame m #[(.ref a1)] 1 = mkF m 0 #[.val (.ref a1)] [] := by first | (simp [entryFrame, mkF, argsToLocals, Value.category]; done) | rfl
theorem rm7 (l : Launch) (Z : State) (a0 : Array Value) (hw : ∀ d ∈ tables_1, d.before a0 Z = true) (ws : List Jvm.Cond) (a1 : Addr) (h0 : Heap) (n0 : Nat) (Z0 : n0 ≤ h0.size) :
    OwnMet l Z y_6 jdk_30_method_1_code 1 none ws Rm7 #[(.ref a1)] h0 (Q7 Z a1 h0 n0) := by
  refine own_body (plainFor_of_name pn_3) (ef7 a1) ?_
  intro p e s m below meth c s₁ hx hby hml hown hnm hret hZ X0 e0
  have N0 := Fr.nil n0
  obtain ⟨T2, X2, e2, st2⟩ := initO X0 hx hZ hown (w_45 hw) (w_16 hw) (w_17 hw) e0 (g := (mkF m 1 #[.val (.ref a1)] [(.ref a1)])) rfl (by rw [hml]; rfl) rfl (hb hby d9_1) (by decide) (W := 0) (by show 2 * 0 + _ ≤ _; exact Nat.le_of_eq rfl) (by decide)
  refine ⟨T2, _, _, _, none, X2, (fun _ => rfl), by decide, by decide, ?_, fun fs hr => ?_⟩
  · show Q7 Z a1 h0 n0 _ T2.heap _
    rw [e2]
    exact ⟨rfl, N0, rfl⟩
  · show Steps p.tables e below (s₁.setTop (mkF m 0 #[.val (.ref a1)] [])) _
    refine XS.aloadN X0.here hx rfl (hb hby d9_0) rfl rfl ?_
    refine st2 _ ?_
    exact X2.returnOut hx hret (hb hby d9_4) hr
theorem pd_6 : parseMethodDescriptor "()V" = some ⟨[], none⟩ := by decide +kernel
theorem w_43 {a0 : Array Value} {Z : State} (hw : ∀ d ∈ tables_1, d.before a0 Z = true) : Jvm.Cond.before (Jvm.Cond.initialized "java/lang/Record") a0 Z = true := hw _ (List.mem_of_getElem? (i := 43) rfl)
theorem w_44 {a0 : Array Value} {Z : State} (hw : ∀ d ∈ tables_1, d.before a0 Z = true) : Jvm.Cond.before (Jvm.Cond.code ({ cls := "java/lang/Record", name := "<init>", desc := "()V" } : Jvm.MethodName) jdk_30_method_1_code (1 : Nat) (Option.none : Option Jvm.ClassFile.FieldType)) a0 Z = true := hw _ (List.mem_of_getElem? (i := 44) rfl)
theorem w_40 {a0 : Array Value} {Z : State} (hw : ∀ d ∈ tables_1, d.before a0 Z = true) : Jvm.Cond.before (Jvm.Cond.methodLink "com/example/whenfree/whenfree/Dialog" (1 : Nat) ({ cls := "java/lang/Record", name := "<init>", desc := "()V" } : Jvm.MethodName)) a0 Z = true := hw _ (List.mem_of_getElem? (i := 40) rfl)
theorem w_41 {a0 : Array Value} {Z : State} (hw : ∀ d ∈ tables_1, d.before a0 Z = true) : Jvm.Cond.before (Jvm.Cond.instanceMethod ({ cls := "java/lang/Record", name := "<init>", desc := "()V" } : Jvm.MethodName)) a0 Z = true := hw _ (List.mem_of_getElem? (i := 41) rfl)
theorem d8_4 : decode prog_10_method_1_code 4 = .ok (.aload_n 0, 1) := by decide +kernel
theorem d8_5 : decode prog_10_method_1_code 5 = .ok (.aload_n 1, 1) := by decide +kernel
theorem d8_6 : decode prog_10_method_1_code 6 = .ok (.putfield 7, 3) := by decide +kernel
theorem w_46 {a0 : Array Value} {Z : State} (hw : ∀ d ∈ tables_1, d.before a0 Z = true) : Jvm.Cond.before (Jvm.Cond.fieldLink "com/example/whenfree/whenfree/Dialog" (7 : Nat) "com/example/whenfree/whenfree/Dialog" "callId" "Ljava/lang/String;") a0 Z = true := hw _ (List.mem_of_getElem? (i := 46) rfl)
theorem d8_9 : decode prog_10_method_1_code 9 = .ok (.aload_n 0, 1) := by decide +kernel
theorem d8_10 : decode prog_10_method_1_code 10 = .ok (.aload_n 2, 1) := by decide +kernel
theorem d8_11 : decode prog_10_method_1_code 11 = .ok (.putfield 13, 3) := by decide +kernel
theorem w_48 {a0 : Array Value} {Z : State} (hw : ∀ d ∈ tables_1, d.before a0 Z = true) : Jvm.Cond.before (Jvm.Cond.fieldLink "com/example/whenfree/whenfree/Dialog" (13 : Nat) "com/example/whenfree/whenfree/Dialog" "uacTag" "Ljava/lang/String;") a0 Z = true := hw _ (List.mem_of_getElem? (i := 48) rfl)
theorem d8_14 : decode prog_10_method_1_code 14 = .ok (.aload_n 0, 1) := by decide +kernel
theorem d8_15 : decode prog_10_method_1_code 15 = .ok (.aload_n 3, 1) := by decide +kernel
theorem d8_16 : decode prog_10_method_1_code 16 = .ok (.putfield 16, 3) := by decide +kernel
theorem w_50 {a0 : Array Value} {Z : State} (hw : ∀ d ∈ tables_1, d.before a0 Z = true) : Jvm.Cond.before (Jvm.Cond.fieldLink "com/example/whenfree/whenfree/Dialog" (16 : Nat) "com/example/whenfree/whenfree/Dialog" "uasTag" "Ljava/lang/String;") a0 Z = true := hw _ (List.mem_of_getElem? (i := 50) rfl)
theorem d8_19 : decode prog_10_method_1_code 19 = .ok (.return_, 1) := by decide +kernel
abbrev y_7 : MethodName := ⟨"com/example/whenfree/whenfree/Dialog", "<init>", "(Ljava/lang/String;Ljava/lang/String;Ljava/lang/String;)V"⟩
theorem pn_4 : plainName "com/example/whenfree/whenfree/Dialog" = true := by first | (simp [plainName, overriddenIn]; done) | decide +kernel
-- com/example/whenfree/whenfree/Dialog.<init>(Ljava/lang/String;Ljava/lang/String;Ljava/lang/String;)V
abbrev Rm8 : Room := { frames := 2, cells := 0, slots := 0, locals := 24 }
def Q8 (Z : State) (a1 : Addr) (a2 : Addr) (a3 : Addr) (a4 : Addr) (h0 : Heap) (n0 : Nat) (v : Option Value) (h : Heap) (L : List Loc) : Prop := v = none ∧ Fr n0 L ∧ Keep h0 h [a1] ∧ Exa Z h a1 "com/example/whenfree/whenfree/Dialog" ∧ Fld Z h a1 "com/example/whenfree/whenfree/Dialog" "callId" "Ljava/lang/String;" (.ref a2) ∧ Fld Z h a1 "com/example/whenfree/whenfree/Dialog" "uacTag" "Ljava/lang/String;" (.ref a3) ∧ Fld Z h a1 "com/example/whenfree/whenfree/Dialog" "uasTag" "Ljava/lang/String;" (.ref a4)
theorem ef8 (a1 : Addr) (a2 : Addr) (a3 : Addr) (a4 : Addr) (m : MethodId) : entryFrame m #[(.ref a1), (.ref a2), (.ref a3), (.ref a4)] 4 = mkF m 0 #[.val (.ref a1), .val (.ref a2), .val (.ref a3), .val (.ref a4)] [] := by first | (simp [entryFrame, mkF, argsToLocals, Value.category]; done) | rfl
theorem rm8 (l : Launch) (Z : State) (a0 : Array Value) (hw : ∀ d ∈ tables_1, d.before a0 Z = true) (ws : List Jvm.Cond) (a1 : Addr) (a2 : Addr) (a3 : Addr) (a4 : Addr) (h0 : Heap) (n0 : Nat) (Z0 : n0 ≤ h0.size) (F_callId_a1 : Fld Z h0 a1 "com/example/whenfree/whenfree/Dialog" "callId" "Ljava/lang/String;" .null) (E_a1 : Exa Z h0 a1 "com/example/whenfree/whenfree/Dialog") (g_a1 : n0 ≤ a1) (F_uacTag_a1 : Fld Z h0 a1 "com/example/whenfree/whenfree/Dialog" "uacTag" "Ljava/lang/String;" .null) (F_uasTag_a1 : Fld Z h0 a1 "com/example/whenfree/whenfree/Dialog" "uasTag" "Ljava/lang/String;" .null) :
    OwnMet l Z y_7 prog_10_method_1_code 4 none ws Rm8 #[(.ref a1), (.ref a2), (.ref a3), (.ref a4)] h0 (Q8 Z a1 a2 a3 a4 h0 n0) := by
  refine own_body (plainFor_of_name pn_4) (ef8 a1 a2 a3 a4) ?_
  intro p e s m below meth c s₁ hx hby hml hown hnm hret hZ X0 e0
  have N0 := Fr.nil n0
  obtain ⟨_, T5, L5, X5, hQ5, st5⟩ := own_special X0 hx hZ hown (y := y_6) (a := a1) (w_40 hw) (w_41 hw) (w_43 hw) (w_44 hw) (rm7 l Z a0 hw [] a1 h0 n0 Z0) e0 (Ls := #[.val (.ref a1), .val (.ref a2), .val (.ref a3), .val (.ref a4)]) (by rw [hml]; rfl) (argsL := []) (rest := []) (lenOf pd_6 rfl) (hb hby d8_1) (W := 0)
  obtain ⟨rfl, Nq5, e5⟩ := hQ5
  have N5 := Fr.app N0 Nq5
  obtain ⟨T6, h6, X6, e6, W6, st6⟩ := putF X5 hx hZ hown (host := "") (Or.inl (w_46 hw)) Via.refl e5 F_callId_a1 E_a1 (Or.inr ⟨(w_47 hw), rfl, hnm⟩) (w_35 hw) (ty := (.object "java/lang/String")) (by decide) rfl rfl (g := (mkF m 6 #[.val (.ref a1), .val (.ref a2), .val (.ref a3), .val (.ref a4)] [(.ref a2), (.ref a1)])) rfl rfl (hb hby d8_6)
  have s0 := (Keep.of_wr W6).1
  have N6 := Fr.snoc X6 N5 g_a1
  have Fw6 : Fld Z h6 a1 "com/example/whenfree/whenfree/Dialog" "callId" "Ljava/lang/String;" (.ref a2) := F_callId_a1.same W6
  have Ex7 := (E_a1.wr W6)
  have Fl8 := (F_uacTag_a1.other W6 (Or.inr (slot_ne (Or.inr (w_49 hw)) (Or.inr (w_47 hw)) (by decide) (t := (.object "java/lang/String")) (t' := (.object "java/lang/String")) (by decide) (by decide))))
  obtain ⟨T9, h9, X9, e9, W9, st9⟩ := putF X6 hx hZ hown (host := "") (Or.inl (w_48 hw)) Via.refl e6 Fl8 Ex7 (Or.inr ⟨(w_49 hw), rfl, hnm⟩) (w_35 hw) (ty := (.object "java/lang/String")) (by decide) rfl rfl (g := (mkF m 11 #[.val (.ref a1), .val (.ref a2), .val (.ref a3), .val (.ref a4)] [(.ref a3), (.ref a1)])) rfl rfl (hb hby d8_11)
  have s1 := (Keep.of_wr W9).1
  have N9 := Fr.snoc X9 N6 g_a1
  have Fw9 : Fld Z h9 a1 "com/example/whenfree/whenfree/Dialog" "uacTag" "Ljava/lang/String;" (.ref a3) := Fl8.same W9
  have Ex10 := (Ex7.wr W9)
  have Fl11 := ((F_uasTag_a1.other W6 (Or.inr (slot_ne (Or.inr (w_51 hw)) (Or.inr (w_47 hw)) (by decide) (t := (.object "java/lang/String")) (t' := (.object "java/lang/String")) (by decide) (by decide)))).other W9 (Or.inr (slot_ne (Or.inr (w_51 hw)) (Or.inr (w_49 hw)) (by decide) (t := (.object "java/lang/String")) (t' := (.object "java/lang/String")) (by decide) (by decide))))
  obtain ⟨T12, h12, X12, e12, W12, st12⟩ := putF X9 hx hZ hown (host := "") (Or.inl (w_50 hw)) Via.refl e9 Fl11 Ex10 (Or.inr ⟨(w_51 hw), rfl, hnm⟩) (w_35 hw) (ty := (.object "java/lang/String")) (by decide) rfl rfl (g := (mkF m 16 #[.val (.ref a1), .val (.ref a2), .val (.ref a3), .val (.ref a4)] [(.ref a4), (.ref a1)])) rfl rfl (hb hby d8_16)
  have s2 := (Keep.of_wr W12).1
  have N12 := Fr.snoc X12 N9 g_a1
  have Fw12 : Fld Z h12 a1 "com/example/whenfree/whenfree/Dialog" "uasTag" "Ljava/lang/String;" (.ref a4) := Fl11.same W12
  have Ex13 := (Ex10.wr W12)
  have Fl14 := ((Fw6.other W9 (Or.inr (slot_ne (Or.inr (w_47 hw)) (Or.inr (w_49 hw)) (by decide) (t := (.object "java/lang/String")) (t' := (.object "java/lang/String")) (by decide) (by decide)))).other W12 (Or.inr (slot_ne (Or.inr (w_47 hw)) (Or.inr (w_51 hw)) (by decide) (t := (.object "java/lang/String")) (t' := (.object "java/lang/String")) (by decide) (by decide))))
  have Fl15 := (Fw9.other W12 (Or.inr (slot_ne (Or.inr (w_49 hw)) (Or.inr (w_51 hw)) (by decide) (t := (.object "java/lang/String")) (t' := (.object "java/lang/String")) (by decide) (by decide))))
  have Kp0 : Keep h0 h6 [a1] := (Keep.refl h0 [a1]).wr W6 (Or.inl (List.mem_of_getElem? (i := 0) rfl))
  have Kp1 : Keep h0 h9 [a1] := Kp0.wr W9 (Or.inl (List.mem_of_getElem? (i := 0) rfl))
  have Kp2 : Keep h0 h12 [a1] := Kp1.wr W12 (Or.inl (List.mem_of_getElem? (i := 0) rfl))
  refine ⟨T12, _, _, _, none, X12, (fun _ => rfl), by decide, by decide, ?_, fun fs hr => ?_⟩
  · show Q8 Z a1 a2 a3 a4 h0 n0 _ T12.heap _
    rw [e12]
    exact ⟨rfl, N12, Kp2, Ex13, Fl14, Fl15, Fw12⟩
  · show Steps p.tables e below (s₁.setTop (mkF m 0 #[.val (.ref a1), .val (.ref a2), .val (.ref a3), .val (.ref a4)] [])) _
    refine XS.aloadN X0.here hx rfl (hb hby d8_0) rfl rfl ?_
    refine st5 _ ?_
    refine XS.aloadN X5.here hx rfl (hb hby d8_4) rfl rfl ?_
    refine XS.aloadN X5.here hx rfl (hb hby d8_5) rfl rfl ?_
    refine st6 _ ?_
    refine XS.aloadN X6.here hx rfl (hb hby d8_9) rfl rfl ?_
    refine XS.aloadN X6.here hx rfl (hb hby d8_10) rfl rfl ?_
    refine st9 _ ?_
    refine XS.aloadN X9.here hx rfl (hb hby d8_14) rfl rfl ?_
    refine XS.aloadN X9.here hx rfl (hb hby d8_15) rfl rfl ?_
    refine st12 _ ?_
    exact X12.returnOut hx hret (hb hby d8_19) hr
theorem pd_7 : parseMethodDescriptor "(Ljava/lang/String;Ljava/lang/String;Ljava/lang/String;)V" = some ⟨[(.object "java/lang/String"), (.object "java/lang/String"), (.object "java/lang/String")], none⟩ := by decide +kernel
theorem w_39 {a0 : Array Value} {Z : State} (hw : ∀ d ∈ tables_1, d.before a0 Z = true) : Jvm.Cond.before (Jvm.Cond.code ({ cls := "com/example/whenfree/whenfree/Dialog", name := "<init>", desc := "(Ljava/lang/String;Ljava/lang/String;Ljava/lang/String;)V" } : Jvm.MethodName) prog_10_method_1_code (4 : Nat) (Option.none : Option Jvm.ClassFile.FieldType)) a0 Z = true := hw _ (List.mem_of_getElem? (i := 39) rfl)
theorem w_37 {a0 : Array Value} {Z : State} (hw : ∀ d ∈ tables_1, d.before a0 Z = true) : Jvm.Cond.before (Jvm.Cond.methodLink "com/example/whenfree/whenfree/DialogReversedPinLaw" (15 : Nat) ({ cls := "com/example/whenfree/whenfree/Dialog", name := "<init>", desc := "(Ljava/lang/String;Ljava/lang/String;Ljava/lang/String;)V" } : Jvm.MethodName)) a0 Z = true := hw _ (List.mem_of_getElem? (i := 37) rfl)
theorem w_38 {a0 : Array Value} {Z : State} (hw : ∀ d ∈ tables_1, d.before a0 Z = true) : Jvm.Cond.before (Jvm.Cond.instanceMethod ({ cls := "com/example/whenfree/whenfree/Dialog", name := "<init>", desc := "(Ljava/lang/String;Ljava/lang/String;Ljava/lang/String;)V" } : Jvm.MethodName)) a0 Z = true := hw _ (List.mem_of_getElem? (i := 38) rfl)
theorem d10_0 : decode prog_10_method_3_code 0 = .ok (.new 8, 3) := by decide +kernel
theorem w_57 {a0 : Array Value} {Z : State} (hw : ∀ d ∈ tables_1, d.before a0 Z = true) : Jvm.Cond.before (Jvm.Cond.classLink "com/example/whenfree/whenfree/Dialog" (8 : Nat) "com/example/whenfree/whenfree/Dialog") a0 Z = true := hw _ (List.mem_of_getElem? (i := 57) rfl)
theorem d10_3 : decode prog_10_method_3_code 3 = .ok (.dup, 1) := by decide +kernel
theorem d10_4 : decode prog_10_method_3_code 4 = .ok (.aload_n 0, 1) := by decide +kernel
theorem d10_5 : decode prog_10_method_3_code 5 = .ok (.getfield 7, 3) := by decide +kernel
theorem d10_8 : decode prog_10_method_3_code 8 = .ok (.aload_n 0, 1) := by decide +kernel
theorem d10_9 : decode prog_10_method_3_code 9 = .ok (.getfield 16, 3) := by decide +kernel
theorem d10_12 : decode prog_10_method_3_code 12 = .ok (.aload_n 0, 1) := by decide +kernel
theorem d10_13 : decode prog_10_method_3_code 13 = .ok (.getfield 13, 3) := by decide +kernel
theorem d10_16 : decode prog_10_method_3_code 16 = .ok (.invokespecial 36, 3) := by decide +kernel
theorem w_58 {a0 : Array Value} {Z : State} (hw : ∀ d ∈ tables_1, d.before a0 Z = true) : Jvm.Cond.before (Jvm.Cond.methodLink "com/example/whenfree/whenfree/Dialog" (36 : Nat) ({ cls := "com/example/whenfree/whenfree/Dialog", name := "<init>", desc := "(Ljava/lang/String;Ljava/lang/String;Ljava/lang/String;)V" } : Jvm.MethodName)) a0 Z = true := hw _ (List.mem_of_getElem? (i := 58) rfl)
theorem d10_19 : decode prog_10_method_3_code 19 = .ok (.areturn, 1) := by decide +kernel
abbrev y_8 : MethodName := ⟨"com/example/whenfree/whenfree/Dialog", "reversed", "()Lcom/example/whenfree/whenfree/Dialog;"⟩
-- com/example/whenfree/whenfree/Dialog.reversed()Lcom/example/whenfree/whenfree/Dialog;
abbrev Rm9 : Room := { frames := 3, cells := 1, slots := 3, locals := 40 }
def Q9 (Z : State) (a1 : Addr) (a3 : Addr) (a6 : Addr) (a9 : Addr) (h0 : Heap) (n0 : Nat) (v : Option Value) (h : Heap) (L : List Loc) : Prop := ∃ b2 : Addr, v = some (.ref b2) ∧ Fr n0 L ∧ Keep h0 h [] ∧ h0.size ≤ b2 ∧ Exa Z h b2 "com/example/whenfree/whenfree/Dialog" ∧ Fld Z h b2 "com/example/whenfree/whenfree/Dialog" "callId" "Ljava/lang/String;" (.ref a3) ∧ Fld Z h b2 "com/example/whenfree/whenfree/Dialog" "uacTag" "Ljava/lang/String;" (.ref a6) ∧ Fld Z h b2 "com/example/whenfree/whenfree/Dialog" "uasTag" "Ljava/lang/String;" (.ref a9)
theorem ef9 (a1 : Addr) (m : MethodId) : entryFrame m #[(.ref a1)] 1 = mkF m 0 #[.val (.ref a1)] [] := by first | (simp [entryFrame, mkF, argsToLocals, Value.category]; done) | rfl
theorem rm9 (l : Launch) (Z : State) (a0 : Array Value) (hw : ∀ d ∈ tables_1, d.before a0 Z = true) (ws : List Jvm.Cond) (a1 : Addr) (a3 : Addr) (a6 : Addr) (a9 : Addr) (h0 : Heap) (n0 : Nat) (Z0 : n0 ≤ h0.size) (F_callId_a1 : Fld Z h0 a1 "com/example/whenfree/whenfree/Dialog" "callId" "Ljava/lang/String;" (.ref a3)) (F_uasTag_a1 : Fld Z h0 a1 "com/example/whenfree/whenfree/Dialog" "uasTag" "Ljava/lang/String;" (.ref a6)) (F_uacTag_a1 : Fld Z h0 a1 "com/example/whenfree/whenfree/Dialog" "uacTag" "Ljava/lang/String;" (.ref a9)) :
    OwnMet l Z y_8 prog_10_method_3_code 1 (some (.object "com/example/whenfree/whenfree/Dialog")) ws Rm9 #[(.ref a1)] h0 (Q9 Z a1 a3 a6 a9 h0 n0) := by
  refine own_body (plainFor_of_name pn_4) (ef9 a1) ?_
  intro p e s m below meth c s₁ hx hby hml hown hnm hret hZ X0 e0
  have N0 := Fr.nil n0
  obtain ⟨T2, h2, X2, e2, E2, A2, D2, -, st2⟩ := newO X0 hx hZ hown (w_57 hw) (w_35 hw) (w_36 hw) e0 (g := (mkF m 0 #[.val (.ref a1)] [])) rfl (hb hby d10_0) (by decide) (by decide)
  obtain ⟨b2, g2⟩ : ∃ z, z = h0.size := ⟨_, rfl⟩
  rw [← g2] at A2 D2 st2
  have s0 := E2.1
  have Fn2_callId : Fld Z h2 b2 "com/example/whenfree/whenfree/Dialog" "callId" "Ljava/lang/String;" .null := D2 (Or.inr (w_47 hw)) (ty := (.object "java/lang/String")) (by decide)
  have Fn2_uacTag : Fld Z h2 b2 "com/example/whenfree/whenfree/Dialog" "uacTag" "Ljava/lang/String;" .null := D2 (Or.inr (w_49 hw)) (ty := (.object "java/lang/String")) (by decide)
  have Fn2_uasTag : Fld Z h2 b2 "com/example/whenfree/whenfree/Dialog" "uasTag" "Ljava/lang/String;" .null := D2 (Or.inr (w_51 hw)) (ty := (.object "java/lang/String")) (by decide)
  have Fl4 := (F_callId_a1.ext E2)
  obtain ⟨T5, X5, e5, st5⟩ := getF X2 hx hZ hown (host := "") (Or.inl (w_46 hw)) Via.refl e2 Fl4 (g := (mkF m 5 #[.val (.ref a1)] [(.ref a1), (.ref b2), (.ref b2)])) rfl rfl (hb hby d10_5)
  have Fl7 := (F_uasTag_a1.ext E2)
  obtain ⟨T8, X8, e8, st8⟩ := getF X5 hx hZ hown (host := "") (Or.inl (w_50 hw)) Via.refl e5 Fl7 (g := (mkF m 9 #[.val (.ref a1)] [(.ref a1), (.ref a3), (.ref b2), (.ref b2)])) rfl rfl (hb hby d10_9)
  have Fl10 := (F_uacTag_a1.ext E2)
  obtain ⟨T11, X11, e11, st11⟩ := getF X8 hx hZ hown (host := "") (Or.inl (w_48 hw)) Via.refl e8 Fl10 (g := (mkF m 13 #[.val (.ref a1)] [(.ref a1), (.ref a6), (.ref a3), (.ref b2), (.ref b2)])) rfl rfl (hb hby d10_13)
  have g_b2 : n0 ≤ b2 := Nat.le_trans Z0 (Nat.le_of_eq g2.symm)
  have z1 := Nat.le_trans Z0 s0
  obtain ⟨_, T12, L12, X12, hQ12, st12⟩ := own_special X11 hx hZ hown (y := y_7) (a := b2) (w_58 hw) (w_38 hw) (w_36 hw) (w_39 hw) (rm8 l Z a0 hw [] b2 a3 a6 a9 h2 n0 z1 Fn2_callId A2 g_b2 Fn2_uacTag Fn2_uasTag) e11 (Ls := #[.val (.ref a1)]) (by rw [hml]; rfl) (argsL := [(.ref a3), (.ref a6), (.ref a9)]) (rest := [(.ref b2)]) (lenOf pd_7 rfl) (hb hby d10_16) (W := 1)
  obtain ⟨rfl, Nq12, K12, o12_0, o12_1, o12_2, o12_3⟩ := hQ12
  have N12 := Fr.app N0 Nq12
  have s1 := K12.1
  have sz_b2 : h0.size ≤ b2 := (Nat.le_of_eq g2.symm)
  have Kp0 : Keep h0 h2 [] := (Keep.refl h0 []).ext E2
  have Kp1 : Keep h0 T12.heap [] := Kp0.trans K12 (allS (Or.inr sz_b2) all0)
  refine ⟨T12, _, _, _, (some (.ref b2)), X12, nofun, by decide, by decide, ?_, fun fs hr => ?_⟩
  · show Q9 Z a1 a3 a6 a9 h0 n0 _ T12.heap _
    exact ⟨b2, rfl, N12, Kp1, sz_b2, o12_0, o12_1, o12_2, o12_3⟩
  · show Steps p.tables e below (s₁.setTop (mkF m 0 #[.val (.ref a1)] [])) _
    refine st2 _ ?_
    refine XS.dup X2.here hx rfl (hb hby d10_3) rfl rfl ?_
    refine XS.aloadN X2.here hx rfl (hb hby d10_4) rfl rfl ?_
    refine st5 _ ?_
    refine XS.aloadN X5.here hx rfl (hb hby d10_8) rfl rfl ?_
    refine st8 _ ?_
    refine XS.aloadN X8.here hx rfl (hb hby d10_12) rfl rfl ?_
    refine st11 _ ?_
    refine st12 _ ?_
    exact retOut X12 hx hret rfl (Or.inr (Or.inr (Or.inr (Or.inr ⟨rfl, rfl, rfl⟩)))) (hb hby d10_19) hr
theorem pd_8 : parseMethodDescriptor "()Lcom/example/whenfree/whenfree/Dialog;" = some ⟨[], some (.object "com/example/whenfree/whenfree/Dialog")⟩ := by decide +kernel
theorem w_56 {a0 : Array Value} {Z : State} (hw : ∀ d ∈ tables_1, d.before a0 Z = true) : Jvm.Cond.before (Jvm.Cond.code ({ cls := "com/example/whenfree/whenfree/Dialog", name := "reversed", desc := "()Lcom/example/whenfree/whenfree/Dialog;" } : Jvm.MethodName) prog_10_method_3_code (1 : Nat) (Option.some (Jvm.ClassFile.FieldType.object "com/example/whenfree/whenfree/Dialog"))) a0 Z = true := hw _ (List.mem_of_getElem? (i := 56) rfl)
theorem w_52 {a0 : Array Value} {Z : State} (hw : ∀ d ∈ tables_1, d.before a0 Z = true) : Jvm.Cond.before (Jvm.Cond.methodLink "com/example/whenfree/whenfree/DialogReversedPinLaw" (18 : Nat) ({ cls := "com/example/whenfree/whenfree/Dialog", name := "reversed", desc := "()Lcom/example/whenfree/whenfree/Dialog;" } : Jvm.MethodName)) a0 Z = true := hw _ (List.mem_of_getElem? (i := 52) rfl)
theorem w_55 {a0 : Array Value} {Z : State} (hw : ∀ d ∈ tables_1, d.before a0 Z = true) : Jvm.Cond.before (Jvm.Cond.selects "com/example/whenfree/whenfree/Dialog" ({ cls := "com/example/whenfree/whenfree/Dialog", name := "reversed", desc := "()Lcom/example/whenfree/whenfree/Dialog;" } : Jvm.MethodName) ({ cls := "com/example/whenfree/whenfree/Dialog", name := "reversed", desc := "()Lcom/example/whenfree/whenfree/Dialog;" } : Jvm.MethodName)) a0 Z = true := hw _ (List.mem_of_getElem? (i := 55) rfl)
theorem w_53 {a0 : Array Value} {Z : State} (hw : ∀ d ∈ tables_1, d.before a0 Z = true) : Jvm.Cond.before (Jvm.Cond.declares ({ cls := "com/example/whenfree/whenfree/Dialog", name := "reversed", desc := "()Lcom/example/whenfree/whenfree/Dialog;" } : Jvm.MethodName)) a0 Z = true := hw _ (List.mem_of_getElem? (i := 53) rfl)
theorem w_54 {a0 : Array Value} {Z : State} (hw : ∀ d ∈ tables_1, d.before a0 Z = true) : Jvm.Cond.before (Jvm.Cond.instanceMethod ({ cls := "com/example/whenfree/whenfree/Dialog", name := "reversed", desc := "()Lcom/example/whenfree/whenfree/Dialog;" } : Jvm.MethodName)) a0 Z = true := hw _ (List.mem_of_getElem? (i := 54) rfl)
theorem d11_0 : decode prog_10_method_7_code 0 = .ok (.aload_n 0, 1) := by decide +kernel
theorem d11_1 : decode prog_10_method_7_code 1 = .ok (.getfield 7, 3) := by decide +kernel
theorem d11_4 : decode prog_10_method_7_code 4 = .ok (.areturn, 1) := by decide +kernel
abbrev y_9 : MethodName := ⟨"com/example/whenfree/whenfree/Dialog", "callId", "()Ljava/lang/String;"⟩
-- com/example/whenfree/whenfree/Dialog.callId()Ljava/lang/String;
abbrev Rm10 : Room := { frames := 0, cells := 0, slots := 0, locals := 0 }
def Q10 (Z : State) (a1 : Addr) (a2 : Addr) (h0 : Heap) (n0 : Nat) (v : Option Value) (h : Heap) (L : List Loc) : Prop := v = some (.ref a2) ∧ Fr n0 L ∧ h = h0
theorem ef10 (a1 : Addr) (m : MethodId) : entryFrame m #[(.ref a1)] 1 = mkF m 0 #[.val (.ref a1)] [] := by first | (simp [entryFrame, mkF, argsToLocals, Value.category]; done) | rfl
theorem rm10 (l : Launch) (Z : State) (a0 : Array Value) (hw : ∀ d ∈ tables_1, d.before a0 Z = true) (ws : List Jvm.Cond) (a1 : Addr) (a2 : Addr) (h0 : Heap) (n0 : Nat) (Z0 : n0 ≤ h0.size) (F_callId_a1 : Fld Z h0 a1 "com/example/whenfree/whenfree/Dialog" "callId" "Ljava/lang/String;" (.ref a2)) :
    OwnMet l Z y_9 prog_10_method_7_code 1 (some (.object "java/lang/String")) ws Rm10 #[(.ref a1)] h0 (Q10 Z a1 a2 h0 n0) := by
  refine own_body (plainFor_of_name pn_4) (ef10 a1) ?_
  intro p e s m below meth c s₁ hx hby hml hown hnm hret hZ X0 e0
  have N0 := Fr.nil n0
  obtain ⟨T3, X3, e3, st3⟩ := getF X0 hx hZ hown (host := "") (Or.inl (w_46 hw)) Via.refl e0 F_callId_a1 (g := (mkF m 1 #[.val (.ref a1)] [(.ref a1)])) rfl rfl (hb hby d11_1)
  refine ⟨T3, _, _, _, (some (.ref a2)), X3, nofun, by decide, by decide, ?_, fun fs hr => ?_⟩
  · show Q10 Z a1 a2 h0 n0 _ T3.heap _
    rw [e3]
    exact ⟨rfl, N0, rfl⟩
  · show Steps p.tables e below (s₁.setTop (mkF m 0 #[.val (.ref a1)] [])) _
    refine XS.aloadN X0.here hx rfl (hb hby d11_0) rfl rfl ?_
    refine st3 _ ?_
    exact retOut X3 hx hret rfl (Or.inr (Or.inr (Or.inr (Or.inr ⟨rfl, rfl, rfl⟩)))) (hb hby d11_4) hr
theorem pd_9 : parseMethodDescriptor "()Ljava/lang/String;" = some ⟨[], some (.object "java/lang/String")⟩ := by decide +kernel
theorem w_63 {a0 : Array Value} {Z : State} (hw : ∀ d ∈ tables_1, d.before a0 Z = true) : Jvm.Cond.before (Jvm.Cond.code ({ cls := "com/example/whenfree/whenfree/Dialog", name := "callId", desc := "()Ljava/lang/String;" } : Jvm.MethodName) prog_10_method_7_code (1 : Nat) (Option.some (Jvm.ClassFile.FieldType.object "java/lang/String"))) a0 Z = true := hw _ (List.mem_of_getElem? (i := 63) rfl)
theorem w_59 {a0 : Array Value} {Z : State} (hw : ∀ d ∈ tables_1, d.before a0 Z = true) : Jvm.Cond.before (Jvm.Cond.methodLink "com/example/whenfree/whenfree/DialogReversedPinLaw" (22 : Nat) ({ cls := "com/example/whenfree/whenfree/Dialog", name := "callId", desc := "()Ljava/lang/String;" } : Jvm.MethodName)) a0 Z = true := hw _ (List.mem_of_getElem? (i := 59) rfl)
theorem w_62 {a0 : Array Value} {Z : State} (hw : ∀ d ∈ tables_1, d.before a0 Z = true) : Jvm.Cond.before (Jvm.Cond.selects "com/example/whenfree/whenfree/Dialog" ({ cls := "com/example/whenfree/whenfree/Dialog", name := "callId", desc := "()Ljava/lang/String;" } : Jvm.MethodName) ({ cls := "com/example/whenfree/whenfree/Dialog", name := "callId", desc := "()Ljava/lang/String;" } : Jvm.MethodName)) a0 Z = true := hw _ (List.mem_of_getElem? (i := 62) rfl)
theorem w_60 {a0 : Array Value} {Z : State} (hw : ∀ d ∈ tables_1, d.before a0 Z = true) : Jvm.Cond.before (Jvm.Cond.declares ({ cls := "com/example/whenfree/whenfree/Dialog", name := "callId", desc := "()Ljava/lang/String;" } : Jvm.MethodName)) a0 Z = true := hw _ (List.mem_of_getElem? (i := 60) rfl)
theorem w_61 {a0 : Array Value} {Z : State} (hw : ∀ d ∈ tables_1, d.before a0 Z = true) : Jvm.Cond.before (Jvm.Cond.instanceMethod ({ cls := "com/example/whenfree/whenfree/Dialog", name := "callId", desc := "()Ljava/lang/String;" } : Jvm.MethodName)) a0 Z = true := hw _ (List.mem_of_getElem? (i := 61) rfl)
theorem d12_0 : decode method_4_code 0 = .ok (.aload_n 0, 1) := by decide +kernel
theorem d12_1 : decode method_4_code 1 = .ok (.ifnonnull 13, 3) := by decide +kernel
theorem d12_14 : decode method_4_code 14 = .ok (.aload_n 1, 1) := by decide +kernel
theorem d12_15 : decode method_4_code 15 = .ok (.ifnull 15, 3) := by decide +kernel
theorem d12_18 : decode method_4_code 18 = .ok (.aload_n 0, 1) := by decide +kernel
theorem d12_19 : decode method_4_code 19 = .ok (.aload_n 1, 1) := by decide +kernel
theorem d12_20 : decode method_4_code 20 = .ok (.invokevirtual 41, 3) := by decide +kernel
theorem d13_0 : decode jdk_42_method_66_code 0 = .ok (.aload_n 0, 1) := by decide +kernel
theorem d13_1 : decode jdk_42_method_66_code 1 = .ok (.aload_n 1, 1) := by decide +kernel
theorem d13_2 : decode jdk_42_method_66_code 2 = .ok (.if_acmp .ne 5, 3) := by decide +kernel
theorem d13_5 : decode jdk_42_method_66_code 5 = .ok (.iconst 1, 1) := by decide +kernel
theorem d13_6 : decode jdk_42_method_66_code 6 = .ok (.ireturn, 1) := by decide +kernel
abbrev y_10 : MethodName := ⟨"java/lang/String", "equals", "(Ljava/lang/Object;)Z"⟩
-- java/lang/String.equals(Ljava/lang/Object;)Z
abbrev Rm11 : Room := { frames := 0, cells := 0, slots := 0, locals := 0 }
def Q11 (Z : State) (a1 : Addr) (h0 : Heap) (n0 : Nat) (v : Option Value) (h : Heap) (L : List Loc) : Prop := v = some (.int (1 : Int32)) ∧ Fr n0 L ∧ h = h0
theorem ef11 (a1 : Addr) (m : MethodId) : entryFrame m #[(.ref a1), (.ref a1)] 3 = mkF m 0 #[.val (.ref a1), .val (.ref a1), .unset] [] := by first | (simp [entryFrame, mkF, argsToLocals, Value.category]; done) | rfl
theorem rm11 (l : Launch) (Z : State) (a0 : Array Value) (hw : ∀ d ∈ tables_1, d.before a0 Z = true) (ws : List Jvm.Cond) (a1 : Addr) (h0 : Heap) (n0 : Nat) (Z0 : n0 ≤ h0.size) :
    OwnMet l Z y_10 jdk_42_method_66_code 3 (some .boolean) ws Rm11 #[(.ref a1), (.ref a1)] h0 (Q11 Z a1 h0 n0) := by
  refine own_body (plainFor_of_name pn_1) (ef11 a1) ?_
  intro p e s m below meth c s₁ hx hby hml hown hnm hret hZ X0 e0
  have N0 := Fr.nil n0
  refine ⟨s₁, _, _, _, (some (.int (1 : Int32))), X0, nofun, by decide, by decide, ?_, fun fs hr => ?_⟩
  · show Q11 Z a1 h0 n0 _ s₁.heap _
    rw [e0]
    exact ⟨rfl, N0, rfl⟩
  · show Steps p.tables e below (s₁.setTop (mkF m 0 #[.val (.ref a1), .val (.ref a1), .unset] [])) _
    refine XS.aloadN X0.here hx rfl (hb hby d13_0) rfl rfl ?_
    refine XS.aloadN X0.here hx rfl (hb hby d13_1) rfl rfl ?_
    refine Jvm.RoadKit.acmp (g := (mkF m 2 #[.val (.ref a1), .val (.ref a1), .unset] [(.ref a1), (.ref a1)])) X0 hx rfl rfl rfl (pc0 := 2) (pc' := 5) (same := true) rfl (hb hby d13_2) rfl (decide_eq_true rfl) (by decide) (by decide) ?_
    refine XS.iconst X0.here hx rfl (hb hby d13_5) ?_
    exact retN X0 hx (t := .boolean) hret (by simp) (hb hby d13_6) hr
theorem pd_10 : parseMethodDescriptor "(Ljava/lang/Object;)Z" = some ⟨[(.object "java/lang/Object")], some .boolean⟩ := by decide +kernel
theorem w_71 {a0 : Array Value} {Z : State} (hw : ∀ d ∈ tables_1, d.before a0 Z = true) : Jvm.Cond.before (Jvm.Cond.code ({ cls := "java/lang/String", name := "equals", desc := "(Ljava/lang/Object;)Z" } : Jvm.MethodName) jdk_42_method_66_code (3 : Nat) (Option.some Jvm.ClassFile.FieldType.boolean)) a0 Z = true := hw _ (List.mem_of_getElem? (i := 71) rfl)
theorem w_67 {a0 : Array Value} {Z : State} (hw : ∀ d ∈ tables_1, d.before a0 Z = true) : Jvm.Cond.before (Jvm.Cond.methodLink "com/example/whenfree/whenfree/DialogReversedPinLaw" (41 : Nat) ({ cls := "java/lang/String", name := "equals", desc := "(Ljava/lang/Object;)Z" } : Jvm.MethodName)) a0 Z = true := hw _ (List.mem_of_getElem? (i := 67) rfl)
theorem w_70 {a0 : Array Value} {Z : State} (hw : ∀ d ∈ tables_1, d.before a0 Z = true) : Jvm.Cond.before (Jvm.Cond.selects "java/lang/String" ({ cls := "java/lang/String", name := "equals", desc := "(Ljava/lang/Object;)Z" } : Jvm.MethodName) ({ cls := "java/lang/String", name := "equals", desc := "(Ljava/lang/Object;)Z" } : Jvm.MethodName)) a0 Z = true := hw _ (List.mem_of_getElem? (i := 70) rfl)
theorem w_68 {a0 : Array Value} {Z : State} (hw : ∀ d ∈ tables_1, d.before a0 Z = true) : Jvm.Cond.before (Jvm.Cond.declares ({ cls := "java/lang/String", name := "equals", desc := "(Ljava/lang/Object;)Z" } : Jvm.MethodName)) a0 Z = true := hw _ (List.mem_of_getElem? (i := 68) rfl)
theorem w_69 {a0 : Array Value} {Z : State} (hw : ∀ d ∈ tables_1, d.before a0 Z = true) : Jvm.Cond.before (Jvm.Cond.instanceMethod ({ cls := "java/lang/String", name := "equals", desc := "(Ljava/lang/Object;)Z" } : Jvm.MethodName)) a0 Z = true := hw _ (List.mem_of_getElem? (i := 69) rfl)
theorem d12_23 : decode method_4_code 23 = .ok (.ifCond .eq 7, 3) := by decide +kernel
theorem d12_26 : decode method_4_code 26 = .ok (.iconst 1, 1) := by decide +kernel
theorem d12_27 : decode method_4_code 27 = .ok (.goto 4, 3) := by decide +kernel
theorem d12_31 : decode method_4_code 31 = .ok (.ireturn, 1) := by decide +kernel
abbrev y_11 : MethodName := ⟨"com/example/whenfree/whenfree/DialogReversedPinLaw", "same", "(Ljava/lang/String;Ljava/lang/String;)Z"⟩
-- com/example/whenfree/whenfree/DialogReversedPinLaw.same(Ljava/lang/String;Ljava/lang/String;)Z
abbrev Rm12 : Room := { frames := 1, cells := 0, slots := 0, locals := 14 }
def Q12 (Z : State) (a1 : Addr) (h0 : Heap) (n0 : Nat) (v : Option Value) (h : Heap) (L : List Loc) : Prop := v = some (.int (1 : Int32)) ∧ Fr n0 L ∧ h = h0
theorem ef12 (a1 : Addr) (m : MethodId) : entryFrame m #[(.ref a1), (.ref a1)] 2 = mkF m 0 #[.val (.ref a1), .val (.ref a1)] [] := by first | (simp [entryFrame, mkF, argsToLocals, Value.category]; done) | rfl
theorem rm12 (l : Launch) (Z : State) (a0 : Array Value) (hw : ∀ d ∈ tables_1, d.before a0 Z = true) (ws : List Jvm.Cond) (a1 : Addr) (h0 : Heap) (n0 : Nat) (Z0 : n0 ≤ h0.size) (E_a1 : Exa Z h0 a1 "java/lang/String") :
    OwnMet l Z y_11 method_4_code 2 (some .boolean) ws Rm12 #[(.ref a1), (.ref a1)] h0 (Q12 Z a1 h0 n0) := by
  refine own_body (plainFor_of_name pn_2) (ef12 a1) ?_
  intro p e s m below meth c s₁ hx hby hml hown hnm hret hZ X0 e0
  have N0 := Fr.nil n0
  obtain ⟨_, T2, L2, X2, hQ2, st2⟩ := own_virtual X0 hx hZ hown (y := y_10) (z := y_10) E_a1 (w_67 hw) (w_68 hw) (notFace_of_selects (args := #[]) (mvT hZ (w_70 hw))) (w_70 hw) (w_69 hw) (w_7 hw) (w_71 hw) (rm11 l Z a0 hw [] a1 h0 n0 Z0) e0 (Ls := #[.val (.ref a1), .val (.ref a1)]) (by rw [hml]; rfl) (argsL := [(.ref a1)]) (rest := []) (lenOf pd_10 rfl) (hb hby d12_20) (W := 0)
  obtain ⟨rfl, Nq2, e2⟩ := hQ2
  have N2 := Fr.app N0 Nq2
  refine ⟨T2, _, _, _, (some (.int (1 : Int32))), X2, nofun, by decide, by decide, ?_, fun fs hr => ?_⟩
  · show Q12 Z a1 h0 n0 _ T2.heap _
    rw [e2]
    exact ⟨rfl, N2, rfl⟩
  · show Steps p.tables e below (s₁.setTop (mkF m 0 #[.val (.ref a1), .val (.ref a1)] [])) _
    refine XS.aloadN X0.here hx rfl (hb hby d12_0) rfl rfl ?_
    refine XS.ifnonnullYes X0.here hx rfl (pc0 := 1) (pc' := 14) rfl (hb hby d12_1) rfl (by decide) (by decide) ?_
    refine XS.aloadN X0.here hx rfl (hb hby d12_14) rfl rfl ?_
    refine XS.ifnullNo X0.here hx rfl (hb hby d12_15) rfl ?_
    refine XS.aloadN X0.here hx rfl (hb hby d12_18) rfl rfl ?_
    refine XS.aloadN X0.here hx rfl (hb hby d12_19) rfl rfl ?_
    refine st2 _ ?_
    refine XS.ifNo X2.here hx rfl (hb hby d12_23) rfl ((if0 _ _).trans (feq ((by decide : ¬ ((1 : Int32) = (0 : Int32))) : ¬ ((1 : Int32) = (0 : Int32)))).1) ?_
    refine XS.iconst X2.here hx rfl (hb hby d12_26) ?_
    refine XS.goto X2.here hx rfl (pc0 := 27) (pc' := 31) rfl (hb hby d12_27) (by decide) (by decide) ?_
    exact retN X2 hx (t := .boolean) hret (by simp) (hb hby d12_31) hr
theorem pd_11 : parseMethodDescriptor "(Ljava/lang/String;Ljava/lang/String;)Z" = some ⟨[(.object "java/lang/String"), (.object "java/lang/String")], some .boolean⟩ := by decide +kernel
theorem w_66 {a0 : Array Value} {Z : State} (hw : ∀ d ∈ tables_1, d.before a0 Z = true) : Jvm.Cond.before (Jvm.Cond.code ({ cls := "com/example/whenfree/whenfree/DialogReversedPinLaw", name := "same", desc := "(Ljava/lang/String;Ljava/lang/String;)Z" } : Jvm.MethodName) method_4_code (2 : Nat) (Option.some Jvm.ClassFile.FieldType.boolean)) a0 Z = true := hw _ (List.mem_of_getElem? (i := 66) rfl)
theorem w_64 {a0 : Array Value} {Z : State} (hw : ∀ d ∈ tables_1, d.before a0 Z = true) : Jvm.Cond.before (Jvm.Cond.methodLink "com/example/whenfree/whenfree/DialogReversedPinLaw" (26 : Nat) ({ cls := "com/example/whenfree/whenfree/DialogReversedPinLaw", name := "same", desc := "(Ljava/lang/String;Ljava/lang/String;)Z" } : Jvm.MethodName)) a0 Z = true := hw _ (List.mem_of_getElem? (i := 64) rfl)
theorem w_65 {a0 : Array Value} {Z : State} (hw : ∀ d ∈ tables_1, d.before a0 Z = true) : Jvm.Cond.before (Jvm.Cond.static ({ cls := "com/example/whenfree/whenfree/DialogReversedPinLaw", name := "same", desc := "(Ljava/lang/String;Ljava/lang/String;)Z" } : Jvm.MethodName)) a0 Z = true := hw _ (List.mem_of_getElem? (i := 65) rfl)
theorem d14_0 : decode prog_10_method_8_code 0 = .ok (.aload_n 0, 1) := by decide +kernel
theorem d14_1 : decode prog_10_method_8_code 1 = .ok (.getfield 13, 3) := by decide +kernel
theorem d14_4 : decode prog_10_method_8_code 4 = .ok (.areturn, 1) := by decide +kernel
abbrev y_12 : MethodName := ⟨"com/example/whenfree/whenfree/Dialog", "uacTag", "()Ljava/lang/String;"⟩
-- com/example/whenfree/whenfree/Dialog.uacTag()Ljava/lang/String;
abbrev Rm13 : Room := { frames := 0, cells := 0, slots := 0, locals := 0 }
def Q13 (Z : State) (a1 : Addr) (a2 : Addr) (h0 : Heap) (n0 : Nat) (v : Option Value) (h : Heap) (L : List Loc) : Prop := v = some (.ref a2) ∧ Fr n0 L ∧ h = h0
theorem ef13 (a1 : Addr) (m : MethodId) : entryFrame m #[(.ref a1)] 1 = mkF m 0 #[.val (.ref a1)] [] := by first | (simp [entryFrame, mkF, argsToLocals, Value.category]; done) | rfl
theorem rm13 (l : Launch) (Z : State) (a0 : Array Value) (hw : ∀ d ∈ tables_1, d.before a0 Z = true) (ws : List Jvm.Cond) (a1 : Addr) (a2 : Addr) (h0 : Heap) (n0 : Nat) (Z0 : n0 ≤ h0.size) (F_uacTag_a1 : Fld Z h0 a1 "com/example/whenfree/whenfree/Dialog" "uacTag" "Ljava/lang/String;" (.ref a2)) :
    OwnMet l Z y_12 prog_10_method_8_code 1 (some (.object "java/lang/String")) ws Rm13 #[(.ref a1)] h0 (Q13 Z a1 a2 h0 n0) := by
  refine own_body (plainFor_of_name pn_4) (ef13 a1) ?_
  intro p e s m below meth c s₁ hx hby hml hown hnm hret hZ X0 e0
  have N0 := Fr.nil n0
  obtain ⟨T3, X3, e3, st3⟩ := getF X0 hx hZ hown (host := "") (Or.inl (w_48 hw)) Via.refl e0 F_uacTag_a1 (g := (mkF m 1 #[.val (.ref a1)] [(.ref a1)])) rfl rfl (hb hby d14_1)
  refine ⟨T3, _, _, _, (some (.ref a2)), X3, nofun, by decide, by decide, ?_, fun fs hr => ?_⟩
  · show Q13 Z a1 a2 h0 n0 _ T3.heap _
    rw [e3]
    exact ⟨rfl, N0, rfl⟩
  · show Steps p.tables e below (s₁.setTop (mkF m 0 #[.val (.ref a1)] [])) _
    refine XS.aloadN X0.here hx rfl (hb hby d14_0) rfl rfl ?_
    refine st3 _ ?_
    exact retOut X3 hx hret rfl (Or.inr (Or.inr (Or.inr (Or.inr ⟨rfl, rfl, rfl⟩)))) (hb hby d14_4) hr
theorem w_76 {a0 : Array Value} {Z : State} (hw : ∀ d ∈ tables_1, d.before a0 Z = true) : Jvm.Cond.before (Jvm.Cond.code ({ cls := "com/example/whenfree/whenfree/Dialog", name := "uacTag", desc := "()Ljava/lang/String;" } : Jvm.MethodName) prog_10_method_8_code (1 : Nat) (Option.some (Jvm.ClassFile.FieldType.object "java/lang/String"))) a0 Z = true := hw _ (List.mem_of_getElem? (i := 76) rfl)
theorem w_72 {a0 : Array Value} {Z : State} (hw : ∀ d ∈ tables_1, d.before a0 Z = true) : Jvm.Cond.before (Jvm.Cond.methodLink "com/example/whenfree/whenfree/DialogReversedPinLaw" (30 : Nat) ({ cls := "com/example/whenfree/whenfree/Dialog", name := "uacTag", desc := "()Ljava/lang/String;" } : Jvm.MethodName)) a0 Z = true := hw _ (List.mem_of_getElem? (i := 72) rfl)
theorem w_75 {a0 : Array Value} {Z : State} (hw : ∀ d ∈ tables_1, d.before a0 Z = true) : Jvm.Cond.before (Jvm.Cond.selects "com/example/whenfree/whenfree/Dialog" ({ cls := "com/example/whenfree/whenfree/Dialog", name := "uacTag", desc := "()Ljava/lang/String;" } : Jvm.MethodName) ({ cls := "com/example/whenfree/whenfree/Dialog", name := "uacTag", desc := "()Ljava/lang/String;" } : Jvm.MethodName)) a0 Z = true := hw _ (List.mem_of_getElem? (i := 75) rfl)
theorem w_73 {a0 : Array Value} {Z : State} (hw : ∀ d ∈ tables_1, d.before a0 Z = true) : Jvm.Cond.before (Jvm.Cond.declares ({ cls := "com/example/whenfree/whenfree/Dialog", name := "uacTag", desc := "()Ljava/lang/String;" } : Jvm.MethodName)) a0 Z = true := hw _ (List.mem_of_getElem? (i := 73) rfl)
theorem w_74 {a0 : Array Value} {Z : State} (hw : ∀ d ∈ tables_1, d.before a0 Z = true) : Jvm.Cond.before (Jvm.Cond.instanceMethod ({ cls := "com/example/whenfree/whenfree/Dialog", name := "uacTag", desc := "()Ljava/lang/String;" } : Jvm.MethodName)) a0 Z = true := hw _ (List.mem_of_getElem? (i := 74) rfl)
theorem d15_0 : decode prog_10_method_9_code 0 = .ok (.aload_n 0, 1) := by decide +kernel
theorem d15_1 : decode prog_10_method_9_code 1 = .ok (.getfield 16, 3) := by decide +kernel
theorem d15_4 : decode prog_10_method_9_code 4 = .ok (.areturn, 1) := by decide +kernel
abbrev y_13 : MethodName := ⟨"com/example/whenfree/whenfree/Dialog", "uasTag", "()Ljava/lang/String;"⟩
-- com/example/whenfree/whenfree/Dialog.uasTag()Ljava/lang/String;
abbrev Rm14 : Room := { frames := 0, cells := 0, slots := 0, locals := 0 }
def Q14 (Z : State) (a1 : Addr) (a2 : Addr) (h0 : Heap) (n0 : Nat) (v : Option Value) (h : Heap) (L : List Loc) : Prop := v = some (.ref a2) ∧ Fr n0 L ∧ h = h0
theorem ef14 (a1 : Addr) (m : MethodId) : entryFrame m #[(.ref a1)] 1 = mkF m 0 #[.val (.ref a1)] [] := by first | (simp [entryFrame, mkF, argsToLocals, Value.category]; done) | rfl
theorem rm14 (l : Launch) (Z : State) (a0 : Array Value) (hw : ∀ d ∈ tables_1, d.before a0 Z = true) (ws : List Jvm.Cond) (a1 : Addr) (a2 : Addr) (h0 : Heap) (n0 : Nat) (Z0 : n0 ≤ h0.size) (F_uasTag_a1 : Fld Z h0 a1 "com/example/whenfree/whenfree/Dialog" "uasTag" "Ljava/lang/String;" (.ref a2)) :
    OwnMet l Z y_13 prog_10_method_9_code 1 (some (.object "java/lang/String")) ws Rm14 #[(.ref a1)] h0 (Q14 Z a1 a2 h0 n0) := by
  refine own_body (plainFor_of_name pn_4) (ef14 a1) ?_
  intro p e s m below meth c s₁ hx hby hml hown hnm hret hZ X0 e0
  have N0 := Fr.nil n0
  obtain ⟨T3, X3, e3, st3⟩ := getF X0 hx hZ hown (host := "") (Or.inl (w_50 hw)) Via.refl e0 F_uasTag_a1 (g := (mkF m 1 #[.val (.ref a1)] [(.ref a1)])) rfl rfl (hb hby d15_1)
  refine ⟨T3, _, _, _, (some (.ref a2)), X3, nofun, by decide, by decide, ?_, fun fs hr => ?_⟩
  · show Q14 Z a1 a2 h0 n0 _ T3.heap _
    rw [e3]
    exact ⟨rfl, N0, rfl⟩
  · show Steps p.tables e below (s₁.setTop (mkF m 0 #[.val (.ref a1)] [])) _
    refine XS.aloadN X0.here hx rfl (hb hby d15_0) rfl rfl ?_
    refine st3 _ ?_
    exact retOut X3 hx hret rfl (Or.inr (Or.inr (Or.inr (Or.inr ⟨rfl, rfl, rfl⟩)))) (hb hby d15_4) hr
theorem w_81 {a0 : Array Value} {Z : State} (hw : ∀ d ∈ tables_1, d.before a0 Z = true) : Jvm.Cond.before (Jvm.Cond.code ({ cls := "com/example/whenfree/whenfree/Dialog", name := "uasTag", desc := "()Ljava/lang/String;" } : Jvm.MethodName) prog_10_method_9_code (1 : Nat) (Option.some (Jvm.ClassFile.FieldType.object "java/lang/String"))) a0 Z = true := hw _ (List.mem_of_getElem? (i := 81) rfl)
theorem w_77 {a0 : Array Value} {Z : State} (hw : ∀ d ∈ tables_1, d.before a0 Z = true) : Jvm.Cond.before (Jvm.Cond.methodLink "com/example/whenfree/whenfree/DialogReversedPinLaw" (33 : Nat) ({ cls := "com/example/whenfree/whenfree/Dialog", name := "uasTag", desc := "()Ljava/lang/String;" } : Jvm.MethodName)) a0 Z = true := hw _ (List.mem_of_getElem? (i := 77) rfl)
theorem w_80 {a0 : Array Value} {Z : State} (hw : ∀ d ∈ tables_1, d.before a0 Z = true) : Jvm.Cond.before (Jvm.Cond.selects "com/example/whenfree/whenfree/Dialog" ({ cls := "com/example/whenfree/whenfree/Dialog", name := "uasTag", desc := "()Ljava/lang/String;" } : Jvm.MethodName) ({ cls := "com/example/whenfree/whenfree/Dialog", name := "uasTag", desc := "()Ljava/lang/String;" } : Jvm.MethodName)) a0 Z = true := hw _ (List.mem_of_getElem? (i := 80) rfl)
theorem w_78 {a0 : Array Value} {Z : State} (hw : ∀ d ∈ tables_1, d.before a0 Z = true) : Jvm.Cond.before (Jvm.Cond.declares ({ cls := "com/example/whenfree/whenfree/Dialog", name := "uasTag", desc := "()Ljava/lang/String;" } : Jvm.MethodName)) a0 Z = true := hw _ (List.mem_of_getElem? (i := 78) rfl)
theorem w_79 {a0 : Array Value} {Z : State} (hw : ∀ d ∈ tables_1, d.before a0 Z = true) : Jvm.Cond.before (Jvm.Cond.instanceMethod ({ cls := "com/example/whenfree/whenfree/Dialog", name := "uasTag", desc := "()Ljava/lang/String;" } : Jvm.MethodName)) a0 Z = true := hw _ (List.mem_of_getElem? (i := 79) rfl)
theorem ef0 (p1 : Int32) (p2 : Int32) (p3 : Int32) (p4 : Int32) (m : MethodId) : entryFrame m #[(.int p1), (.int p2), (.int p3), (.int p4)] maxLocals = mkF m 0 #[.val (.int p1), .val (.int p2), .val (.int p3), .val (.int p4), .unset, .unset, .unset, .unset, .unset, .unset, .unset, .unset] [] := by first | (simp [entryFrame, mkF, argsToLocals, Value.category, maxLocals]; done) | rfl
theorem rm0_0 (l : Launch) (Z : State) (a0 : Array Value) (hw : ∀ d ∈ tables_1, d.before a0 Z = true) (ws : List Jvm.Cond) (p1 : Int32) (p2 : Int32) (p3 : Int32) (p4 : Int32) (cs : Int32) (h0 : Heap) (n0 : Nat) (Z0 : n0 ≤ h0.size) (S_cs : Sta Z Z.heap "java/lang/String" "COMPACT_STRINGS" "Z" (.int cs)) (c_cs : ¬ (cs = (0 : Int32))) (Od0 : Old Z n0 h0) (cc1 : (p4 &&& (4 : Int32)) = (0 : Int32)) (cc2 : (p4 &&& (1 : Int32)) = (0 : Int32)) (cc3 : (p4 &&& (2 : Int32)) = (0 : Int32)) :
    OwnMet l Z x code maxLocals ret ws room_1 #[(.int p1), (.int p2), (.int p3), (.int p4)] h0 (Q0 n0) := by
  refine own_body (plainFor_of_name pn_2) (ef0 p1 p2 p3 p4) ?_
  intro p e s m below meth c s₁ hx hby hml hown hnm hret hZ X0 e0
  have N0 := Fr.nil n0
  obtain ⟨_, T1, L1, X1, hQ1, st1⟩ := own_callS X0 hx hZ hown (y := y_5) (w_0 hw) (w_1 hw) (w_2 hw) (w_3 hw) (rm6 l Z a0 hw [] p1 cs h0 n0 Z0 S_cs Od0 c_cs) e0 (Ls := #[.val (.int p1), .val (.int p2), .val (.int p3), .val (.int p4), .unset, .unset, .unset, .unset, .unset, .unset, .unset, .unset]) (by rw [hml]; rfl) (argsL := [(.int p1)]) (rest := []) (lenOf pd_5 rfl) (hb hby at_11) (W := 0)
  obtain ⟨b1_b9, b1_b15_b11_b12_b2, k1_k15_k11_k12_k2, rfl, Nq1, K1, o1_0, o1_1, o1_2, o1_3, o1_4, o1_5, o1_6, o1_7⟩ := hQ1
  have N1 := Fr.app N0 Nq1
  have s0 := K1.1
  have Od1 : Old Z n0 T1.heap := Od0.keep K1 all0
  have z1 := Nat.le_trans Z0 s0
  obtain ⟨_, T2, L2, X2, hQ2, st2⟩ := own_callS X1 hx hZ hown (y := y_5) (w_0 hw) (w_1 hw) (w_2 hw) (w_3 hw) (rm6 l Z a0 hw [] p2 cs T1.heap n0 z1 S_cs Od1 c_cs) rfl (Ls := #[.val (.int p1), .val (.int p2), .val (.int p3), .val (.int p4), .val (.ref b1_b9), .unset, .unset, .unset, .unset, .unset, .unset, .unset]) (by rw [hml]; rfl) (argsL := [(.int p2)]) (rest := []) (lenOf pd_5 rfl) (hb hby at_27) (W := 0)
  obtain ⟨b2_b9, b2_b15_b11_b12_b2, k2_k15_k11_k12_k2, rfl, Nq2, K2, o2_0, o2_1, o2_2, o2_3, o2_4, o2_5, o2_6, o2_7⟩ := hQ2
  have N2 := Fr.app N1 Nq2
  have s1 := K2.1
  have Od2 : Old Z n0 T2.heap := Od1.keep K2 all0
  have z2 := Nat.le_trans Z0 (Nat.le_trans s0 s1)
  obtain ⟨_, T3, L3, X3, hQ3, st3⟩ := own_callS X2 hx hZ hown (y := y_5) (w_0 hw) (w_1 hw) (w_2 hw) (w_3 hw) (rm6 l Z a0 hw [] p3 cs T2.heap n0 z2 S_cs Od2 c_cs) rfl (Ls := #[.val (.int p1), .val (.int p2), .val (.int p3), .val (.int p4), .val (.ref b1_b9), .val (.ref b2_b9), .unset, .unset, .unset, .unset, .unset, .unset]) (by rw [hml]; rfl) (argsL := [(.int p3)]) (rest := []) (lenOf pd_5 rfl) (hb hby at_43) (W := 0)
  obtain ⟨b3_b9, b3_b15_b11_b12_b2, k3_k15_k11_k12_k2, rfl, Nq3, K3, o3_0, o3_1, o3_2, o3_3, o3_4, o3_5, o3_6, o3_7⟩ := hQ3
  have N3 := Fr.app N2 Nq3
  have s2 := K3.1
  obtain ⟨T4, h4, X4, e4, E4, A4, D4, -, st4⟩ := newO X3 hx hZ hown (w_34 hw) (w_35 hw) (w_36 hw) rfl (g := (mkF m 48 #[.val (.int p1), .val (.int p2), .val (.int p3), .val (.int p4), .val (.ref b1_b9), .val (.ref b2_b9), .val (.ref b3_b9), .unset, .unset, .unset, .unset, .unset] [])) rfl (hb hby at_48) (by decide) (by decide)
  obtain ⟨b4, g4⟩ : ∃ z, z = T3.heap.size := ⟨_, rfl⟩
  rw [← g4] at A4 D4 st4
  have s3 := E4.1
  have Fn4_callId : Fld Z h4 b4 "com/example/whenfree/whenfree/Dialog" "callId" "Ljava/lang/String;" .null := D4 (Or.inr (w_47 hw)) (ty := (.object "java/lang/String")) (by decide)
  have Fn4_uacTag : Fld Z h4 b4 "com/example/whenfree/whenfree/Dialog" "uacTag" "Ljava/lang/String;" .null := D4 (Or.inr (w_49 hw)) (ty := (.object "java/lang/String")) (by decide)
  have Fn4_uasTag : Fld Z h4 b4 "com/example/whenfree/whenfree/Dialog" "uasTag" "Ljava/lang/String;" .null := D4 (Or.inr (w_51 hw)) (ty := (.object "java/lang/String")) (by decide)
  have z3 := Nat.le_trans Z0 (Nat.le_trans (Nat.le_trans s0 s1) s2)
  have g_b4 : n0 ≤ b4 := Nat.le_trans z3 (Nat.le_of_eq g4.symm)
  have z4 := Nat.le_trans Z0 (Nat.le_trans (Nat.le_trans (Nat.le_trans s0 s1) s2) s3)
  obtain ⟨_, T5, L5, X5, hQ5, st5⟩ := own_special X4 hx hZ hown (y := y_7) (a := b4) (w_37 hw) (w_38 hw) (w_36 hw) (w_39 hw) (rm8 l Z a0 hw [] b4 b1_b9 b2_b9 b3_b9 h4 n0 z4 Fn4_callId A4 g_b4 Fn4_uacTag Fn4_uasTag) e4 (Ls := #[.val (.int p1), .val (.int p2), .val (.int p3), .val (.int p4), .val (.ref b1_b9), .val (.ref b2_b9), .val (.ref b3_b9), .unset, .unset, .unset, .unset, .unset]) (by rw [hml]; rfl) (argsL := [(.ref b1_b9), (.ref b2_b9), (.ref b3_b9)]) (rest := [(.ref b4)]) (lenOf pd_7 rfl) (hb hby at_58) (W := 1)
  obtain ⟨rfl, Nq5, K5, o5_0, o5_1, o5_2, o5_3⟩ := hQ5
  have N5 := Fr.app N3 Nq5
  have s4 := K5.1
  have z5 := Nat.le_trans Z0 (Nat.le_trans (Nat.le_trans (Nat.le_trans (Nat.le_trans s0 s1) s2) s3) s4)
  obtain ⟨_, T6, L6, X6, hQ6, st6⟩ := own_virtual X5 hx hZ hown (y := y_8) (z := y_8) o5_0 (w_52 hw) (w_53 hw) (notFace_of_selects (args := #[]) (mvT hZ (w_55 hw))) (w_55 hw) (w_54 hw) (w_36 hw) (w_56 hw) (rm9 l Z a0 hw [] b4 b1_b9 b3_b9 b2_b9 T5.heap n0 z5 o5_1 o5_3 o5_2) rfl (Ls := #[.val (.int p1), .val (.int p2), .val (.int p3), .val (.int p4), .val (.ref b1_b9), .val (.ref b2_b9), .val (.ref b3_b9), .val (.ref b4), .unset, .unset, .unset, .unset]) (by rw [hml]; rfl) (argsL := []) (rest := []) (lenOf pd_8 rfl) (hb hby at_65) (W := 0)
  obtain ⟨b6_b2, rfl, Nq6, K6, o6_0, o6_1, o6_2, o6_3, o6_4⟩ := hQ6
  have N6 := Fr.app N5 Nq6
  have s5 := K6.1
  have z6 := Nat.le_trans Z0 (Nat.le_trans (Nat.le_trans (Nat.le_trans (Nat.le_trans (Nat.le_trans s0 s1) s2) s3) s4) s5)
  obtain ⟨_, T7, L7, X7, hQ7, st7⟩ := own_virtual X6 hx hZ hown (y := y_9) (z := y_9) o6_1 (w_59 hw) (w_60 hw) (notFace_of_selects (args := #[]) (mvT hZ (w_62 hw))) (w_62 hw) (w_61 hw) (w_36 hw) (w_63 hw) (rm10 l Z a0 hw [] b6_b2 b1_b9 T6.heap n0 z6 o6_2) rfl (Ls := #[.val (.int p1), .val (.int p2), .val (.int p3), .val (.int p4), .val (.ref b1_b9), .val (.ref b2_b9), .val (.ref b3_b9), .val (.ref b4), .val (.ref b6_b2), .unset, .unset, .unset]) (by rw [hml]; rfl) (argsL := []) (rest := []) (lenOf pd_9 rfl) (hb hby at_72) (W := 0)
  obtain ⟨rfl, Nq7, e7⟩ := hQ7
  have N7 := Fr.app N6 Nq7
  have Ex8 := (((((o1_1.keep K2).keep K3).ext E4).keep K5).keep K6)
  obtain ⟨_, T9, L9, X9, hQ9, st9⟩ := own_callS X7 hx hZ hown (y := y_11) (w_64 hw) (w_65 hw) (w_2 hw) (w_66 hw) (rm12 l Z a0 hw [] b1_b9 T6.heap n0 z6 Ex8) e7 (Ls := #[.val (.int p1), .val (.int p2), .val (.int p3), .val (.int p4), .val (.ref b1_b9), .val (.ref b2_b9), .val (.ref b3_b9), .val (.ref b4), .val (.ref b6_b2), .unset, .unset, .unset]) (by rw [hml]; rfl) (argsL := [(.ref b1_b9), (.ref b1_b9)]) (rest := []) (lenOf pd_11 rfl) (hb hby at_77) (W := 0)
  obtain ⟨rfl, Nq9, e9⟩ := hQ9
  have N9 := Fr.app N7 Nq9
  obtain ⟨_, T10, L10, X10, hQ10, st10⟩ := own_virtual X9 hx hZ hown (y := y_12) (z := y_12) o6_1 (w_72 hw) (w_73 hw) (notFace_of_selects (args := #[]) (mvT hZ (w_75 hw))) (w_75 hw) (w_74 hw) (w_36 hw) (w_76 hw) (rm13 l Z a0 hw [] b6_b2 b3_b9 T6.heap n0 z6 o6_3) e9 (Ls := #[.val (.int p1), .val (.int p2), .val (.int p3), .val (.int p4), .val (.ref b1_b9), .val (.ref b2_b9), .val (.ref b3_b9), .val (.ref b4), .val (.ref b6_b2), .unset, .unset, .unset]) (by rw [hml]; rfl) (argsL := []) (rest := []) (lenOf pd_9 rfl) (hb hby at_85) (W := 0)
  obtain ⟨rfl, Nq10, e10⟩ := hQ10
  have N10 := Fr.app N9 Nq10
  have Ex11 := (((o3_1.ext E4).keep K5).keep K6)
  obtain ⟨_, T12, L12, X12, hQ12, st12⟩ := own_callS X10 hx hZ hown (y := y_11) (w_64 hw) (w_65 hw) (w_2 hw) (w_66 hw) (rm12 l Z a0 hw [] b3_b9 T6.heap n0 z6 Ex11) e10 (Ls := #[.val (.int p1), .val (.int p2), .val (.int p3), .val (.int p4), .val (.ref b1_b9), .val (.ref b2_b9), .val (.ref b3_b9), .val (.ref b4), .val (.ref b6_b2), .unset, .unset, .unset]) (by rw [hml]; rfl) (argsL := [(.ref b3_b9), (.ref b3_b9)]) (rest := []) (lenOf pd_11 rfl) (hb hby at_90) (W := 0)
  obtain ⟨rfl, Nq12, e12⟩ := hQ12
  have N12 := Fr.app N10 Nq12
  obtain ⟨_, T13, L13, X13, hQ13, st13⟩ := own_virtual X12 hx hZ hown (y := y_13) (z := y_13) o6_1 (w_77 hw) (w_78 hw) (notFace_of_selects (args := #[]) (mvT hZ (w_80 hw))) (w_80 hw) (w_79 hw) (w_36 hw) (w_81 hw) (rm14 l Z a0 hw [] b6_b2 b2_b9 T6.heap n0 z6 o6_4) e12 (Ls := #[.val (.int p1), .val (.int p2), .val (.int p3), .val (.int p4), .val (.ref b1_b9), .val (.ref b2_b9), .val (.ref b3_b9), .val (.ref b4), .val (.ref b6_b2), .unset, .unset, .unset]) (by rw [hml]; rfl) (argsL := []) (rest := []) (lenOf pd_9 rfl) (hb hby at_98) (W := 0)
  obtain ⟨rfl, Nq13, e13⟩ := hQ13
  have N13 := Fr.app N12 Nq13
  have Ex14 := ((((o2_1.keep K3).ext E4).keep K5).keep K6)
  obtain ⟨_, T15, L15, X15, hQ15, st15⟩ := own_callS X13 hx hZ hown (y := y_11) (w_64 hw) (w_65 hw) (w_2 hw) (w_66 hw) (rm12 l Z a0 hw [] b2_b9 T6.heap n0 z6 Ex14) e13 (Ls := #[.val (.int p1), .val (.int p2), .val (.int p3), .val (.int p4), .val (.ref b1_b9), .val (.ref b2_b9), .val (.ref b3_b9), .val (.ref b4), .val (.ref b6_b2), .unset, .unset, .unset]) (by rw [hml]; rfl) (argsL := [(.ref b2_b9), (.ref b2_b9)]) (rest := []) (lenOf pd_11 rfl) (hb hby at_103) (W := 0)
  obtain ⟨rfl, Nq15, e15⟩ := hQ15
  have N15 := Fr.app N13 Nq15
  obtain ⟨_, T16, L16, X16, hQ16, st16⟩ := own_virtual X15 hx hZ hown (y := y_8) (z := y_8) o6_1 (w_52 hw) (w_53 hw) (notFace_of_selects (args := #[]) (mvT hZ (w_55 hw))) (w_55 hw) (w_54 hw) (w_36 hw) (w_56 hw) (rm9 l Z a0 hw [] b6_b2 b1_b9 b2_b9 b3_b9 T6.heap n0 z6 o6_2 o6_4 o6_3) e15 (Ls := #[.val (.int p1), .val (.int p2), .val (.int p3), .val (.int p4), .val (.ref b1_b9), .val (.ref b2_b9), .val (.ref b3_b9), .val (.ref b4), .val (.ref b6_b2), .val (.int (1 : Int32)), .unset, .unset]) (by rw [hml]; rfl) (argsL := []) (rest := []) (lenOf pd_8 rfl) (hb hby at_118) (W := 0)
  obtain ⟨b16_b2, rfl, Nq16, K16, o16_0, o16_1, o16_2, o16_3, o16_4⟩ := hQ16
  have N16 := Fr.app N15 Nq16
  have s6 := K16.1
  have z7 := Nat.le_trans Z0 (Nat.le_trans (Nat.le_trans (Nat.le_trans (Nat.le_trans (Nat.le_trans (Nat.le_trans s0 s1) s2) s3) s4) s5) s6)
  obtain ⟨_, T17, L17, X17, hQ17, st17⟩ := own_virtual X16 hx hZ hown (y := y_9) (z := y_9) o16_1 (w_59 hw) (w_60 hw) (notFace_of_selects (args := #[]) (mvT hZ (w_62 hw))) (w_62 hw) (w_61 hw) (w_36 hw) (w_63 hw) (rm10 l Z a0 hw [] b16_b2 b1_b9 T16.heap n0 z7 o16_2) rfl (Ls := #[.val (.int p1), .val (.int p2), .val (.int p3), .val (.int p4), .val (.ref b1_b9), .val (.ref b2_b9), .val (.ref b3_b9), .val (.ref b4), .val (.ref b6_b2), .val (.int (1 : Int32)), .val (.ref b16_b2), .unset]) (by rw [hml]; rfl) (argsL := []) (rest := []) (lenOf pd_9 rfl) (hb hby at_125) (W := 0)
  obtain ⟨rfl, Nq17, e17⟩ := hQ17
  have N17 := Fr.app N16 Nq17
  have Ex18 := (Ex8.keep K16)
  obtain ⟨_, T19, L19, X19, hQ19, st19⟩ := own_callS X17 hx hZ hown (y := y_11) (w_64 hw) (w_65 hw) (w_2 hw) (w_66 hw) (rm12 l Z a0 hw [] b1_b9 T16.heap n0 z7 Ex18) e17 (Ls := #[.val (.int p1), .val (.int p2), .val (.int p3), .val (.int p4), .val (.ref b1_b9), .val (.ref b2_b9), .val (.ref b3_b9), .val (.ref b4), .val (.ref b6_b2), .val (.int (1 : Int32)), .val (.ref b16_b2), .unset]) (by rw [hml]; rfl) (argsL := [(.ref b1_b9), (.ref b1_b9)]) (rest := []) (lenOf pd_11 rfl) (hb hby at_130) (W := 0)
  obtain ⟨rfl, Nq19, e19⟩ := hQ19
  have N19 := Fr.app N17 Nq19
  obtain ⟨_, T20, L20, X20, hQ20, st20⟩ := own_virtual X19 hx hZ hown (y := y_12) (z := y_12) o16_1 (w_72 hw) (w_73 hw) (notFace_of_selects (args := #[]) (mvT hZ (w_75 hw))) (w_75 hw) (w_74 hw) (w_36 hw) (w_76 hw) (rm13 l Z a0 hw [] b16_b2 b2_b9 T16.heap n0 z7 o16_3) e19 (Ls := #[.val (.int p1), .val (.int p2), .val (.int p3), .val (.int p4), .val (.ref b1_b9), .val (.ref b2_b9), .val (.ref b3_b9), .val (.ref b4), .val (.ref b6_b2), .val (.int (1 : Int32)), .val (.ref b16_b2), .unset]) (by rw [hml]; rfl) (argsL := []) (rest := []) (lenOf pd_9 rfl) (hb hby at_138) (W := 0)
  obtain ⟨rfl, Nq20, e20⟩ := hQ20
  have N20 := Fr.app N19 Nq20
  have Ex21 := (Ex14.keep K16)
  obtain ⟨_, T22, L22, X22, hQ22, st22⟩ := own_callS X20 hx hZ hown (y := y_11) (w_64 hw) (w_65 hw) (w_2 hw) (w_66 hw) (rm12 l Z a0 hw [] b2_b9 T16.heap n0 z7 Ex21) e20 (Ls := #[.val (.int p1), .val (.int p2), .val (.int p3), .val (.int p4), .val (.ref b1_b9), .val (.ref b2_b9), .val (.ref b3_b9), .val (.ref b4), .val (.ref b6_b2), .val (.int (1 : Int32)), .val (.ref b16_b2), .unset]) (by rw [hml]; rfl) (argsL := [(.ref b2_b9), (.ref b2_b9)]) (rest := []) (lenOf pd_11 rfl) (hb hby at_143) (W := 0)
  obtain ⟨rfl, Nq22, e22⟩ := hQ22
  have N22 := Fr.app N20 Nq22
  obtain ⟨_, T23, L23, X23, hQ23, st23⟩ := own_virtual X22 hx hZ hown (y := y_13) (z := y_13) o16_1 (w_77 hw) (w_78 hw) (notFace_of_selects (args := #[]) (mvT hZ (w_80 hw))) (w_80 hw) (w_79 hw) (w_36 hw) (w_81 hw) (rm14 l Z a0 hw [] b16_b2 b3_b9 T16.heap n0 z7 o16_4) e22 (Ls := #[.val (.int p1), .val (.int p2), .val (.int p3), .val (.int p4), .val (.ref b1_b9), .val (.ref b2_b9), .val (.ref b3_b9), .val (.ref b4), .val (.ref b6_b2), .val (.int (1 : Int32)), .val (.ref b16_b2), .unset]) (by rw [hml]; rfl) (argsL := []) (rest := []) (lenOf pd_9 rfl) (hb hby at_151) (W := 0)
  obtain ⟨rfl, Nq23, e23⟩ := hQ23
  have N23 := Fr.app N22 Nq23
  have Ex24 := (Ex11.keep K16)
  obtain ⟨_, T25, L25, X25, hQ25, st25⟩ := own_callS X23 hx hZ hown (y := y_11) (w_64 hw) (w_65 hw) (w_2 hw) (w_66 hw) (rm12 l Z a0 hw [] b3_b9 T16.heap n0 z7 Ex24) e23 (Ls := #[.val (.int p1), .val (.int p2), .val (.int p3), .val (.int p4), .val (.ref b1_b9), .val (.ref b2_b9), .val (.ref b3_b9), .val (.ref b4), .val (.ref b6_b2), .val (.int (1 : Int32)), .val (.ref b16_b2), .unset]) (by rw [hml]; rfl) (argsL := [(.ref b3_b9), (.ref b3_b9)]) (rest := []) (lenOf pd_11 rfl) (hb hby at_156) (W := 0)
  obtain ⟨rfl, Nq25, e25⟩ := hQ25
  have N25 := Fr.app N23 Nq25
  refine ⟨T25, _, _, _, (some (.int (1 : Int32))), X25, nofun, by decide, by decide, ?_, fun fs hr => ?_⟩
  · show Q0 n0 _ T25.heap _
    rw [e25]
    exact ⟨rfl, N25⟩
  · show Steps p.tables e below (s₁.setTop (mkF m 0 #[.val (.int p1), .val (.int p2), .val (.int p3), .val (.int p4), .unset, .unset, .unset, .unset, .unset, .unset, .unset, .unset] [])) _
    refine XS.iloadN X0.here hx rfl (hb hby at_0) rfl ?_
    refine XS.iconst X0.here hx rfl (hb hby at_1) ?_
    refine XS.iand X0.here hx rfl (hb hby at_2) rfl ?_
    refine XS.ifYes X0.here hx rfl (pc0 := 3) (pc' := 10) rfl (hb hby at_3) rfl ((if0 _ _).trans (teq (cc1 : (p4 &&& (4 : Int32)) = (0 : Int32))).1) (by decide) (by decide) ?_
    refine XS.iloadN X0.here hx rfl (hb hby at_10) rfl ?_
    refine st1 _ ?_
    refine XS.astore X1.here hx rfl (hb hby at_14) rfl rfl (l' := #[.val (.int p1), .val (.int p2), .val (.int p3), .val (.int p4), .val (.ref b1_b9), .unset, .unset, .unset, .unset, .unset, .unset, .unset]) rfl ?_
    refine XS.iloadN X1.here hx rfl (hb hby at_16) rfl ?_
    refine XS.iconst X1.here hx rfl (hb hby at_17) ?_
    refine XS.iand X1.here hx rfl (hb hby at_18) rfl ?_
    refine XS.ifYes X1.here hx rfl (pc0 := 19) (pc' := 26) rfl (hb hby at_19) rfl ((if0 _ _).trans (teq (cc2 : (p4 &&& (1 : Int32)) = (0 : Int32))).1) (by decide) (by decide) ?_
    refine XS.iloadN X1.here hx rfl (hb hby at_26) rfl ?_
    show Steps p.tables e below (T1.setTop (mkF m 27 #[.val (.int p1), .val (.int p2), .val (.int p3), .val (.int p4), .val (.ref b1_b9), .unset, .unset, .unset, .unset, .unset, .unset, .unset] [(.int p2)])) _
    refine st2 _ ?_
    refine XS.astore X2.here hx rfl (hb hby at_30) rfl rfl (l' := #[.val (.int p1), .val (.int p2), .val (.int p3), .val (.int p4), .val (.ref b1_b9), .val (.ref b2_b9), .unset, .unset, .unset, .unset, .unset, .unset]) rfl ?_
    refine XS.iloadN X2.here hx rfl (hb hby at_32) rfl ?_
    refine XS.iconst X2.here hx rfl (hb hby at_33) ?_
    refine XS.iand X2.here hx rfl (hb hby at_34) rfl ?_
    refine XS.ifYes X2.here hx rfl (pc0 := 35) (pc' := 42) rfl (hb hby at_35) rfl ((if0 _ _).trans (teq (cc3 : (p4 &&& (2 : Int32)) = (0 : Int32))).1) (by decide) (by decide) ?_
    refine XS.iloadN X2.here hx rfl (hb hby at_42) rfl ?_
    refine st3 _ ?_
    refine XS.astore X3.here hx rfl (hb hby at_46) rfl rfl (l' := #[.val (.int p1), .val (.int p2), .val (.int p3), .val (.int p4), .val (.ref b1_b9), .val (.ref b2_b9), .val (.ref b3_b9), .unset, .unset, .unset, .unset, .unset]) rfl ?_
    refine st4 _ ?_
    refine XS.dup X4.here hx rfl (hb hby at_51) rfl rfl ?_
    refine XS.aload X4.here hx rfl (hb hby at_52) rfl rfl ?_
    show Steps p.tables e below (T4.setTop (mkF m 54 #[.val (.int p1), .val (.int p2), .val (.int p3), .val (.int p4), .val (.ref b1_b9), .val (.ref b2_b9), .val (.ref b3_b9), .unset, .unset, .unset, .unset, .unset] [(.ref b1_b9), (.ref b4), (.ref b4)])) _
    refine XS.aload X4.here hx rfl (hb hby at_54) rfl rfl ?_
    refine XS.aload X4.here hx rfl (hb hby at_56) rfl rfl ?_
    refine st5 _ ?_
    refine XS.astore X5.here hx rfl (hb hby at_61) rfl rfl (l' := #[.val (.int p1), .val (.int p2), .val (.int p3), .val (.int p4), .val (.ref b1_b9), .val (.ref b2_b9), .val (.ref b3_b9), .val (.ref b4), .unset, .unset, .unset, .unset]) rfl ?_
    refine XS.aload X5.here hx rfl (hb hby at_63) rfl rfl ?_
    refine st6 _ ?_
    refine XS.astore X6.here hx rfl (hb hby at_68) rfl rfl (l' := #[.val (.int p1), .val (.int p2), .val (.int p3), .val (.int p4), .val (.ref b1_b9), .val (.ref b2_b9), .val (.ref b3_b9), .val (.ref b4), .val (.ref b6_b2), .unset, .unset, .unset]) rfl ?_
    refine XS.aload X6.here hx rfl (hb hby at_70) rfl rfl ?_
    refine st7 _ ?_
    refine XS.aload X7.here hx rfl (hb hby at_75) rfl rfl ?_
    refine st9 _ ?_
    refine XS.ifNo X9.here hx rfl (hb hby at_80) rfl ((if0 _ _).trans (feq ((by decide : ¬ ((1 : Int32) = (0 : Int32))) : ¬ ((1 : Int32) = (0 : Int32)))).1) ?_
    show Steps p.tables e below (T9.setTop (mkF m 83 #[.val (.int p1), .val (.int p2), .val (.int p3), .val (.int p4), .val (.ref b1_b9), .val (.ref b2_b9), .val (.ref b3_b9), .val (.ref b4), .val (.ref b6_b2), .unset, .unset, .unset] [])) _
    refine XS.aload X9.here hx rfl (hb hby at_83) rfl rfl ?_
    refine st10 _ ?_
    refine XS.aload X10.here hx rfl (hb hby at_88) rfl rfl ?_
    refine st12 _ ?_
    refine XS.ifNo X12.here hx rfl (hb hby at_93) rfl ((if0 _ _).trans (feq ((by decide : ¬ ((1 : Int32) = (0 : Int32))) : ¬ ((1 : Int32) = (0 : Int32)))).1) ?_
    refine XS.aload X12.here hx rfl (hb hby at_96) rfl rfl ?_
    refine st13 _ ?_
    refine XS.aload X13.here hx rfl (hb hby at_101) rfl rfl ?_
    refine st15 _ ?_
    refine XS.ifNo X15.here hx rfl (hb hby at_106) rfl ((if0 _ _).trans (feq ((by decide : ¬ ((1 : Int32) = (0 : Int32))) : ¬ ((1 : Int32) = (0 : Int32)))).1) ?_
    refine XS.iconst X15.here hx rfl (hb hby at_109) ?_
    refine XS.goto X15.here hx rfl (pc0 := 110) (pc' := 114) rfl (hb hby at_110) (by decide) (by decide) ?_
    show Steps p.tables e below (T15.setTop (mkF m 114 #[.val (.int p1), .val (.int p2), .val (.int p3), .val (.int p4), .val (.ref b1_b9), .val (.ref b2_b9), .val (.ref b3_b9), .val (.ref b4), .val (.ref b6_b2), .unset, .unset, .unset] [(.int (1 : Int32))])) _
    refine XS.istore X15.here hx rfl (hb hby at_114) rfl (l' := #[.val (.int p1), .val (.int p2), .val (.int p3), .val (.int p4), .val (.ref b1_b9), .val (.ref b2_b9), .val (.ref b3_b9), .val (.ref b4), .val (.ref b6_b2), .val (.int (1 : Int32)), .unset, .unset]) rfl ?_
    refine XS.aload X15.here hx rfl (hb hby at_116) rfl rfl ?_
    refine st16 _ ?_
    refine XS.astore X16.here hx rfl (hb hby at_121) rfl rfl (l' := #[.val (.int p1), .val (.int p2), .val (.int p3), .val (.int p4), .val (.ref b1_b9), .val (.ref b2_b9), .val (.ref b3_b9), .val (.ref b4), .val (.ref b6_b2), .val (.int (1 : Int32)), .val (.ref b16_b2), .unset]) rfl ?_
    refine XS.aload X16.here hx rfl (hb hby at_123) rfl rfl ?_
    refine st17 _ ?_
    refine XS.aload X17.here hx rfl (hb hby at_128) rfl rfl ?_
    refine st19 _ ?_
    refine XS.ifNo X19.here hx rfl (hb hby at_133) rfl ((if0 _ _).trans (feq ((by decide : ¬ ((1 : Int32) = (0 : Int32))) : ¬ ((1 : Int32) = (0 : Int32)))).1) ?_
    refine XS.aload X19.here hx rfl (hb hby at_136) rfl rfl ?_
    refine st20 _ ?_
    refine XS.aload X20.here hx rfl (hb hby at_141) rfl rfl ?_
    show Steps p.tables e below (T20.setTop (mkF m 143 #[.val (.int p1), .val (.int p2), .val (.int p3), .val (.int p4), .val (.ref b1_b9), .val (.ref b2_b9), .val (.ref b3_b9), .val (.ref b4), .val (.ref b6_b2), .val (.int (1 : Int32)), .val (.ref b16_b2), .unset] [(.ref b2_b9), (.ref b2_b9)])) _
    refine st22 _ ?_
    refine XS.ifNo X22.here hx rfl (hb hby at_146) rfl ((if0 _ _).trans (feq ((by decide : ¬ ((1 : Int32) = (0 : Int32))) : ¬ ((1 : Int32) = (0 : Int32)))).1) ?_
    refine XS.aload X22.here hx rfl (hb hby at_149) rfl rfl ?_
    refine st23 _ ?_
    refine XS.aload X23.here hx rfl (hb hby at_154) rfl rfl ?_
    refine st25 _ ?_
    refine XS.ifNo X25.here hx rfl (hb hby at_159) rfl ((if0 _ _).trans (feq ((by decide : ¬ ((1 : Int32) = (0 : Int32))) : ¬ ((1 : Int32) = (0 : Int32)))).1) ?_
    refine XS.iconst X25.here hx rfl (hb hby at_162) ?_
    refine XS.goto X25.here hx rfl (pc0 := 163) (pc' := 167) rfl (hb hby at_163) (by decide) (by decide) ?_
    refine XS.istore X25.here hx rfl (hb hby at_167) rfl (l' := #[.val (.int p1), .val (.int p2), .val (.int p3), .val (.int p4), .val (.ref b1_b9), .val (.ref b2_b9), .val (.ref b3_b9), .val (.ref b4), .val (.ref b6_b2), .val (.int (1 : Int32)), .val (.ref b16_b2), .val (.int (1 : Int32))]) rfl ?_
    refine XS.iload X25.here hx rfl (hb hby at_169) rfl ?_
    refine XS.ifNo X25.here hx rfl (hb hby at_171) rfl ((if0 _ _).trans (feq ((by decide : ¬ ((1 : Int32) = (0 : Int32))) : ¬ ((1 : Int32) = (0 : Int32)))).1) ?_
    show Steps p.tables e below (T25.setTop (mkF m 174 #[.val (.int p1), .val (.int p2), .val (.int p3), .val (.int p4), .val (.ref b1_b9), .val (.ref b2_b9), .val (.ref b3_b9), .val (.ref b4), .val (.ref b6_b2), .val (.int (1 : Int32)), .val (.ref b16_b2), .val (.int (1 : Int32))] [])) _
    refine XS.iload X25.here hx rfl (hb hby at_174) rfl ?_
    refine XS.ifNo X25.here hx rfl (hb hby at_176) rfl ((if0 _ _).trans (feq ((by decide : ¬ ((1 : Int32) = (0 : Int32))) : ¬ ((1 : Int32) = (0 : Int32)))).1) ?_
    refine XS.iconst X25.here hx rfl (hb hby at_179) ?_
    refine XS.goto X25.here hx rfl (pc0 := 180) (pc' := 184) rfl (hb hby at_180) (by decide) (by decide) ?_
    exact retN X25 hx (t := .boolean) hret (by simp) (hb hby at_184) hr
-- com/example/whenfree/whenfree/Dialog.<init>(Ljava/lang/String;Ljava/lang/String;Ljava/lang/String;)V
abbrev Rm15 : Room := { frames := 2, cells := 0, slots := 0, locals := 24 }
def Q15 (Z : State) (a1 : Addr) (a2 : Addr) (a3 : Addr) (h0 : Heap) (n0 : Nat) (v : Option Value) (h : Heap) (L : List Loc) : Prop := v = none ∧ Fr n0 L ∧ Keep h0 h [a1] ∧ Exa Z h a1 "com/example/whenfree/whenfree/Dialog" ∧ Fld Z h a1 "com/example/whenfree/whenfree/Dialog" "callId" "Ljava/lang/String;" (.ref a2) ∧ Fld Z h a1 "com/example/whenfree/whenfree/Dialog" "uacTag" "Ljava/lang/String;" (.ref a3) ∧ Fld Z h a1 "com/example/whenfree/whenfree/Dialog" "uasTag" "Ljava/lang/String;" .null
theorem ef15 (a1 : Addr) (a2 : Addr) (a3 : Addr) (m : MethodId) : entryFrame m #[(.ref a1), (.ref a2), (.ref a3), .null] 4 = mkF m 0 #[.val (.ref a1), .val (.ref a2), .val (.ref a3), .val .null] [] := by first | (simp [entryFrame, mkF, argsToLocals, Value.category]; done) | rfl
theorem rm15 (l : Launch) (Z : State) (a0 : Array Value) (hw : ∀ d ∈ tables_1, d.before a0 Z = true) (ws : List Jvm.Cond) (a1 : Addr) (a2 : Addr) (a3 : Addr) (h0 : Heap) (n0 : Nat) (Z0 : n0 ≤ h0.size) (F_callId_a1 : Fld Z h0 a1 "com/example/whenfree/whenfree/Dialog" "callId" "Ljava/lang/String;" .null) (E_a1 : Exa Z h0 a1 "com/example/whenfree/whenfree/Dialog") (g_a1 : n0 ≤ a1) (F_uacTag_a1 : Fld Z h0 a1 "com/example/whenfree/whenfree/Dialog" "uacTag" "Ljava/lang/String;" .null) (F_uasTag_a1 : Fld Z h0 a1 "com/example/whenfree/whenfree/Dialog" "uasTag" "Ljava/lang/String;" .null) :
    OwnMet l Z y_7 prog_10_method_1_code 4 none ws Rm15 #[(.ref a1), (.ref a2), (.ref a3), .null] h0 (Q15 Z a1 a2 a3 h0 n0) := by
  refine own_body (plainFor_of_name pn_4) (ef15 a1 a2 a3) ?_
  intro p e s m below meth c s₁ hx hby hml hown hnm hret hZ X0 e0
  have N0 := Fr.nil n0
  obtain ⟨_, T4, L4, X4, hQ4, st4⟩ := own_special X0 hx hZ hown (y := y_6) (a := a1) (w_40 hw) (w_41 hw) (w_43 hw) (w_44 hw) (rm7 l Z a0 hw [] a1 h0 n0 Z0) e0 (Ls := #[.val (.ref a1), .val (.ref a2), .val (.ref a3), .val .null]) (by rw [hml]; rfl) (argsL := []) (rest := []) (lenOf pd_6 rfl) (hb hby d8_1) (W := 0)
  obtain ⟨rfl, Nq4, e4⟩ := hQ4
  have N4 := Fr.app N0 Nq4
  obtain ⟨T5, h5, X5, e5, W5, st5⟩ := putF X4 hx hZ hown (host := "") (Or.inl (w_46 hw)) Via.refl e4 F_callId_a1 E_a1 (Or.inr ⟨(w_47 hw), rfl, hnm⟩) (w_35 hw) (ty := (.object "java/lang/String")) (by decide) rfl rfl (g := (mkF m 6 #[.val (.ref a1), .val (.ref a2), .val (.ref a3), .val .null] [(.ref a2), (.ref a1)])) rfl rfl (hb hby d8_6)
  have s0 := (Keep.of_wr W5).1
  have N5 := Fr.snoc X5 N4 g_a1
  have Fw5 : Fld Z h5 a1 "com/example/whenfree/whenfree/Dialog" "callId" "Ljava/lang/String;" (.ref a2) := F_callId_a1.same W5
  have Ex6 := (E_a1.wr W5)
  have Fl7 := (F_uacTag_a1.other W5 (Or.inr (slot_ne (Or.inr (w_49 hw)) (Or.inr (w_47 hw)) (by decide) (t := (.object "java/lang/String")) (t' := (.object "java/lang/String")) (by decide) (by decide))))
  obtain ⟨T8, h8, X8, e8, W8, st8⟩ := putF X5 hx hZ hown (host := "") (Or.inl (w_48 hw)) Via.refl e5 Fl7 Ex6 (Or.inr ⟨(w_49 hw), rfl, hnm⟩) (w_35 hw) (ty := (.object "java/lang/String")) (by decide) rfl rfl (g := (mkF m 11 #[.val (.ref a1), .val (.ref a2), .val (.ref a3), .val .null] [(.ref a3), (.ref a1)])) rfl rfl (hb hby d8_11)
  have s1 := (Keep.of_wr W8).1
  have N8 := Fr.snoc X8 N5 g_a1
  have Fw8 : Fld Z h8 a1 "com/example/whenfree/whenfree/Dialog" "uacTag" "Ljava/lang/String;" (.ref a3) := Fl7.same W8
  have Ex9 := (Ex6.wr W8)
  have Fl10 := ((F_uasTag_a1.other W5 (Or.inr (slot_ne (Or.inr (w_51 hw)) (Or.inr (w_47 hw)) (by decide) (t := (.object "java/lang/String")) (t' := (.object "java/lang/String")) (by decide) (by decide)))).other W8 (Or.inr (slot_ne (Or.inr (w_51 hw)) (Or.inr (w_49 hw)) (by decide) (t := (.object "java/lang/String")) (t' := (.object "java/lang/String")) (by decide) (by decide))))
  obtain ⟨T11, h11, X11, e11, W11, st11⟩ := putF X8 hx hZ hown (host := "") (Or.inl (w_50 hw)) Via.refl e8 Fl10 Ex9 (Or.inr ⟨(w_51 hw), rfl, hnm⟩) (w_35 hw) (ty := (.object "java/lang/String")) (by decide) rfl rfl (g := (mkF m 16 #[.val (.ref a1), .val (.ref a2), .val (.ref a3), .val .null] [.null, (.ref a1)])) rfl rfl (hb hby d8_16)
  have s2 := (Keep.of_wr W11).1
  have N11 := Fr.snoc X11 N8 g_a1
  have Fw11 : Fld Z h11 a1 "com/example/whenfree/whenfree/Dialog" "uasTag" "Ljava/lang/String;" .null := Fl10.same W11
  have Ex12 := (Ex9.wr W11)
  have Fl13 := ((Fw5.other W8 (Or.inr (slot_ne (Or.inr (w_47 hw)) (Or.inr (w_49 hw)) (by decide) (t := (.object "java/lang/String")) (t' := (.object "java/lang/String")) (by decide) (by decide)))).other W11 (Or.inr (slot_ne (Or.inr (w_47 hw)) (Or.inr (w_51 hw)) (by decide) (t := (.object "java/lang/String")) (t' := (.object "java/lang/String")) (by decide) (by decide))))
  have Fl14 := (Fw8.other W11 (Or.inr (slot_ne (Or.inr (w_49 hw)) (Or.inr (w_51 hw)) (by decide) (t := (.object "java/lang/String")) (t' := (.object "java/lang/String")) (by decide) (by decide))))
  have Kp0 : Keep h0 h5 [a1] := (Keep.refl h0 [a1]).wr W5 (Or.inl (List.mem_of_getElem? (i := 0) rfl))
  have Kp1 : Keep h0 h8 [a1] := Kp0.wr W8 (Or.inl (List.mem_of_getElem? (i := 0) rfl))
  have Kp2 : Keep h0 h11 [a1] := Kp1.wr W11 (Or.inl (List.mem_of_getElem? (i := 0) rfl))
  refine ⟨T11, _, _, _, none, X11, (fun _ => rfl), by decide, by decide, ?_, fun fs hr => ?_⟩
  · show Q15 Z a1 a2 a3 h0 n0 _ T11.heap _
    rw [e11]
    exact ⟨rfl, N11, Kp2, Ex12, Fl13, Fl14, Fw11⟩
  · show Steps p.tables e below (s₁.setTop (mkF m 0 #[.val (.ref a1), .val (.ref a2), .val (.ref a3), .val .null] [])) _
    refine XS.aloadN X0.here hx rfl (hb hby d8_0) rfl rfl ?_
    refine st4 _ ?_
    refine XS.aloadN X4.here hx rfl (hb hby d8_4) rfl rfl ?_
    refine XS.aloadN X4.here hx rfl (hb hby d8_5) rfl rfl ?_
    refine st5 _ ?_
    refine XS.aloadN X5.here hx rfl (hb hby d8_9) rfl rfl ?_
    refine XS.aloadN X5.here hx rfl (hb hby d8_10) rfl rfl ?_
    refine st8 _ ?_
    refine XS.aloadN X8.here hx rfl (hb hby d8_14) rfl rfl ?_
    refine XS.aloadN X8.here hx rfl (hb hby d8_15) rfl rfl ?_
    refine st11 _ ?_
    exact X11.returnOut hx hret (hb hby d8_19) hr
-- com/example/whenfree/whenfree/Dialog.<init>(Ljava/lang/String;Ljava/lang/String;Ljava/lang/String;)V
abbrev Rm16 : Room := { frames := 2, cells := 0, slots := 0, locals := 24 }
def Q16 (Z : State) (a1 : Addr) (a2 : Addr) (a3 : Addr) (h0 : Heap) (n0 : Nat) (v : Option Value) (h : Heap) (L : List Loc) : Prop := v = none ∧ Fr n0 L ∧ Keep h0 h [a1] ∧ Exa Z h a1 "com/example/whenfree/whenfree/Dialog" ∧ Fld Z h a1 "com/example/whenfree/whenfree/Dialog" "callId" "Ljava/lang/String;" (.ref a2) ∧ Fld Z h a1 "com/example/whenfree/whenfree/Dialog" "uacTag" "Ljava/lang/String;" .null ∧ Fld Z h a1 "com/example/whenfree/whenfree/Dialog" "uasTag" "Ljava/lang/String;" (.ref a3)
theorem ef16 (a1 : Addr) (a2 : Addr) (a3 : Addr) (m : MethodId) : entryFrame m #[(.ref a1), (.ref a2), .null, (.ref a3)] 4 = mkF m 0 #[.val (.ref a1), .val (.ref a2), .val .null, .val (.ref a3)] [] := by first | (simp [entryFrame, mkF, argsToLocals, Value.category]; done) | rfl
theorem rm16 (l : Launch) (Z : State) (a0 : Array Value) (hw : ∀ d ∈ tables_1, d.before a0 Z = true) (ws : List Jvm.Cond) (a1 : Addr) (a2 : Addr) (a3 : Addr) (h0 : Heap) (n0 : Nat) (Z0 : n0 ≤ h0.size) (F_callId_a1 : Fld Z h0 a1 "com/example/whenfree/whenfree/Dialog" "callId" "Ljava/lang/String;" .null) (E_a1 : Exa Z h0 a1 "com/example/whenfree/whenfree/Dialog") (g_a1 : n0 ≤ a1) (F_uacTag_a1 : Fld Z h0 a1 "com/example/whenfree/whenfree/Dialog" "uacTag" "Ljava/lang/String;" .null) (F_uasTag_a1 : Fld Z h0 a1 "com/example/whenfree/whenfree/Dialog" "uasTag" "Ljava/lang/String;" .null) :
    OwnMet l Z y_7 prog_10_method_1_code 4 none ws Rm16 #[(.ref a1), (.ref a2), .null, (.ref a3)] h0 (Q16 Z a1 a2 a3 h0 n0) := by
  refine own_body (plainFor_of_name pn_4) (ef16 a1 a2 a3) ?_
  intro p e s m below meth c s₁ hx hby hml hown hnm hret hZ X0 e0
  have N0 := Fr.nil n0
  obtain ⟨_, T4, L4, X4, hQ4, st4⟩ := own_special X0 hx hZ hown (y := y_6) (a := a1) (w_40 hw) (w_41 hw) (w_43 hw) (w_44 hw) (rm7 l Z a0 hw [] a1 h0 n0 Z0) e0 (Ls := #[.val (.ref a1), .val (.ref a2), .val .null, .val (.ref a3)]) (by rw [hml]; rfl) (argsL := []) (rest := []) (lenOf pd_6 rfl) (hb hby d8_1) (W := 0)
  obtain ⟨rfl, Nq4, e4⟩ := hQ4
  have N4 := Fr.app N0 Nq4
  obtain ⟨T5, h5, X5, e5, W5, st5⟩ := putF X4 hx hZ hown (host := "") (Or.inl (w_46 hw)) Via.refl e4 F_callId_a1 E_a1 (Or.inr ⟨(w_47 hw), rfl, hnm⟩) (w_35 hw) (ty := (.object "java/lang/String")) (by decide) rfl rfl (g := (mkF m 6 #[.val (.ref a1), .val (.ref a2), .val .null, .val (.ref a3)] [(.ref a2), (.ref a1)])) rfl rfl (hb hby d8_6)
  have s0 := (Keep.of_wr W5).1
  have N5 := Fr.snoc X5 N4 g_a1
  have Fw5 : Fld Z h5 a1 "com/example/whenfree/whenfree/Dialog" "callId" "Ljava/lang/String;" (.ref a2) := F_callId_a1.same W5
  have Ex6 := (E_a1.wr W5)
  have Fl7 := (F_uacTag_a1.other W5 (Or.inr (slot_ne (Or.inr (w_49 hw)) (Or.inr (w_47 hw)) (by decide) (t := (.object "java/lang/String")) (t' := (.object "java/lang/String")) (by decide) (by decide))))
  obtain ⟨T8, h8, X8, e8, W8, st8⟩ := putF X5 hx hZ hown (host := "") (Or.inl (w_48 hw)) Via.refl e5 Fl7 Ex6 (Or.inr ⟨(w_49 hw), rfl, hnm⟩) (w_35 hw) (ty := (.object "java/lang/String")) (by decide) rfl rfl (g := (mkF m 11 #[.val (.ref a1), .val (.ref a2), .val .null, .val (.ref a3)] [.null, (.ref a1)])) rfl rfl (hb hby d8_11)
  have s1 := (Keep.of_wr W8).1
  have N8 := Fr.snoc X8 N5 g_a1
  have Fw8 : Fld Z h8 a1 "com/example/whenfree/whenfree/Dialog" "uacTag" "Ljava/lang/String;" .null := Fl7.same W8
  have Ex9 := (Ex6.wr W8)
  have Fl10 := ((F_uasTag_a1.other W5 (Or.inr (slot_ne (Or.inr (w_51 hw)) (Or.inr (w_47 hw)) (by decide) (t := (.object "java/lang/String")) (t' := (.object "java/lang/String")) (by decide) (by decide)))).other W8 (Or.inr (slot_ne (Or.inr (w_51 hw)) (Or.inr (w_49 hw)) (by decide) (t := (.object "java/lang/String")) (t' := (.object "java/lang/String")) (by decide) (by decide))))
  obtain ⟨T11, h11, X11, e11, W11, st11⟩ := putF X8 hx hZ hown (host := "") (Or.inl (w_50 hw)) Via.refl e8 Fl10 Ex9 (Or.inr ⟨(w_51 hw), rfl, hnm⟩) (w_35 hw) (ty := (.object "java/lang/String")) (by decide) rfl rfl (g := (mkF m 16 #[.val (.ref a1), .val (.ref a2), .val .null, .val (.ref a3)] [(.ref a3), (.ref a1)])) rfl rfl (hb hby d8_16)
  have s2 := (Keep.of_wr W11).1
  have N11 := Fr.snoc X11 N8 g_a1
  have Fw11 : Fld Z h11 a1 "com/example/whenfree/whenfree/Dialog" "uasTag" "Ljava/lang/String;" (.ref a3) := Fl10.same W11
  have Ex12 := (Ex9.wr W11)
  have Fl13 := ((Fw5.other W8 (Or.inr (slot_ne (Or.inr (w_47 hw)) (Or.inr (w_49 hw)) (by decide) (t := (.object "java/lang/String")) (t' := (.object "java/lang/String")) (by decide) (by decide)))).other W11 (Or.inr (slot_ne (Or.inr (w_47 hw)) (Or.inr (w_51 hw)) (by decide) (t := (.object "java/lang/String")) (t' := (.object "java/lang/String")) (by decide) (by decide))))
  have Fl14 := (Fw8.other W11 (Or.inr (slot_ne (Or.inr (w_49 hw)) (Or.inr (w_51 hw)) (by decide) (t := (.object "java/lang/String")) (t' := (.object "java/lang/String")) (by decide) (by decide))))
  have Kp0 : Keep h0 h5 [a1] := (Keep.refl h0 [a1]).wr W5 (Or.inl (List.mem_of_getElem? (i := 0) rfl))
  have Kp1 : Keep h0 h8 [a1] := Kp0.wr W8 (Or.inl (List.mem_of_getElem? (i := 0) rfl))
  have Kp2 : Keep h0 h11 [a1] := Kp1.wr W11 (Or.inl (List.mem_of_getElem? (i := 0) rfl))
  refine ⟨T11, _, _, _, none, X11, (fun _ => rfl), by decide, by decide, ?_, fun fs hr => ?_⟩
  · show Q16 Z a1 a2 a3 h0 n0 _ T11.heap _
    rw [e11]
    exact ⟨rfl, N11, Kp2, Ex12, Fl13, Fl14, Fw11⟩
  · show Steps p.tables e below (s₁.setTop (mkF m 0 #[.val (.ref a1), .val (.ref a2), .val .null, .val (.ref a3)] [])) _
    refine XS.aloadN X0.here hx rfl (hb hby d8_0) rfl rfl ?_
    refine st4 _ ?_
    refine XS.aloadN X4.here hx rfl (hb hby d8_4) rfl rfl ?_
    refine XS.aloadN X4.here hx rfl (hb hby d8_5) rfl rfl ?_
    refine st5 _ ?_
    refine XS.aloadN X5.here hx rfl (hb hby d8_9) rfl rfl ?_
    refine XS.aloadN X5.here hx rfl (hb hby d8_10) rfl rfl ?_
    refine st8 _ ?_
    refine XS.aloadN X8.here hx rfl (hb hby d8_14) rfl rfl ?_
    refine XS.aloadN X8.here hx rfl (hb hby d8_15) rfl rfl ?_
    refine st11 _ ?_
    exact X11.returnOut hx hret (hb hby d8_19) hr
-- com/example/whenfree/whenfree/Dialog.reversed()Lcom/example/whenfree/whenfree/Dialog;
abbrev Rm17 : Room := { frames := 3, cells := 1, slots := 3, locals := 40 }
def Q17 (Z : State) (a1 : Addr) (a3 : Addr) (a8 : Addr) (h0 : Heap) (n0 : Nat) (v : Option Value) (h : Heap) (L : List Loc) : Prop := ∃ b2 : Addr, v = some (.ref b2) ∧ Fr n0 L ∧ Keep h0 h [] ∧ h0.size ≤ b2 ∧ Exa Z h b2 "com/example/whenfree/whenfree/Dialog" ∧ Fld Z h b2 "com/example/whenfree/whenfree/Dialog" "callId" "Ljava/lang/String;" (.ref a3) ∧ Fld Z h b2 "com/example/whenfree/whenfree/Dialog" "uacTag" "Ljava/lang/String;" .null ∧ Fld Z h b2 "com/example/whenfree/whenfree/Dialog" "uasTag" "Ljava/lang/String;" (.ref a8)
theorem ef17 (a1 : Addr) (m : MethodId) : entryFrame m #[(.ref a1)] 1 = mkF m 0 #[.val (.ref a1)] [] := by first | (simp [entryFrame, mkF, argsToLocals, Value.category]; done) | rfl
theorem rm17 (l : Launch) (Z : State) (a0 : Array Value) (hw : ∀ d ∈ tables_1, d.before a0 Z = true) (ws : List Jvm.Cond) (a1 : Addr) (a3 : Addr) (a8 : Addr) (h0 : Heap) (n0 : Nat) (Z0 : n0 ≤ h0.size) (F_callId_a1 : Fld Z h0 a1 "com/example/whenfree/whenfree/Dialog" "callId" "Ljava/lang/String;" (.ref a3)) (F_uasTag_a1 : Fld Z h0 a1 "com/example/whenfree/whenfree/Dialog" "uasTag" "Ljava/lang/String;" .null) (F_uacTag_a1 : Fld Z h0 a1 "com/example/whenfree/whenfree/Dialog" "uacTag" "Ljava/lang/String;" (.ref a8)) :
    OwnMet l Z y_8 prog_10_method_3_code 1 (some (.object "com/example/whenfree/whenfree/Dialog")) ws Rm17 #[(.ref a1)] h0 (Q17 Z a1 a3 a8 h0 n0) := by
  refine own_body (plainFor_of_name pn_4) (ef17 a1) ?_
  intro p e s m below meth c s₁ hx hby hml hown hnm hret hZ X0 e0
  have N0 := Fr.nil n0
  obtain ⟨T2, h2, X2, e2, E2, A2, D2, -, st2⟩ := newO X0 hx hZ hown (w_57 hw) (w_35 hw) (w_36 hw) e0 (g := (mkF m 0 #[.val (.ref a1)] [])) rfl (hb hby d10_0) (by decide) (by decide)
  obtain ⟨b2, g2⟩ : ∃ z, z = h0.size := ⟨_, rfl⟩
  rw [← g2] at A2 D2 st2
  have s0 := E2.1
  have Fn2_callId : Fld Z h2 b2 "com/example/whenfree/whenfree/Dialog" "callId" "Ljava/lang/String;" .null := D2 (Or.inr (w_47 hw)) (ty := (.object "java/lang/String")) (by decide)
  have Fn2_uacTag : Fld Z h2 b2 "com/example/whenfree/whenfree/Dialog" "uacTag" "Ljava/lang/String;" .null := D2 (Or.inr (w_49 hw)) (ty := (.object "java/lang/String")) (by decide)
  have Fn2_uasTag : Fld Z h2 b2 "com/example/whenfree/whenfree/Dialog" "uasTag" "Ljava/lang/String;" .null := D2 (Or.inr (w_51 hw)) (ty := (.object "java/lang/String")) (by decide)
  have Fl4 := (F_callId_a1.ext E2)
  obtain ⟨T5, X5, e5, st5⟩ := getF X2 hx hZ hown (host := "") (Or.inl (w_46 hw)) Via.refl e2 Fl4 (g := (mkF m 5 #[.val (.ref a1)] [(.ref a1), (.ref b2), (.ref b2)])) rfl rfl (hb hby d10_5)
  have Fl6 := (F_uasTag_a1.ext E2)
  obtain ⟨T7, X7, e7, st7⟩ := getF X5 hx hZ hown (host := "") (Or.inl (w_50 hw)) Via.refl e5 Fl6 (g := (mkF m 9 #[.val (.ref a1)] [(.ref a1), (.ref a3), (.ref b2), (.ref b2)])) rfl rfl (hb hby d10_9)
  have Fl9 := (F_uacTag_a1.ext E2)
  obtain ⟨T10, X10, e10, st10⟩ := getF X7 hx hZ hown (host := "") (Or.inl (w_48 hw)) Via.refl e7 Fl9 (g := (mkF m 13 #[.val (.ref a1)] [(.ref a1), .null, (.ref a3), (.ref b2), (.ref b2)])) rfl rfl (hb hby d10_13)
  have g_b2 : n0 ≤ b2 := Nat.le_trans Z0 (Nat.le_of_eq g2.symm)
  have z1 := Nat.le_trans Z0 s0
  obtain ⟨_, T11, L11, X11, hQ11, st11⟩ := own_special X10 hx hZ hown (y := y_7) (a := b2) (w_58 hw) (w_38 hw) (w_36 hw) (w_39 hw) (rm16 l Z a0 hw [] b2 a3 a8 h2 n0 z1 Fn2_callId A2 g_b2 Fn2_uacTag Fn2_uasTag) e10 (Ls := #[.val (.ref a1)]) (by rw [hml]; rfl) (argsL := [(.ref a3), .null, (.ref a8)]) (rest := [(.ref b2)]) (lenOf pd_7 rfl) (hb hby d10_16) (W := 1)
  obtain ⟨rfl, Nq11, K11, o11_0, o11_1, o11_2, o11_3⟩ := hQ11
  have N11 := Fr.app N0 Nq11
  have s1 := K11.1
  have sz_b2 : h0.size ≤ b2 := (Nat.le_of_eq g2.symm)
  have Kp0 : Keep h0 h2 [] := (Keep.refl h0 []).ext E2
  have Kp1 : Keep h0 T11.heap [] := Kp0.trans K11 (allS (Or.inr sz_b2) all0)
  refine ⟨T11, _, _, _, (some (.ref b2)), X11, nofun, by decide, by decide, ?_, fun fs hr => ?_⟩
  · show Q17 Z a1 a3 a8 h0 n0 _ T11.heap _
    exact ⟨b2, rfl, N11, Kp1, sz_b2, o11_0, o11_1, o11_2, o11_3⟩
  · show Steps p.tables e below (s₁.setTop (mkF m 0 #[.val (.ref a1)] [])) _
    refine st2 _ ?_
    refine XS.dup X2.here hx rfl (hb hby d10_3) rfl rfl ?_
    refine XS.aloadN X2.here hx rfl (hb hby d10_4) rfl rfl ?_
    refine st5 _ ?_
    refine XS.aloadN X5.here hx rfl (hb hby d10_8) rfl rfl ?_
    refine st7 _ ?_
    refine XS.aloadN X7.here hx rfl (hb hby d10_12) rfl rfl ?_
    refine st10 _ ?_
    refine st11 _ ?_
    exact retOut X11 hx hret rfl (Or.inr (Or.inr (Or.inr (Or.inr ⟨rfl, rfl, rfl⟩)))) (hb hby d10_19) hr
-- com/example/whenfree/whenfree/Dialog.uacTag()Ljava/lang/String;
abbrev Rm18 : Room := { frames := 0, cells := 0, slots := 0, locals := 0 }
def Q18 (Z : State) (a1 : Addr) (h0 : Heap) (n0 : Nat) (v : Option Value) (h : Heap) (L : List Loc) : Prop := v = some .null ∧ Fr n0 L ∧ h = h0
theorem ef18 (a1 : Addr) (m : MethodId) : entryFrame m #[(.ref a1)] 1 = mkF m 0 #[.val (.ref a1)] [] := by first | (simp [entryFrame, mkF, argsToLocals, Value.category]; done) | rfl
theorem rm18 (l : Launch) (Z : State) (a0 : Array Value) (hw : ∀ d ∈ tables_1, d.before a0 Z = true) (ws : List Jvm.Cond) (a1 : Addr) (h0 : Heap) (n0 : Nat) (Z0 : n0 ≤ h0.size) (F_uacTag_a1 : Fld Z h0 a1 "com/example/whenfree/whenfree/Dialog" "uacTag" "Ljava/lang/String;" .null) :
    OwnMet l Z y_12 prog_10_method_8_code 1 (some (.object "java/lang/String")) ws Rm18 #[(.ref a1)] h0 (Q18 Z a1 h0 n0) := by
  refine own_body (plainFor_of_name pn_4) (ef18 a1) ?_
  intro p e s m below meth c s₁ hx hby hml hown hnm hret hZ X0 e0
  have N0 := Fr.nil n0
  obtain ⟨T2, X2, e2, st2⟩ := getF X0 hx hZ hown (host := "") (Or.inl (w_48 hw)) Via.refl e0 F_uacTag_a1 (g := (mkF m 1 #[.val (.ref a1)] [(.ref a1)])) rfl rfl (hb hby d14_1)
  refine ⟨T2, _, _, _, (some .null), X2, nofun, by decide, by decide, ?_, fun fs hr => ?_⟩
  · show Q18 Z a1 h0 n0 _ T2.heap _
    rw [e2]
    exact ⟨rfl, N0, rfl⟩
  · show Steps p.tables e below (s₁.setTop (mkF m 0 #[.val (.ref a1)] [])) _
    refine XS.aloadN X0.here hx rfl (hb hby d14_0) rfl rfl ?_
    refine st2 _ ?_
    exact retOut X2 hx hret rfl (Or.inr (Or.inr (Or.inr (Or.inr ⟨rfl, rfl, rfl⟩)))) (hb hby d14_4) hr
theorem d12_4 : decode method_4_code 4 = .ok (.aload_n 1, 1) := by decide +kernel
theorem d12_5 : decode method_4_code 5 = .ok (.ifnonnull 7, 3) := by decide +kernel
theorem d12_8 : decode method_4_code 8 = .ok (.iconst 1, 1) := by decide +kernel
theorem d12_9 : decode method_4_code 9 = .ok (.goto 4, 3) := by decide +kernel
theorem d12_13 : decode method_4_code 13 = .ok (.ireturn, 1) := by decide +kernel
-- com/example/whenfree/whenfree/DialogReversedPinLaw.same(Ljava/lang/String;Ljava/lang/String;)Z
abbrev Rm19 : Room := { frames := 0, cells := 0, slots := 0, locals := 0 }
def Q19 (Z : State)  (h0 : Heap) (n0 : Nat) (v : Option Value) (h : Heap) (L : List Loc) : Prop := v = some (.int (1 : Int32)) ∧ Fr n0 L ∧ h = h0
theorem ef19  (m : MethodId) : entryFrame m #[.null, .null] 2 = mkF m 0 #[.val .null, .val .null] [] := by first | (simp [entryFrame, mkF, argsToLocals, Value.category]; done) | rfl
theorem rm19 (l : Launch) (Z : State) (a0 : Array Value) (hw : ∀ d ∈ tables_1, d.before a0 Z = true) (ws : List Jvm.Cond)  (h0 : Heap) (n0 : Nat) (Z0 : n0 ≤ h0.size) :
    OwnMet l Z y_11 method_4_code 2 (some .boolean) ws Rm19 #[.null, .null] h0 (Q19 Z  h0 n0) := by
  refine own_body (plainFor_of_name pn_2) (ef19) ?_
  intro p e s m below meth c s₁ hx hby hml hown hnm hret hZ X0 e0
  have N0 := Fr.nil n0
  refine ⟨s₁, _, _, _, (some (.int (1 : Int32))), X0, nofun, by decide, by decide, ?_, fun fs hr => ?_⟩
  · show Q19 Z  h0 n0 _ s₁.heap _
    rw [e0]
    exact ⟨rfl, N0, rfl⟩
  · show Steps p.tables e below (s₁.setTop (mkF m 0 #[.val .null, .val .null] [])) _
    refine XS.aloadN X0.here hx rfl (hb hby d12_0) rfl rfl ?_
    refine XS.ifnonnullNo X0.here hx rfl (hb hby d12_1) rfl ?_
    refine XS.aloadN X0.here hx rfl (hb hby d12_4) rfl rfl ?_
    refine XS.ifnonnullNo X0.here hx rfl (hb hby d12_5) rfl ?_
    refine XS.iconst X0.here hx rfl (hb hby d12_8) ?_
    refine XS.goto X0.here hx rfl (pc0 := 9) (pc' := 13) rfl (hb hby d12_9) (by decide) (by decide) ?_
    exact retN X0 hx (t := .boolean) hret (by simp) (hb hby d12_13) hr
-- com/example/whenfree/whenfree/Dialog.reversed()Lcom/example/whenfree/whenfree/Dialog;
abbrev Rm20 : Room := { frames := 3, cells := 1, slots := 3, locals := 40 }
def Q20 (Z : State) (a1 : Addr) (a3 : Addr) (a6 : Addr) (h0 : Heap) (n0 : Nat) (v : Option Value) (h : Heap) (L : List Loc) : Prop := ∃ b2 : Addr, v = some (.ref b2) ∧ Fr n0 L ∧ Keep h0 h [] ∧ h0.size ≤ b2 ∧ Exa Z h b2 "com/example/whenfree/whenfree/Dialog" ∧ Fld Z h b2 "com/example/whenfree/whenfree/Dialog" "callId" "Ljava/lang/String;" (.ref a3) ∧ Fld Z h b2 "com/example/whenfree/whenfree/Dialog" "uacTag" "Ljava/lang/String;" (.ref a6) ∧ Fld Z h b2 "com/example/whenfree/whenfree/Dialog" "uasTag" "Ljava/lang/String;" .null
theorem ef20 (a1 : Addr) (m : MethodId) : entryFrame m #[(.ref a1)] 1 = mkF m 0 #[.val (.ref a1)] [] := by first | (simp [entryFrame, mkF, argsToLocals, Value.category]; done) | rfl
theorem rm20 (l : Launch) (Z : State) (a0 : Array Value) (hw : ∀ d ∈ tables_1, d.before a0 Z = true) (ws : List Jvm.Cond) (a1 : Addr) (a3 : Addr) (a6 : Addr) (h0 : Heap) (n0 : Nat) (Z0 : n0 ≤ h0.size) (F_callId_a1 : Fld Z h0 a1 "com/example/whenfree/whenfree/Dialog" "callId" "Ljava/lang/String;" (.ref a3)) (F_uasTag_a1 : Fld Z h0 a1 "com/example/whenfree/whenfree/Dialog" "uasTag" "Ljava/lang/String;" (.ref a6)) (F_uacTag_a1 : Fld Z h0 a1 "com/example/whenfree/whenfree/Dialog" "uacTag" "Ljava/lang/String;" .null) :
    OwnMet l Z y_8 prog_10_method_3_code 1 (some (.object "com/example/whenfree/whenfree/Dialog")) ws Rm20 #[(.ref a1)] h0 (Q20 Z a1 a3 a6 h0 n0) := by
  refine own_body (plainFor_of_name pn_4) (ef20 a1) ?_
  intro p e s m below meth c s₁ hx hby hml hown hnm hret hZ X0 e0
  have N0 := Fr.nil n0
  obtain ⟨T2, h2, X2, e2, E2, A2, D2, -, st2⟩ := newO X0 hx hZ hown (w_57 hw) (w_35 hw) (w_36 hw) e0 (g := (mkF m 0 #[.val (.ref a1)] [])) rfl (hb hby d10_0) (by decide) (by decide)
  obtain ⟨b2, g2⟩ : ∃ z, z = h0.size := ⟨_, rfl⟩
  rw [← g2] at A2 D2 st2
  have s0 := E2.1
  have Fn2_callId : Fld Z h2 b2 "com/example/whenfree/whenfree/Dialog" "callId" "Ljava/lang/String;" .null := D2 (Or.inr (w_47 hw)) (ty := (.object "java/lang/String")) (by decide)
  have Fn2_uacTag : Fld Z h2 b2 "com/example/whenfree/whenfree/Dialog" "uacTag" "Ljava/lang/String;" .null := D2 (Or.inr (w_49 hw)) (ty := (.object "java/lang/String")) (by decide)
  have Fn2_uasTag : Fld Z h2 b2 "com/example/whenfree/whenfree/Dialog" "uasTag" "Ljava/lang/String;" .null := D2 (Or.inr (w_51 hw)) (ty := (.object "java/lang/String")) (by decide)
  have Fl4 := (F_callId_a1.ext E2)
  obtain ⟨T5, X5, e5, st5⟩ := getF X2 hx hZ hown (host := "") (Or.inl (w_46 hw)) Via.refl e2 Fl4 (g := (mkF m 5 #[.val (.ref a1)] [(.ref a1), (.ref b2), (.ref b2)])) rfl rfl (hb hby d10_5)
  have Fl7 := (F_uasTag_a1.ext E2)
  obtain ⟨T8, X8, e8, st8⟩ := getF X5 hx hZ hown (host := "") (Or.inl (w_50 hw)) Via.refl e5 Fl7 (g := (mkF m 9 #[.val (.ref a1)] [(.ref a1), (.ref a3), (.ref b2), (.ref b2)])) rfl rfl (hb hby d10_9)
  have Fl9 := (F_uacTag_a1.ext E2)
  obtain ⟨T10, X10, e10, st10⟩ := getF X8 hx hZ hown (host := "") (Or.inl (w_48 hw)) Via.refl e8 Fl9 (g := (mkF m 13 #[.val (.ref a1)] [(.ref a1), (.ref a6), (.ref a3), (.ref b2), (.ref b2)])) rfl rfl (hb hby d10_13)
  have g_b2 : n0 ≤ b2 := Nat.le_trans Z0 (Nat.le_of_eq g2.symm)
  have z1 := Nat.le_trans Z0 s0
  obtain ⟨_, T11, L11, X11, hQ11, st11⟩ := own_special X10 hx hZ hown (y := y_7) (a := b2) (w_58 hw) (w_38 hw) (w_36 hw) (w_39 hw) (rm15 l Z a0 hw [] b2 a3 a6 h2 n0 z1 Fn2_callId A2 g_b2 Fn2_uacTag Fn2_uasTag) e10 (Ls := #[.val (.ref a1)]) (by rw [hml]; rfl) (argsL := [(.ref a3), (.ref a6), .null]) (rest := [(.ref b2)]) (lenOf pd_7 rfl) (hb hby d10_16) (W := 1)
  obtain ⟨rfl, Nq11, K11, o11_0, o11_1, o11_2, o11_3⟩ := hQ11
  have N11 := Fr.app N0 Nq11
  have s1 := K11.1
  have sz_b2 : h0.size ≤ b2 := (Nat.le_of_eq g2.symm)
  have Kp0 : Keep h0 h2 [] := (Keep.refl h0 []).ext E2
  have Kp1 : Keep h0 T11.heap [] := Kp0.trans K11 (allS (Or.inr sz_b2) all0)
  refine ⟨T11, _, _, _, (some (.ref b2)), X11, nofun, by decide, by decide, ?_, fun fs hr => ?_⟩
  · show Q20 Z a1 a3 a6 h0 n0 _ T11.heap _
    exact ⟨b2, rfl, N11, Kp1, sz_b2, o11_0, o11_1, o11_2, o11_3⟩
  · show Steps p.tables e below (s₁.setTop (mkF m 0 #[.val (.ref a1)] [])) _
    refine st2 _ ?_
    refine XS.dup X2.here hx rfl (hb hby d10_3) rfl rfl ?_
    refine XS.aloadN X2.here hx rfl (hb hby d10_4) rfl rfl ?_
    refine st5 _ ?_
    refine XS.aloadN X5.here hx rfl (hb hby d10_8) rfl rfl ?_
    refine st8 _ ?_
    refine XS.aloadN X8.here hx rfl (hb hby d10_12) rfl rfl ?_
    refine st10 _ ?_
    refine st11 _ ?_
    exact retOut X11 hx hret rfl (Or.inr (Or.inr (Or.inr (Or.inr ⟨rfl, rfl, rfl⟩)))) (hb hby d10_19) hr
-- com/example/whenfree/whenfree/Dialog.uasTag()Ljava/lang/String;
abbrev Rm21 : Room := { frames := 0, cells := 0, slots := 0, locals := 0 }
def Q21 (Z : State) (a1 : Addr) (h0 : Heap) (n0 : Nat) (v : Option Value) (h : Heap) (L : List Loc) : Prop := v = some .null ∧ Fr n0 L ∧ h = h0
theorem ef21 (a1 : Addr) (m : MethodId) : entryFrame m #[(.ref a1)] 1 = mkF m 0 #[.val (.ref a1)] [] := by first | (simp [entryFrame, mkF, argsToLocals, Value.category]; done) | rfl
theorem rm21 (l : Launch) (Z : State) (a0 : Array Value) (hw : ∀ d ∈ tables_1, d.before a0 Z = true) (ws : List Jvm.Cond) (a1 : Addr) (h0 : Heap) (n0 : Nat) (Z0 : n0 ≤ h0.size) (F_uasTag_a1 : Fld Z h0 a1 "com/example/whenfree/whenfree/Dialog" "uasTag" "Ljava/lang/String;" .null) :
    OwnMet l Z y_13 prog_10_method_9_code 1 (some (.object "java/lang/String")) ws Rm21 #[(.ref a1)] h0 (Q21 Z a1 h0 n0) := by
  refine own_body (plainFor_of_name pn_4) (ef21 a1) ?_
  intro p e s m below meth c s₁ hx hby hml hown hnm hret hZ X0 e0
  have N0 := Fr.nil n0
  obtain ⟨T2, X2, e2, st2⟩ := getF X0 hx hZ hown (host := "") (Or.inl (w_50 hw)) Via.refl e0 F_uasTag_a1 (g := (mkF m 1 #[.val (.ref a1)] [(.ref a1)])) rfl rfl (hb hby d15_1)
  refine ⟨T2, _, _, _, (some .null), X2, nofun, by decide, by decide, ?_, fun fs hr => ?_⟩
  · show Q21 Z a1 h0 n0 _ T2.heap _
    rw [e2]
    exact ⟨rfl, N0, rfl⟩
  · show Steps p.tables e below (s₁.setTop (mkF m 0 #[.val (.ref a1)] [])) _
    refine XS.aloadN X0.here hx rfl (hb hby d15_0) rfl rfl ?_
    refine st2 _ ?_
    exact retOut X2 hx hret rfl (Or.inr (Or.inr (Or.inr (Or.inr ⟨rfl, rfl, rfl⟩)))) (hb hby d15_4) hr
theorem rm0_1 (l : Launch) (Z : State) (a0 : Array Value) (hw : ∀ d ∈ tables_1, d.before a0 Z = true) (ws : List Jvm.Cond) (p1 : Int32) (p2 : Int32) (p3 : Int32) (p4 : Int32) (cs : Int32) (h0 : Heap) (n0 : Nat) (Z0 : n0 ≤ h0.size) (S_cs : Sta Z Z.heap "java/lang/String" "COMPACT_STRINGS" "Z" (.int cs)) (c_cs : ¬ (cs = (0 : Int32))) (Od0 : Old Z n0 h0) (cc1 : (p4 &&& (4 : Int32)) = (0 : Int32)) (cc2 : (p4 &&& (1 : Int32)) = (0 : Int32)) (cc3 : ¬ ((p4 &&& (2 : Int32)) = (0 : Int32))) :
    OwnMet l Z x code maxLocals ret ws room_1 #[(.int p1), (.int p2), (.int p3), (.int p4)] h0 (Q0 n0) := by
  refine own_body (plainFor_of_name pn_2) (ef0 p1 p2 p3 p4) ?_
  intro p e s m below meth c s₁ hx hby hml hown hnm hret hZ X0 e0
  have N0 := Fr.nil n0
  obtain ⟨_, T1, L1, X1, hQ1, st1⟩ := own_callS X0 hx hZ hown (y := y_5) (w_0 hw) (w_1 hw) (w_2 hw) (w_3 hw) (rm6 l Z a0 hw [] p1 cs h0 n0 Z0 S_cs Od0 c_cs) e0 (Ls := #[.val (.int p1), .val (.int p2), .val (.int p3), .val (.int p4), .unset, .unset, .unset, .unset, .unset, .unset, .unset, .unset]) (by rw [hml]; rfl) (argsL := [(.int p1)]) (rest := []) (lenOf pd_5 rfl) (hb hby at_11) (W := 0)
  obtain ⟨b1_b9, b1_b15_b11_b12_b2, k1_k15_k11_k12_k2, rfl, Nq1, K1, o1_0, o1_1, o1_2, o1_3, o1_4, o1_5, o1_6, o1_7⟩ := hQ1
  have N1 := Fr.app N0 Nq1
  have s0 := K1.1
  have Od1 : Old Z n0 T1.heap := Od0.keep K1 all0
  have z1 := Nat.le_trans Z0 s0
  obtain ⟨_, T2, L2, X2, hQ2, st2⟩ := own_callS X1 hx hZ hown (y := y_5) (w_0 hw) (w_1 hw) (w_2 hw) (w_3 hw) (rm6 l Z a0 hw [] p2 cs T1.heap n0 z1 S_cs Od1 c_cs) rfl (Ls := #[.val (.int p1), .val (.int p2), .val (.int p3), .val (.int p4), .val (.ref b1_b9), .unset, .unset, .unset, .unset, .unset, .unset, .unset]) (by rw [hml]; rfl) (argsL := [(.int p2)]) (rest := []) (lenOf pd_5 rfl) (hb hby at_27) (W := 0)
  obtain ⟨b2_b9, b2_b15_b11_b12_b2, k2_k15_k11_k12_k2, rfl, Nq2, K2, o2_0, o2_1, o2_2, o2_3, o2_4, o2_5, o2_6, o2_7⟩ := hQ2
  have N2 := Fr.app N1 Nq2
  have s1 := K2.1
  obtain ⟨T3, h3, X3, e3, E3, A3, D3, -, st3⟩ := newO X2 hx hZ hown (w_34 hw) (w_35 hw) (w_36 hw) rfl (g := (mkF m 48 #[.val (.int p1), .val (.int p2), .val (.int p3), .val (.int p4), .val (.ref b1_b9), .val (.ref b2_b9), .val .null, .unset, .unset, .unset, .unset, .unset] [])) rfl (hb hby at_48) (by decide) (by decide)
  obtain ⟨b3, g3⟩ : ∃ z, z = T2.heap.size := ⟨_, rfl⟩
  rw [← g3] at A3 D3 st3
  have s2 := E3.1
  have Fn3_callId : Fld Z h3 b3 "com/example/whenfree/whenfree/Dialog" "callId" "Ljava/lang/String;" .null := D3 (Or.inr (w_47 hw)) (ty := (.object "java/lang/String")) (by decide)
  have Fn3_uacTag : Fld Z h3 b3 "com/example/whenfree/whenfree/Dialog" "uacTag" "Ljava/lang/String;" .null := D3 (Or.inr (w_49 hw)) (ty := (.object "java/lang/String")) (by decide)
  have Fn3_uasTag : Fld Z h3 b3 "com/example/whenfree/whenfree/Dialog" "uasTag" "Ljava/lang/String;" .null := D3 (Or.inr (w_51 hw)) (ty := (.object "java/lang/String")) (by decide)
  have z2 := Nat.le_trans Z0 (Nat.le_trans s0 s1)
  have g_b3 : n0 ≤ b3 := Nat.le_trans z2 (Nat.le_of_eq g3.symm)
  have z3 := Nat.le_trans Z0 (Nat.le_trans (Nat.le_trans s0 s1) s2)
  obtain ⟨_, T4, L4, X4, hQ4, st4⟩ := own_special X3 hx hZ hown (y := y_7) (a := b3) (w_37 hw) (w_38 hw) (w_36 hw) (w_39 hw) (rm15 l Z a0 hw [] b3 b1_b9 b2_b9 h3 n0 z3 Fn3_callId A3 g_b3 Fn3_uacTag Fn3_uasTag) e3 (Ls := #[.val (.int p1), .val (.int p2), .val (.int p3), .val (.int p4), .val (.ref b1_b9), .val (.ref b2_b9), .val .null, .unset, .unset, .unset, .unset, .unset]) (by rw [hml]; rfl) (argsL := [(.ref b1_b9), (.ref b2_b9), .null]) (rest := [(.ref b3)]) (lenOf pd_7 rfl) (hb hby at_58) (W := 1)
  obtain ⟨rfl, Nq4, K4, o4_0, o4_1, o4_2, o4_3⟩ := hQ4
  have N4 := Fr.app N2 Nq4
  have s3 := K4.1
  have z4 := Nat.le_trans Z0 (Nat.le_trans (Nat.le_trans (Nat.le_trans s0 s1) s2) s3)
  obtain ⟨_, T5, L5, X5, hQ5, st5⟩ := own_virtual X4 hx hZ hown (y := y_8) (z := y_8) o4_0 (w_52 hw) (w_53 hw) (notFace_of_selects (args := #[]) (mvT hZ (w_55 hw))) (w_55 hw) (w_54 hw) (w_36 hw) (w_56 hw) (rm17 l Z a0 hw [] b3 b1_b9 b2_b9 T4.heap n0 z4 o4_1 o4_3 o4_2) rfl (Ls := #[.val (.int p1), .val (.int p2), .val (.int p3), .val (.int p4), .val (.ref b1_b9), .val (.ref b2_b9), .val .null, .val (.ref b3), .unset, .unset, .unset, .unset]) (by rw [hml]; rfl) (argsL := []) (rest := []) (lenOf pd_8 rfl) (hb hby at_65) (W := 0)
  obtain ⟨b5_b2, rfl, Nq5, K5, o5_0, o5_1, o5_2, o5_3, o5_4⟩ := hQ5
  have N5 := Fr.app N4 Nq5
  have s4 := K5.1
  have z5 := Nat.le_trans Z0 (Nat.le_trans (Nat.le_trans (Nat.le_trans (Nat.le_trans s0 s1) s2) s3) s4)
  obtain ⟨_, T6, L6, X6, hQ6, st6⟩ := own_virtual X5 hx hZ hown (y := y_9) (z := y_9) o5_1 (w_59 hw) (w_60 hw) (notFace_of_selects (args := #[]) (mvT hZ (w_62 hw))) (w_62 hw) (w_61 hw) (w_36 hw) (w_63 hw) (rm10 l Z a0 hw [] b5_b2 b1_b9 T5.heap n0 z5 o5_2) rfl (Ls := #[.val (.int p1), .val (.int p2), .val (.int p3), .val (.int p4), .val (.ref b1_b9), .val (.ref b2_b9), .val .null, .val (.ref b3), .val (.ref b5_b2), .unset, .unset, .unset]) (by rw [hml]; rfl) (argsL := []) (rest := []) (lenOf pd_9 rfl) (hb hby at_72) (W := 0)
  obtain ⟨rfl, Nq6, e6⟩ := hQ6
  have N6 := Fr.app N5 Nq6
  have Ex7 := ((((o1_1.keep K2).ext E3).keep K4).keep K5)
  obtain ⟨_, T8, L8, X8, hQ8, st8⟩ := own_callS X6 hx hZ hown (y := y_11) (w_64 hw) (w_65 hw) (w_2 hw) (w_66 hw) (rm12 l Z a0 hw [] b1_b9 T5.heap n0 z5 Ex7) e6 (Ls := #[.val (.int p1), .val (.int p2), .val (.int p3), .val (.int p4), .val (.ref b1_b9), .val (.ref b2_b9), .val .null, .val (.ref b3), .val (.ref b5_b2), .unset, .unset, .unset]) (by rw [hml]; rfl) (argsL := [(.ref b1_b9), (.ref b1_b9)]) (rest := []) (lenOf pd_11 rfl) (hb hby at_77) (W := 0)
  obtain ⟨rfl, Nq8, e8⟩ := hQ8
  have N8 := Fr.app N6 Nq8
  obtain ⟨_, T9, L9, X9, hQ9, st9⟩ := own_virtual X8 hx hZ hown (y := y_12) (z := y_12) o5_1 (w_72 hw) (w_73 hw) (notFace_of_selects (args := #[]) (mvT hZ (w_75 hw))) (w_75 hw) (w_74 hw) (w_36 hw) (w_76 hw) (rm18 l Z a0 hw [] b5_b2 T5.heap n0 z5 o5_3) e8 (Ls := #[.val (.int p1), .val (.int p2), .val (.int p3), .val (.int p4), .val (.ref b1_b9), .val (.ref b2_b9), .val .null, .val (.ref b3), .val (.ref b5_b2), .unset, .unset, .unset]) (by rw [hml]; rfl) (argsL := []) (rest := []) (lenOf pd_9 rfl) (hb hby at_85) (W := 0)
  obtain ⟨rfl, Nq9, e9⟩ := hQ9
  have N9 := Fr.app N8 Nq9
  obtain ⟨_, T10, L10, X10, hQ10, st10⟩ := own_callS X9 hx hZ hown (y := y_11) (w_64 hw) (w_65 hw) (w_2 hw) (w_66 hw) (rm19 l Z a0 hw []  T5.heap n0 z5) e9 (Ls := #[.val (.int p1), .val (.int p2), .val (.int p3), .val (.int p4), .val (.ref b1_b9), .val (.ref b2_b9), .val .null, .val (.ref b3), .val (.ref b5_b2), .unset, .unset, .unset]) (by rw [hml]; rfl) (argsL := [.null, .null]) (rest := []) (lenOf pd_11 rfl) (hb hby at_90) (W := 0)
  obtain ⟨rfl, Nq10, e10⟩ := hQ10
  have N10 := Fr.app N9 Nq10
  obtain ⟨_, T11, L11, X11, hQ11, st11⟩ := own_virtual X10 hx hZ hown (y := y_13) (z := y_13) o5_1 (w_77 hw) (w_78 hw) (notFace_of_selects (args := #[]) (mvT hZ (w_80 hw))) (w_80 hw) (w_79 hw) (w_36 hw) (w_81 hw) (rm14 l Z a0 hw [] b5_b2 b2_b9 T5.heap n0 z5 o5_4) e10 (Ls := #[.val (.int p1), .val (.int p2), .val (.int p3), .val (.int p4), .val (.ref b1_b9), .val (.ref b2_b9), .val .null, .val (.ref b3), .val (.ref b5_b2), .unset, .unset, .unset]) (by rw [hml]; rfl) (argsL := []) (rest := []) (lenOf pd_9 rfl) (hb hby at_98) (W := 0)
  obtain ⟨rfl, Nq11, e11⟩ := hQ11
  have N11 := Fr.app N10 Nq11
  have Ex12 := (((o2_1.ext E3).keep K4).keep K5)
  obtain ⟨_, T13, L13, X13, hQ13, st13⟩ := own_callS X11 hx hZ hown (y := y_11) (w_64 hw) (w_65 hw) (w_2 hw) (w_66 hw) (rm12 l Z a0 hw [] b2_b9 T5.heap n0 z5 Ex12) e11 (Ls := #[.val (.int p1), .val (.int p2), .val (.int p3), .val (.int p4), .val (.ref b1_b9), .val (.ref b2_b9), .val .null, .val (.ref b3), .val (.ref b5_b2), .unset, .unset, .unset]) (by rw [hml]; rfl) (argsL := [(.ref b2_b9), (.ref b2_b9)]) (rest := []) (lenOf pd_11 rfl) (hb hby at_103) (W := 0)
  obtain ⟨rfl, Nq13, e13⟩ := hQ13
  have N13 := Fr.app N11 Nq13
  obtain ⟨_, T14, L14, X14, hQ14, st14⟩ := own_virtual X13 hx hZ hown (y := y_8) (z := y_8) o5_1 (w_52 hw) (w_53 hw) (notFace_of_selects (args := #[]) (mvT hZ (w_55 hw))) (w_55 hw) (w_54 hw) (w_36 hw) (w_56 hw) (rm20 l Z a0 hw [] b5_b2 b1_b9 b2_b9 T5.heap n0 z5 o5_2 o5_4 o5_3) e13 (Ls := #[.val (.int p1), .val (.int p2), .val (.int p3), .val (.int p4), .val (.ref b1_b9), .val (.ref b2_b9), .val .null, .val (.ref b3), .val (.ref b5_b2), .val (.int (1 : Int32)), .unset, .unset]) (by rw [hml]; rfl) (argsL := []) (rest := []) (lenOf pd_8 rfl) (hb hby at_118) (W := 0)
  obtain ⟨b14_b2, rfl, Nq14, K14, o14_0, o14_1, o14_2, o14_3, o14_4⟩ := hQ14
  have N14 := Fr.app N13 Nq14
  have s5 := K14.1
  have z6 := Nat.le_trans Z0 (Nat.le_trans (Nat.le_trans (Nat.le_trans (Nat.le_trans (Nat.le_trans s0 s1) s2) s3) s4) s5)
  obtain ⟨_, T15, L15, X15, hQ15, st15⟩ := own_virtual X14 hx hZ hown (y := y_9) (z := y_9) o14_1 (w_59 hw) (w_60 hw) (notFace_of_selects (args := #[]) (mvT hZ (w_62 hw))) (w_62 hw) (w_61 hw) (w_36 hw) (w_63 hw) (rm10 l Z a0 hw [] b14_b2 b1_b9 T14.heap n0 z6 o14_2) rfl (Ls := #[.val (.int p1), .val (.int p2), .val (.int p3), .val (.int p4), .val (.ref b1_b9), .val (.ref b2_b9), .val .null, .val (.ref b3), .val (.ref b5_b2), .val (.int (1 : Int32)), .val (.ref b14_b2), .unset]) (by rw [hml]; rfl) (argsL := []) (rest := []) (lenOf pd_9 rfl) (hb hby at_125) (W := 0)
  obtain ⟨rfl, Nq15, e15⟩ := hQ15
  have N15 := Fr.app N14 Nq15
  have Ex16 := (Ex7.keep K14)
  obtain ⟨_, T17, L17, X17, hQ17, st17⟩ := own_callS X15 hx hZ hown (y := y_11) (w_64 hw) (w_65 hw) (w_2 hw) (w_66 hw) (rm12 l Z a0 hw [] b1_b9 T14.heap n0 z6 Ex16) e15 (Ls := #[.val (.int p1), .val (.int p2), .val (.int p3), .val (.int p4), .val (.ref b1_b9), .val (.ref b2_b9), .val .null, .val (.ref b3), .val (.ref b5_b2), .val (.int (1 : Int32)), .val (.ref b14_b2), .unset]) (by rw [hml]; rfl) (argsL := [(.ref b1_b9), (.ref b1_b9)]) (rest := []) (lenOf pd_11 rfl) (hb hby at_130) (W := 0)
  obtain ⟨rfl, Nq17, e17⟩ := hQ17
  have N17 := Fr.app N15 Nq17
  obtain ⟨_, T18, L18, X18, hQ18, st18⟩ := own_virtual X17 hx hZ hown (y := y_12) (z := y_12) o14_1 (w_72 hw) (w_73 hw) (notFace_of_selects (args := #[]) (mvT hZ (w_75 hw))) (w_75 hw) (w_74 hw) (w_36 hw) (w_76 hw) (rm13 l Z a0 hw [] b14_b2 b2_b9 T14.heap n0 z6 o14_3) e17 (Ls := #[.val (.int p1), .val (.int p2), .val (.int p3), .val (.int p4), .val (.ref b1_b9), .val (.ref b2_b9), .val .null, .val (.ref b3), .val (.ref b5_b2), .val (.int (1 : Int32)), .val (.ref b14_b2), .unset]) (by rw [hml]; rfl) (argsL := []) (rest := []) (lenOf pd_9 rfl) (hb hby at_138) (W := 0)
  obtain ⟨rfl, Nq18, e18⟩ := hQ18
  have N18 := Fr.app N17 Nq18
  have Ex19 := (Ex12.keep K14)
  obtain ⟨_, T20, L20, X20, hQ20, st20⟩ := own_callS X18 hx hZ hown (y := y_11) (w_64 hw) (w_65 hw) (w_2 hw) (w_66 hw) (rm12 l Z a0 hw [] b2_b9 T14.heap n0 z6 Ex19) e18 (Ls := #[.val (.int p1), .val (.int p2), .val (.int p3), .val (.int p4), .val (.ref b1_b9), .val (.ref b2_b9), .val .null, .val (.ref b3), .val (.ref b5_b2), .val (.int (1 : Int32)), .val (.ref b14_b2), .unset]) (by rw [hml]; rfl) (argsL := [(.ref b2_b9), (.ref b2_b9)]) (rest := []) (lenOf pd_11 rfl) (hb hby at_143) (W := 0)
  obtain ⟨rfl, Nq20, e20⟩ := hQ20
  have N20 := Fr.app N18 Nq20
  obtain ⟨_, T21, L21, X21, hQ21, st21⟩ := own_virtual X20 hx hZ hown (y := y_13) (z := y_13) o14_1 (w_77 hw) (w_78 hw) (notFace_of_selects (args := #[]) (mvT hZ (w_80 hw))) (w_80 hw) (w_79 hw) (w_36 hw) (w_81 hw) (rm21 l Z a0 hw [] b14_b2 T14.heap n0 z6 o14_4) e20 (Ls := #[.val (.int p1), .val (.int p2), .val (.int p3), .val (.int p4), .val (.ref b1_b9), .val (.ref b2_b9), .val .null, .val (.ref b3), .val (.ref b5_b2), .val (.int (1 : Int32)), .val (.ref b14_b2), .unset]) (by rw [hml]; rfl) (argsL := []) (rest := []) (lenOf pd_9 rfl) (hb hby at_151) (W := 0)
  obtain ⟨rfl, Nq21, e21⟩ := hQ21
  have N21 := Fr.app N20 Nq21
  obtain ⟨_, T22, L22, X22, hQ22, st22⟩ := own_callS X21 hx hZ hown (y := y_11) (w_64 hw) (w_65 hw) (w_2 hw) (w_66 hw) (rm19 l Z a0 hw []  T14.heap n0 z6) e21 (Ls := #[.val (.int p1), .val (.int p2), .val (.int p3), .val (.int p4), .val (.ref b1_b9), .val (.ref b2_b9), .val .null, .val (.ref b3), .val (.ref b5_b2), .val (.int (1 : Int32)), .val (.ref b14_b2), .unset]) (by rw [hml]; rfl) (argsL := [.null, .null]) (rest := []) (lenOf pd_11 rfl) (hb hby at_156) (W := 0)
  obtain ⟨rfl, Nq22, e22⟩ := hQ22
  have N22 := Fr.app N21 Nq22
  refine ⟨T22, _, _, _, (some (.int (1 : Int32))), X22, nofun, by decide, by decide, ?_, fun fs hr => ?_⟩
  · show Q0 n0 _ T22.heap _
    rw [e22]
    exact ⟨rfl, N22⟩
  · show Steps p.tables e below (s₁.setTop (mkF m 0 #[.val (.int p1), .val (.int p2), .val (.int p3), .val (.int p4), .unset, .unset, .unset, .unset, .unset, .unset, .unset, .unset] [])) _
    refine XS.iloadN X0.here hx rfl (hb hby at_0) rfl ?_
    refine XS.iconst X0.here hx rfl (hb hby at_1) ?_
    refine XS.iand X0.here hx rfl (hb hby at_2) rfl ?_
    refine XS.ifYes X0.here hx rfl (pc0 := 3) (pc' := 10) rfl (hb hby at_3) rfl ((if0 _ _).trans (teq (cc1 : (p4 &&& (4 : Int32)) = (0 : Int32))).1) (by decide) (by decide) ?_
    refine XS.iloadN X0.here hx rfl (hb hby at_10) rfl ?_
    refine st1 _ ?_
    refine XS.astore X1.here hx rfl (hb hby at_14) rfl rfl (l' := #[.val (.int p1), .val (.int p2), .val (.int p3), .val (.int p4), .val (.ref b1_b9), .unset, .unset, .unset, .unset, .unset, .unset, .unset]) rfl ?_
    refine XS.iloadN X1.here hx rfl (hb hby at_16) rfl ?_
    refine XS.iconst X1.here hx rfl (hb hby at_17) ?_
    refine XS.iand X1.here hx rfl (hb hby at_18) rfl ?_
    refine XS.ifYes X1.here hx rfl (pc0 := 19) (pc' := 26) rfl (hb hby at_19) rfl ((if0 _ _).trans (teq (cc2 : (p4 &&& (1 : Int32)) = (0 : Int32))).1) (by decide) (by decide) ?_
    refine XS.iloadN X1.here hx rfl (hb hby at_26) rfl ?_
    show Steps p.tables e below (T1.setTop (mkF m 27 #[.val (.int p1), .val (.int p2), .val (.int p3), .val (.int p4), .val (.ref b1_b9), .unset, .unset, .unset, .unset, .unset, .unset, .unset] [(.int p2)])) _
    refine st2 _ ?_
    refine XS.astore X2.here hx rfl (hb hby at_30) rfl rfl (l' := #[.val (.int p1), .val (.int p2), .val (.int p3), .val (.int p4), .val (.ref b1_b9), .val (.ref b2_b9), .unset, .unset, .unset, .unset, .unset, .unset]) rfl ?_
    refine XS.iloadN X2.here hx rfl (hb hby at_32) rfl ?_
    refine XS.iconst X2.here hx rfl (hb hby at_33) ?_
    refine XS.iand X2.here hx rfl (hb hby at_34) rfl ?_
    refine XS.ifNo X2.here hx rfl (hb hby at_35) rfl ((if0 _ _).trans (feq (cc3 : ¬ ((p4 &&& (2 : Int32)) = (0 : Int32)))).1) ?_
    refine XS.aconstNull X2.here hx rfl (hb hby at_38) ?_
    refine XS.goto X2.here hx rfl (pc0 := 39) (pc' := 46) rfl (hb hby at_39) (by decide) (by decide) ?_
    refine XS.astore X2.here hx rfl (hb hby at_46) rfl rfl (l' := #[.val (.int p1), .val (.int p2), .val (.int p3), .val (.int p4), .val (.ref b1_b9), .val (.ref b2_b9), .val .null, .unset, .unset, .unset, .unset, .unset]) rfl ?_
    refine st3 _ ?_
    refine XS.dup X3.here hx rfl (hb hby at_51) rfl rfl ?_
    refine XS.aload X3.here hx rfl (hb hby at_52) rfl rfl ?_
    show Steps p.tables e below (T3.setTop (mkF m 54 #[.val (.int p1), .val (.int p2), .val (.int p3), .val (.int p4), .val (.ref b1_b9), .val (.ref b2_b9), .val .null, .unset, .unset, .unset, .unset, .unset] [(.ref b1_b9), (.ref b3), (.ref b3)])) _
    refine XS.aload X3.here hx rfl (hb hby at_54) rfl rfl ?_
    refine XS.aload X3.here hx rfl (hb hby at_56) rfl rfl ?_
    refine st4 _ ?_
    refine XS.astore X4.here hx rfl (hb hby at_61) rfl rfl (l' := #[.val (.int p1), .val (.int p2), .val (.int p3), .val (.int p4), .val (.ref b1_b9), .val (.ref b2_b9), .val .null, .val (.ref b3), .unset, .unset, .unset, .unset]) rfl ?_
    refine XS.aload X4.here hx rfl (hb hby at_63) rfl rfl ?_
    refine st5 _ ?_
    refine XS.astore X5.here hx rfl (hb hby at_68) rfl rfl (l' := #[.val (.int p1), .val (.int p2), .val (.int p3), .val (.int p4), .val (.ref b1_b9), .val (.ref b2_b9), .val .null, .val (.ref b3), .val (.ref b5_b2), .unset, .unset, .unset]) rfl ?_
    refine XS.aload X5.here hx rfl (hb hby at_70) rfl rfl ?_
    refine st6 _ ?_
    refine XS.aload X6.here hx rfl (hb hby at_75) rfl rfl ?_
    refine st8 _ ?_
    refine XS.ifNo X8.here hx rfl (hb hby at_80) rfl ((if0 _ _).trans (feq ((by decide : ¬ ((1 : Int32) = (0 : Int32))) : ¬ ((1 : Int32) = (0 : Int32)))).1) ?_
    show Steps p.tables e below (T8.setTop (mkF m 83 #[.val (.int p1), .val (.int p2), .val (.int p3), .val (.int p4), .val (.ref b1_b9), .val (.ref b2_b9), .val .null, .val (.ref b3), .val (.ref b5_b2), .unset, .unset, .unset] [])) _
    refine XS.aload X8.here hx rfl (hb hby at_83) rfl rfl ?_
    refine st9 _ ?_
    refine XS.aload X9.here hx rfl (hb hby at_88) rfl rfl ?_
    refine st10 _ ?_
    refine XS.ifNo X10.here hx rfl (hb hby at_93) rfl ((if0 _ _).trans (feq ((by decide : ¬ ((1 : Int32) = (0 : Int32))) : ¬ ((1 : Int32) = (0 : Int32)))).1) ?_
    refine XS.aload X10.here hx rfl (hb hby at_96) rfl rfl ?_
    refine st11 _ ?_
    refine XS.aload X11.here hx rfl (hb hby at_101) rfl rfl ?_
    refine st13 _ ?_
    refine XS.ifNo X13.here hx rfl (hb hby at_106) rfl ((if0 _ _).trans (feq ((by decide : ¬ ((1 : Int32) = (0 : Int32))) : ¬ ((1 : Int32) = (0 : Int32)))).1) ?_
    refine XS.iconst X13.here hx rfl (hb hby at_109) ?_
    refine XS.goto X13.here hx rfl (pc0 := 110) (pc' := 114) rfl (hb hby at_110) (by decide) (by decide) ?_
    show Steps p.tables e below (T13.setTop (mkF m 114 #[.val (.int p1), .val (.int p2), .val (.int p3), .val (.int p4), .val (.ref b1_b9), .val (.ref b2_b9), .val .null, .val (.ref b3), .val (.ref b5_b2), .unset, .unset, .unset] [(.int (1 : Int32))])) _
    refine XS.istore X13.here hx rfl (hb hby at_114) rfl (l' := #[.val (.int p1), .val (.int p2), .val (.int p3), .val (.int p4), .val (.ref b1_b9), .val (.ref b2_b9), .val .null, .val (.ref b3), .val (.ref b5_b2), .val (.int (1 : Int32)), .unset, .unset]) rfl ?_
    refine XS.aload X13.here hx rfl (hb hby at_116) rfl rfl ?_
    refine st14 _ ?_
    refine XS.astore X14.here hx rfl (hb hby at_121) rfl rfl (l' := #[.val (.int p1), .val (.int p2), .val (.int p3), .val (.int p4), .val (.ref b1_b9), .val (.ref b2_b9), .val .null, .val (.ref b3), .val (.ref b5_b2), .val (.int (1 : Int32)), .val (.ref b14_b2), .unset]) rfl ?_
    refine XS.aload X14.here hx rfl (hb hby at_123) rfl rfl ?_
    refine st15 _ ?_
    refine XS.aload X15.here hx rfl (hb hby at_128) rfl rfl ?_
    refine st17 _ ?_
    refine XS.ifNo X17.here hx rfl (hb hby at_133) rfl ((if0 _ _).trans (feq ((by decide : ¬ ((1 : Int32) = (0 : Int32))) : ¬ ((1 : Int32) = (0 : Int32)))).1) ?_
    refine XS.aload X17.here hx rfl (hb hby at_136) rfl rfl ?_
    refine st18 _ ?_
    refine XS.aload X18.here hx rfl (hb hby at_141) rfl rfl ?_
    show Steps p.tables e below (T18.setTop (mkF m 143 #[.val (.int p1), .val (.int p2), .val (.int p3), .val (.int p4), .val (.ref b1_b9), .val (.ref b2_b9), .val .null, .val (.ref b3), .val (.ref b5_b2), .val (.int (1 : Int32)), .val (.ref b14_b2), .unset] [(.ref b2_b9), (.ref b2_b9)])) _
    refine st20 _ ?_
    refine XS.ifNo X20.here hx rfl (hb hby at_146) rfl ((if0 _ _).trans (feq ((by decide : ¬ ((1 : Int32) = (0 : Int32))) : ¬ ((1 : Int32) = (0 : Int32)))).1) ?_
    refine XS.aload X20.here hx rfl (hb hby at_149) rfl rfl ?_
    refine st21 _ ?_
    refine XS.aload X21.here hx rfl (hb hby at_154) rfl rfl ?_
    refine st22 _ ?_
    refine XS.ifNo X22.here hx rfl (hb hby at_159) rfl ((if0 _ _).trans (feq ((by decide : ¬ ((1 : Int32) = (0 : Int32))) : ¬ ((1 : Int32) = (0 : Int32)))).1) ?_
    refine XS.iconst X22.here hx rfl (hb hby at_162) ?_
    refine XS.goto X22.here hx rfl (pc0 := 163) (pc' := 167) rfl (hb hby at_163) (by decide) (by decide) ?_
    refine XS.istore X22.here hx rfl (hb hby at_167) rfl (l' := #[.val (.int p1), .val (.int p2), .val (.int p3), .val (.int p4), .val (.ref b1_b9), .val (.ref b2_b9), .val .null, .val (.ref b3), .val (.ref b5_b2), .val (.int (1 : Int32)), .val (.ref b14_b2), .val (.int (1 : Int32))]) rfl ?_
    refine XS.iload X22.here hx rfl (hb hby at_169) rfl ?_
    refine XS.ifNo X22.here hx rfl (hb hby at_171) rfl ((if0 _ _).trans (feq ((by decide : ¬ ((1 : Int32) = (0 : Int32))) : ¬ ((1 : Int32) = (0 : Int32)))).1) ?_
    show Steps p.tables e below (T22.setTop (mkF m 174 #[.val (.int p1), .val (.int p2), .val (.int p3), .val (.int p4), .val (.ref b1_b9), .val (.ref b2_b9), .val .null, .val (.ref b3), .val (.ref b5_b2), .val (.int (1 : Int32)), .val (.ref b14_b2), .val (.int (1 : Int32))] [])) _
    refine XS.iload X22.here hx rfl (hb hby at_174) rfl ?_
    refine XS.ifNo X22.here hx rfl (hb hby at_176) rfl ((if0 _ _).trans (feq ((by decide : ¬ ((1 : Int32) = (0 : Int32))) : ¬ ((1 : Int32) = (0 : Int32)))).1) ?_
    refine XS.iconst X22.here hx rfl (hb hby at_179) ?_
    refine XS.goto X22.here hx rfl (pc0 := 180) (pc' := 184) rfl (hb hby at_180) (by decide) (by decide) ?_
    exact retN X22 hx (t := .boolean) hret (by simp) (hb hby at_184) hr
theorem rm0_2 (l : Launch) (Z : State) (a0 : Array Value) (hw : ∀ d ∈ tables_1, d.before a0 Z = true) (ws : List Jvm.Cond) (p1 : Int32) (p2 : Int32) (p3 : Int32) (p4 : Int32) (cs : Int32) (h0 : Heap) (n0 : Nat) (Z0 : n0 ≤ h0.size) (S_cs : Sta Z Z.heap "java/lang/String" "COMPACT_STRINGS" "Z" (.int cs)) (c_cs : ¬ (cs = (0 : Int32))) (Od0 : Old Z n0 h0) (cc1 : (p4 &&& (4 : Int32)) = (0 : Int32)) (cc2 : ¬ ((p4 &&& (1 : Int32)) = (0 : Int32))) (cc3 : (p4 &&& (2 : Int32)) = (0 : Int32)) :
    OwnMet l Z x code maxLocals ret ws room_1 #[(.int p1), (.int p2), (.int p3), (.int p4)] h0 (Q0 n0) := by
  refine own_body (plainFor_of_name pn_2) (ef0 p1 p2 p3 p4) ?_
  intro p e s m below meth c s₁ hx hby hml hown hnm hret hZ X0 e0
  have N0 := Fr.nil n0
  obtain ⟨_, T1, L1, X1, hQ1, st1⟩ := own_callS X0 hx hZ hown (y := y_5) (w_0 hw) (w_1 hw) (w_2 hw) (w_3 hw) (rm6 l Z a0 hw [] p1 cs h0 n0 Z0 S_cs Od0 c_cs) e0 (Ls := #[.val (.int p1), .val (.int p2), .val (.int p3), .val (.int p4), .unset, .unset, .unset, .unset, .unset, .unset, .unset, .unset]) (by rw [hml]; rfl) (argsL := [(.int p1)]) (rest := []) (lenOf pd_5 rfl) (hb hby at_11) (W := 0)
  obtain ⟨b1_b9, b1_b15_b11_b12_b2, k1_k15_k11_k12_k2, rfl, Nq1, K1, o1_0, o1_1, o1_2, o1_3, o1_4, o1_5, o1_6, o1_7⟩ := hQ1
  have N1 := Fr.app N0 Nq1
  have s0 := K1.1
  have Od1 : Old Z n0 T1.heap := Od0.keep K1 all0
  have z1 := Nat.le_trans Z0 s0
  obtain ⟨_, T2, L2, X2, hQ2, st2⟩ := own_callS X1 hx hZ hown (y := y_5) (w_0 hw) (w_1 hw) (w_2 hw) (w_3 hw) (rm6 l Z a0 hw [] p3 cs T1.heap n0 z1 S_cs Od1 c_cs) rfl (Ls := #[.val (.int p1), .val (.int p2), .val (.int p3), .val (.int p4), .val (.ref b1_b9), .val .null, .unset, .unset, .unset, .unset, .unset, .unset]) (by rw [hml]; rfl) (argsL := [(.int p3)]) (rest := []) (lenOf pd_5 rfl) (hb hby at_43) (W := 0)
  obtain ⟨b2_b9, b2_b15_b11_b12_b2, k2_k15_k11_k12_k2, rfl, Nq2, K2, o2_0, o2_1, o2_2, o2_3, o2_4, o2_5, o2_6, o2_7⟩ := hQ2
  have N2 := Fr.app N1 Nq2
  have s1 := K2.1
  obtain ⟨T3, h3, X3, e3, E3, A3, D3, -, st3⟩ := newO X2 hx hZ hown (w_34 hw) (w_35 hw) (w_36 hw) rfl (g := (mkF m 48 #[.val (.int p1), .val (.int p2), .val (.int p3), .val (.int p4), .val (.ref b1_b9), .val .null, .val (.ref b2_b9), .unset, .unset, .unset, .unset, .unset] [])) rfl (hb hby at_48) (by decide) (by decide)
  obtain ⟨b3, g3⟩ : ∃ z, z = T2.heap.size := ⟨_, rfl⟩
  rw [← g3] at A3 D3 st3
  have s2 := E3.1
  have Fn3_callId : Fld Z h3 b3 "com/example/whenfree/whenfree/Dialog" "callId" "Ljava/lang/String;" .null := D3 (Or.inr (w_47 hw)) (ty := (.object "java/lang/String")) (by decide)
  have Fn3_uacTag : Fld Z h3 b3 "com/example/whenfree/whenfree/Dialog" "uacTag" "Ljava/lang/String;" .null := D3 (Or.inr (w_49 hw)) (ty := (.object "java/lang/String")) (by decide)
  have Fn3_uasTag : Fld Z h3 b3 "com/example/whenfree/whenfree/Dialog" "uasTag" "Ljava/lang/String;" .null := D3 (Or.inr (w_51 hw)) (ty := (.object "java/lang/String")) (by decide)
  have z2 := Nat.le_trans Z0 (Nat.le_trans s0 s1)
  have g_b3 : n0 ≤ b3 := Nat.le_trans z2 (Nat.le_of_eq g3.symm)
  have z3 := Nat.le_trans Z0 (Nat.le_trans (Nat.le_trans s0 s1) s2)
  obtain ⟨_, T4, L4, X4, hQ4, st4⟩ := own_special X3 hx hZ hown (y := y_7) (a := b3) (w_37 hw) (w_38 hw) (w_36 hw) (w_39 hw) (rm16 l Z a0 hw [] b3 b1_b9 b2_b9 h3 n0 z3 Fn3_callId A3 g_b3 Fn3_uacTag Fn3_uasTag) e3 (Ls := #[.val (.int p1), .val (.int p2), .val (.int p3), .val (.int p4), .val (.ref b1_b9), .val .null, .val (.ref b2_b9), .unset, .unset, .unset, .unset, .unset]) (by rw [hml]; rfl) (argsL := [(.ref b1_b9), .null, (.ref b2_b9)]) (rest := [(.ref b3)]) (lenOf pd_7 rfl) (hb hby at_58) (W := 1)
  obtain ⟨rfl, Nq4, K4, o4_0, o4_1, o4_2, o4_3⟩ := hQ4
  have N4 := Fr.app N2 Nq4
  have s3 := K4.1
  have z4 := Nat.le_trans Z0 (Nat.le_trans (Nat.le_trans (Nat.le_trans s0 s1) s2) s3)
  obtain ⟨_, T5, L5, X5, hQ5, st5⟩ := own_virtual X4 hx hZ hown (y := y_8) (z := y_8) o4_0 (w_52 hw) (w_53 hw) (notFace_of_selects (args := #[]) (mvT hZ (w_55 hw))) (w_55 hw) (w_54 hw) (w_36 hw) (w_56 hw) (rm20 l Z a0 hw [] b3 b1_b9 b2_b9 T4.heap n0 z4 o4_1 o4_3 o4_2) rfl (Ls := #[.val (.int p1), .val (.int p2), .val (.int p3), .val (.int p4), .val (.ref b1_b9), .val .null, .val (.ref b2_b9), .val (.ref b3), .unset, .unset, .unset, .unset]) (by rw [hml]; rfl) (argsL := []) (rest := []) (lenOf pd_8 rfl) (hb hby at_65) (W := 0)
  obtain ⟨b5_b2, rfl, Nq5, K5, o5_0, o5_1, o5_2, o5_3, o5_4⟩ := hQ5
  have N5 := Fr.app N4 Nq5
  have s4 := K5.1
  have z5 := Nat.le_trans Z0 (Nat.le_trans (Nat.le_trans (Nat.le_trans (Nat.le_trans s0 s1) s2) s3) s4)
  obtain ⟨_, T6, L6, X6, hQ6, st6⟩ := own_virtual X5 hx hZ hown (y := y_9) (z := y_9) o5_1 (w_59 hw) (w_60 hw) (notFace_of_selects (args := #[]) (mvT hZ (w_62 hw))) (w_62 hw) (w_61 hw) (w_36 hw) (w_63 hw) (rm10 l Z a0 hw [] b5_b2 b1_b9 T5.heap n0 z5 o5_2) rfl (Ls := #[.val (.int p1), .val (.int p2), .val (.int p3), .val (.int p4), .val (.ref b1_b9), .val .null, .val (.ref b2_b9), .val (.ref b3), .val (.ref b5_b2), .unset, .unset, .unset]) (by rw [hml]; rfl) (argsL := []) (rest := []) (lenOf pd_9 rfl) (hb hby at_72) (W := 0)
  obtain ⟨rfl, Nq6, e6⟩ := hQ6
  have N6 := Fr.app N5 Nq6
  have Ex7 := ((((o1_1.keep K2).ext E3).keep K4).keep K5)
  obtain ⟨_, T8, L8, X8, hQ8, st8⟩ := own_callS X6 hx hZ hown (y := y_11) (w_64 hw) (w_65 hw) (w_2 hw) (w_66 hw) (rm12 l Z a0 hw [] b1_b9 T5.heap n0 z5 Ex7) e6 (Ls := #[.val (.int p1), .val (.int p2), .val (.int p3), .val (.int p4), .val (.ref b1_b9), .val .null, .val (.ref b2_b9), .val (.ref b3), .val (.ref b5_b2), .unset, .unset, .unset]) (by rw [hml]; rfl) (argsL := [(.ref b1_b9), (.ref b1_b9)]) (rest := []) (lenOf pd_11 rfl) (hb hby at_77) (W := 0)
  obtain ⟨rfl, Nq8, e8⟩ := hQ8
  have N8 := Fr.app N6 Nq8
  obtain ⟨_, T9, L9, X9, hQ9, st9⟩ := own_virtual X8 hx hZ hown (y := y_12) (z := y_12) o5_1 (w_72 hw) (w_73 hw) (notFace_of_selects (args := #[]) (mvT hZ (w_75 hw))) (w_75 hw) (w_74 hw) (w_36 hw) (w_76 hw) (rm13 l Z a0 hw [] b5_b2 b2_b9 T5.heap n0 z5 o5_3) e8 (Ls := #[.val (.int p1), .val (.int p2), .val (.int p3), .val (.int p4), .val (.ref b1_b9), .val .null, .val (.ref b2_b9), .val (.ref b3), .val (.ref b5_b2), .unset, .unset, .unset]) (by rw [hml]; rfl) (argsL := []) (rest := []) (lenOf pd_9 rfl) (hb hby at_85) (W := 0)
  obtain ⟨rfl, Nq9, e9⟩ := hQ9
  have N9 := Fr.app N8 Nq9
  have Ex10 := (((o2_1.ext E3).keep K4).keep K5)
  obtain ⟨_, T11, L11, X11, hQ11, st11⟩ := own_callS X9 hx hZ hown (y := y_11) (w_64 hw) (w_65 hw) (w_2 hw) (w_66 hw) (rm12 l Z a0 hw [] b2_b9 T5.heap n0 z5 Ex10) e9 (Ls := #[.val (.int p1), .val (.int p2), .val (.int p3), .val (.int p4), .val (.ref b1_b9), .val .null, .val (.ref b2_b9), .val (.ref b3), .val (.ref b5_b2), .unset, .unset, .unset]) (by rw [hml]; rfl) (argsL := [(.ref b2_b9), (.ref b2_b9)]) (rest := []) (lenOf pd_11 rfl) (hb hby at_90) (W := 0)
  obtain ⟨rfl, Nq11, e11⟩ := hQ11
  have N11 := Fr.app N9 Nq11
  obtain ⟨_, T12, L12, X12, hQ12, st12⟩ := own_virtual X11 hx hZ hown (y := y_13) (z := y_13) o5_1 (w_77 hw) (w_78 hw) (notFace_of_selects (args := #[]) (mvT hZ (w_80 hw))) (w_80 hw) (w_79 hw) (w_36 hw) (w_81 hw) (rm21 l Z a0 hw [] b5_b2 T5.heap n0 z5 o5_4) e11 (Ls := #[.val (.int p1), .val (.int p2), .val (.int p3), .val (.int p4), .val (.ref b1_b9), .val .null, .val (.ref b2_b9), .val (.ref b3), .val (.ref b5_b2), .unset, .unset, .unset]) (by rw [hml]; rfl) (argsL := []) (rest := []) (lenOf pd_9 rfl) (hb hby at_98) (W := 0)
  obtain ⟨rfl, Nq12, e12⟩ := hQ12
  have N12 := Fr.app N11 Nq12
  obtain ⟨_, T13, L13, X13, hQ13, st13⟩ := own_callS X12 hx hZ hown (y := y_11) (w_64 hw) (w_65 hw) (w_2 hw) (w_66 hw) (rm19 l Z a0 hw []  T5.heap n0 z5) e12 (Ls := #[.val (.int p1), .val (.int p2), .val (.int p3), .val (.int p4), .val (.ref b1_b9), .val .null, .val (.ref b2_b9), .val (.ref b3), .val (.ref b5_b2), .unset, .unset, .unset]) (by rw [hml]; rfl) (argsL := [.null, .null]) (rest := []) (lenOf pd_11 rfl) (hb hby at_103) (W := 0)
  obtain ⟨rfl, Nq13, e13⟩ := hQ13
  have N13 := Fr.app N12 Nq13
  obtain ⟨_, T14, L14, X14, hQ14, st14⟩ := own_virtual X13 hx hZ hown (y := y_8) (z := y_8) o5_1 (w_52 hw) (w_53 hw) (notFace_of_selects (args := #[]) (mvT hZ (w_55 hw))) (w_55 hw) (w_54 hw) (w_36 hw) (w_56 hw) (rm17 l Z a0 hw [] b5_b2 b1_b9 b2_b9 T5.heap n0 z5 o5_2 o5_4 o5_3) e13 (Ls := #[.val (.int p1), .val (.int p2), .val (.int p3), .val (.int p4), .val (.ref b1_b9), .val .null, .val (.ref b2_b9), .val (.ref b3), .val (.ref b5_b2), .val (.int (1 : Int32)), .unset, .unset]) (by rw [hml]; rfl) (argsL := []) (rest := []) (lenOf pd_8 rfl) (hb hby at_118) (W := 0)
  obtain ⟨b14_b2, rfl, Nq14, K14, o14_0, o14_1, o14_2, o14_3, o14_4⟩ := hQ14
  have N14 := Fr.app N13 Nq14
  have s5 := K14.1
  have z6 := Nat.le_trans Z0 (Nat.le_trans (Nat.le_trans (Nat.le_trans (Nat.le_trans (Nat.le_trans s0 s1) s2) s3) s4) s5)
  obtain ⟨_, T15, L15, X15, hQ15, st15⟩ := own_virtual X14 hx hZ hown (y := y_9) (z := y_9) o14_1 (w_59 hw) (w_60 hw) (notFace_of_selects (args := #[]) (mvT hZ (w_62 hw))) (w_62 hw) (w_61 hw) (w_36 hw) (w_63 hw) (rm10 l Z a0 hw [] b14_b2 b1_b9 T14.heap n0 z6 o14_2) rfl (Ls := #[.val (.int p1), .val (.int p2), .val (.int p3), .val (.int p4), .val (.ref b1_b9), .val .null, .val (.ref b2_b9), .val (.ref b3), .val (.ref b5_b2), .val (.int (1 : Int32)), .val (.ref b14_b2), .unset]) (by rw [hml]; rfl) (argsL := []) (rest := []) (lenOf pd_9 rfl) (hb hby at_125) (W := 0)
  obtain ⟨rfl, Nq15, e15⟩ := hQ15
  have N15 := Fr.app N14 Nq15
  have Ex16 := (Ex7.keep K14)
  obtain ⟨_, T17, L17, X17, hQ17, st17⟩ := own_callS X15 hx hZ hown (y := y_11) (w_64 hw) (w_65 hw) (w_2 hw) (w_66 hw) (rm12 l Z a0 hw [] b1_b9 T14.heap n0 z6 Ex16) e15 (Ls := #[.val (.int p1), .val (.int p2), .val (.int p3), .val (.int p4), .val (.ref b1_b9), .val .null, .val (.ref b2_b9), .val (.ref b3), .val (.ref b5_b2), .val (.int (1 : Int32)), .val (.ref b14_b2), .unset]) (by rw [hml]; rfl) (argsL := [(.ref b1_b9), (.ref b1_b9)]) (rest := []) (lenOf pd_11 rfl) (hb hby at_130) (W := 0)
  obtain ⟨rfl, Nq17, e17⟩ := hQ17
  have N17 := Fr.app N15 Nq17
  obtain ⟨_, T18, L18, X18, hQ18, st18⟩ := own_virtual X17 hx hZ hown (y := y_12) (z := y_12) o14_1 (w_72 hw) (w_73 hw) (notFace_of_selects (args := #[]) (mvT hZ (w_75 hw))) (w_75 hw) (w_74 hw) (w_36 hw) (w_76 hw) (rm18 l Z a0 hw [] b14_b2 T14.heap n0 z6 o14_3) e17 (Ls := #[.val (.int p1), .val (.int p2), .val (.int p3), .val (.int p4), .val (.ref b1_b9), .val .null, .val (.ref b2_b9), .val (.ref b3), .val (.ref b5_b2), .val (.int (1 : Int32)), .val (.ref b14_b2), .unset]) (by rw [hml]; rfl) (argsL := []) (rest := []) (lenOf pd_9 rfl) (hb hby at_138) (W := 0)
  obtain ⟨rfl, Nq18, e18⟩ := hQ18
  have N18 := Fr.app N17 Nq18
  obtain ⟨_, T19, L19, X19, hQ19, st19⟩ := own_callS X18 hx hZ hown (y := y_11) (w_64 hw) (w_65 hw) (w_2 hw) (w_66 hw) (rm19 l Z a0 hw []  T14.heap n0 z6) e18 (Ls := #[.val (.int p1), .val (.int p2), .val (.int p3), .val (.int p4), .val (.ref b1_b9), .val .null, .val (.ref b2_b9), .val (.ref b3), .val (.ref b5_b2), .val (.int (1 : Int32)), .val (.ref b14_b2), .unset]) (by rw [hml]; rfl) (argsL := [.null, .null]) (rest := []) (lenOf pd_11 rfl) (hb hby at_143) (W := 0)
  obtain ⟨rfl, Nq19, e19⟩ := hQ19
  have N19 := Fr.app N18 Nq19
  obtain ⟨_, T20, L20, X20, hQ20, st20⟩ := own_virtual X19 hx hZ hown (y := y_13) (z := y_13) o14_1 (w_77 hw) (w_78 hw) (notFace_of_selects (args := #[]) (mvT hZ (w_80 hw))) (w_80 hw) (w_79 hw) (w_36 hw) (w_81 hw) (rm14 l Z a0 hw [] b14_b2 b2_b9 T14.heap n0 z6 o14_4) e19 (Ls := #[.val (.int p1), .val (.int p2), .val (.int p3), .val (.int p4), .val (.ref b1_b9), .val .null, .val (.ref b2_b9), .val (.ref b3), .val (.ref b5_b2), .val (.int (1 : Int32)), .val (.ref b14_b2), .unset]) (by rw [hml]; rfl) (argsL := []) (rest := []) (lenOf pd_9 rfl) (hb hby at_151) (W := 0)
  obtain ⟨rfl, Nq20, e20⟩ := hQ20
  have N20 := Fr.app N19 Nq20
  have Ex21 := (Ex10.keep K14)
  obtain ⟨_, T22, L22, X22, hQ22, st22⟩ := own_callS X20 hx hZ hown (y := y_11) (w_64 hw) (w_65 hw) (w_2 hw) (w_66 hw) (rm12 l Z a0 hw [] b2_b9 T14.heap n0 z6 Ex21) e20 (Ls := #[.val (.int p1), .val (.int p2), .val (.int p3), .val (.int p4), .val (.ref b1_b9), .val .null, .val (.ref b2_b9), .val (.ref b3), .val (.ref b5_b2), .val (.int (1 : Int32)), .val (.ref b14_b2), .unset]) (by rw [hml]; rfl) (argsL := [(.ref b2_b9), (.ref b2_b9)]) (rest := []) (lenOf pd_11 rfl) (hb hby at_156) (W := 0)
  obtain ⟨rfl, Nq22, e22⟩ := hQ22
  have N22 := Fr.app N20 Nq22
  refine ⟨T22, _, _, _, (some (.int (1 : Int32))), X22, nofun, by decide, by decide, ?_, fun fs hr => ?_⟩
  · show Q0 n0 _ T22.heap _
    rw [e22]
    exact ⟨rfl, N22⟩
  · show Steps p.tables e below (s₁.setTop (mkF m 0 #[.val (.int p1), .val (.int p2), .val (.int p3), .val (.int p4), .unset, .unset, .unset, .unset, .unset, .unset, .unset, .unset] [])) _
    refine XS.iloadN X0.here hx rfl (hb hby at_0) rfl ?_
    refine XS.iconst X0.here hx rfl (hb hby at_1) ?_
    refine XS.iand X0.here hx rfl (hb hby at_2) rfl ?_
    refine XS.ifYes X0.here hx rfl (pc0 := 3) (pc' := 10) rfl (hb hby at_3) rfl ((if0 _ _).trans (teq (cc1 : (p4 &&& (4 : Int32)) = (0 : Int32))).1) (by decide) (by decide) ?_
    refine XS.iloadN X0.here hx rfl (hb hby at_10) rfl ?_
    refine st1 _ ?_
    refine XS.astore X1.here hx rfl (hb hby at_14) rfl rfl (l' := #[.val (.int p1), .val (.int p2), .val (.int p3), .val (.int p4), .val (.ref b1_b9), .unset, .unset, .unset, .unset, .unset, .unset, .unset]) rfl ?_
    refine XS.iloadN X1.here hx rfl (hb hby at_16) rfl ?_
    refine XS.iconst X1.here hx rfl (hb hby at_17) ?_
    refine XS.iand X1.here hx rfl (hb hby at_18) rfl ?_
    refine XS.ifNo X1.here hx rfl (hb hby at_19) rfl ((if0 _ _).trans (feq (cc2 : ¬ ((p4 &&& (1 : Int32)) = (0 : Int32)))).1) ?_
    refine XS.aconstNull X1.here hx rfl (hb hby at_22) ?_
    show Steps p.tables e below (T1.setTop (mkF m 23 #[.val (.int p1), .val (.int p2), .val (.int p3), .val (.int p4), .val (.ref b1_b9), .unset, .unset, .unset, .unset, .unset, .unset, .unset] [.null])) _
    refine XS.goto X1.here hx rfl (pc0 := 23) (pc' := 30) rfl (hb hby at_23) (by decide) (by decide) ?_
    refine XS.astore X1.here hx rfl (hb hby at_30) rfl rfl (l' := #[.val (.int p1), .val (.int p2), .val (.int p3), .val (.int p4), .val (.ref b1_b9), .val .null, .unset, .unset, .unset, .unset, .unset, .unset]) rfl ?_
    refine XS.iloadN X1.here hx rfl (hb hby at_32) rfl ?_
    refine XS.iconst X1.here hx rfl (hb hby at_33) ?_
    refine XS.iand X1.here hx rfl (hb hby at_34) rfl ?_
    refine XS.ifYes X1.here hx rfl (pc0 := 35) (pc' := 42) rfl (hb hby at_35) rfl ((if0 _ _).trans (teq (cc3 : (p4 &&& (2 : Int32)) = (0 : Int32))).1) (by decide) (by decide) ?_
    refine XS.iloadN X1.here hx rfl (hb hby at_42) rfl ?_
    refine st2 _ ?_
    refine XS.astore X2.here hx rfl (hb hby at_46) rfl rfl (l' := #[.val (.int p1), .val (.int p2), .val (.int p3), .val (.int p4), .val (.ref b1_b9), .val .null, .val (.ref b2_b9), .unset, .unset, .unset, .unset, .unset]) rfl ?_
    refine st3 _ ?_
    refine XS.dup X3.here hx rfl (hb hby at_51) rfl rfl ?_
    refine XS.aload X3.here hx rfl (hb hby at_52) rfl rfl ?_
    show Steps p.tables e below (T3.setTop (mkF m 54 #[.val (.int p1), .val (.int p2), .val (.int p3), .val (.int p4), .val (.ref b1_b9), .val .null, .val (.ref b2_b9), .unset, .unset, .unset, .unset, .unset] [(.ref b1_b9), (.ref b3), (.ref b3)])) _
    refine XS.aload X3.here hx rfl (hb hby at_54) rfl rfl ?_
    refine XS.aload X3.here hx rfl (hb hby at_56) rfl rfl ?_
    refine st4 _ ?_
    refine XS.astore X4.here hx rfl (hb hby at_61) rfl rfl (l' := #[.val (.int p1), .val (.int p2), .val (.int p3), .val (.int p4), .val (.ref b1_b9), .val .null, .val (.ref b2_b9), .val (.ref b3), .unset, .unset, .unset, .unset]) rfl ?_
    refine XS.aload X4.here hx rfl (hb hby at_63) rfl rfl ?_
    refine st5 _ ?_
    refine XS.astore X5.here hx rfl (hb hby at_68) rfl rfl (l' := #[.val (.int p1), .val (.int p2), .val (.int p3), .val (.int p4), .val (.ref b1_b9), .val .null, .val (.ref b2_b9), .val (.ref b3), .val (.ref b5_b2), .unset, .unset, .unset]) rfl ?_
    refine XS.aload X5.here hx rfl (hb hby at_70) rfl rfl ?_
    refine st6 _ ?_
    refine XS.aload X6.here hx rfl (hb hby at_75) rfl rfl ?_
    refine st8 _ ?_
    refine XS.ifNo X8.here hx rfl (hb hby at_80) rfl ((if0 _ _).trans (feq ((by decide : ¬ ((1 : Int32) = (0 : Int32))) : ¬ ((1 : Int32) = (0 : Int32)))).1) ?_
    show Steps p.tables e below (T8.setTop (mkF m 83 #[.val (.int p1), .val (.int p2), .val (.int p3), .val (.int p4), .val (.ref b1_b9), .val .null, .val (.ref b2_b9), .val (.ref b3), .val (.ref b5_b2), .unset, .unset, .unset] [])) _
    refine XS.aload X8.here hx rfl (hb hby at_83) rfl rfl ?_
    refine st9 _ ?_
    refine XS.aload X9.here hx rfl (hb hby at_88) rfl rfl ?_
    refine st11 _ ?_
    refine XS.ifNo X11.here hx rfl (hb hby at_93) rfl ((if0 _ _).trans (feq ((by decide : ¬ ((1 : Int32) = (0 : Int32))) : ¬ ((1 : Int32) = (0 : Int32)))).1) ?_
    refine XS.aload X11.here hx rfl (hb hby at_96) rfl rfl ?_
    refine st12 _ ?_
    refine XS.aload X12.here hx rfl (hb hby at_101) rfl rfl ?_
    refine st13 _ ?_
    refine XS.ifNo X13.here hx rfl (hb hby at_106) rfl ((if0 _ _).trans (feq ((by decide : ¬ ((1 : Int32) = (0 : Int32))) : ¬ ((1 : Int32) = (0 : Int32)))).1) ?_
    refine XS.iconst X13.here hx rfl (hb hby at_109) ?_
    refine XS.goto X13.here hx rfl (pc0 := 110) (pc' := 114) rfl (hb hby at_110) (by decide) (by decide) ?_
    show Steps p.tables e below (T13.setTop (mkF m 114 #[.val (.int p1), .val (.int p2), .val (.int p3), .val (.int p4), .val (.ref b1_b9), .val .null, .val (.ref b2_b9), .val (.ref b3), .val (.ref b5_b2), .unset, .unset, .unset] [(.int (1 : Int32))])) _
    refine XS.istore X13.here hx rfl (hb hby at_114) rfl (l' := #[.val (.int p1), .val (.int p2), .val (.int p3), .val (.int p4), .val (.ref b1_b9), .val .null, .val (.ref b2_b9), .val (.ref b3), .val (.ref b5_b2), .val (.int (1 : Int32)), .unset, .unset]) rfl ?_
    refine XS.aload X13.here hx rfl (hb hby at_116) rfl rfl ?_
    refine st14 _ ?_
    refine XS.astore X14.here hx rfl (hb hby at_121) rfl rfl (l' := #[.val (.int p1), .val (.int p2), .val (.int p3), .val (.int p4), .val (.ref b1_b9), .val .null, .val (.ref b2_b9), .val (.ref b3), .val (.ref b5_b2), .val (.int (1 : Int32)), .val (.ref b14_b2), .unset]) rfl ?_
    refine XS.aload X14.here hx rfl (hb hby at_123) rfl rfl ?_
    refine st15 _ ?_
    refine XS.aload X15.here hx rfl (hb hby at_128) rfl rfl ?_
    refine st17 _ ?_
    refine XS.ifNo X17.here hx rfl (hb hby at_133) rfl ((if0 _ _).trans (feq ((by decide : ¬ ((1 : Int32) = (0 : Int32))) : ¬ ((1 : Int32) = (0 : Int32)))).1) ?_
    refine XS.aload X17.here hx rfl (hb hby at_136) rfl rfl ?_
    refine st18 _ ?_
    refine XS.aload X18.here hx rfl (hb hby at_141) rfl rfl ?_
    show Steps p.tables e below (T18.setTop (mkF m 143 #[.val (.int p1), .val (.int p2), .val (.int p3), .val (.int p4), .val (.ref b1_b9), .val .null, .val (.ref b2_b9), .val (.ref b3), .val (.ref b5_b2), .val (.int (1 : Int32)), .val (.ref b14_b2), .unset] [.null, .null])) _
    refine st19 _ ?_
    refine XS.ifNo X19.here hx rfl (hb hby at_146) rfl ((if0 _ _).trans (feq ((by decide : ¬ ((1 : Int32) = (0 : Int32))) : ¬ ((1 : Int32) = (0 : Int32)))).1) ?_
    refine XS.aload X19.here hx rfl (hb hby at_149) rfl rfl ?_
    refine st20 _ ?_
    refine XS.aload X20.here hx rfl (hb hby at_154) rfl rfl ?_
    refine st22 _ ?_
    refine XS.ifNo X22.here hx rfl (hb hby at_159) rfl ((if0 _ _).trans (feq ((by decide : ¬ ((1 : Int32) = (0 : Int32))) : ¬ ((1 : Int32) = (0 : Int32)))).1) ?_
    refine XS.iconst X22.here hx rfl (hb hby at_162) ?_
    refine XS.goto X22.here hx rfl (pc0 := 163) (pc' := 167) rfl (hb hby at_163) (by decide) (by decide) ?_
    refine XS.istore X22.here hx rfl (hb hby at_167) rfl (l' := #[.val (.int p1), .val (.int p2), .val (.int p3), .val (.int p4), .val (.ref b1_b9), .val .null, .val (.ref b2_b9), .val (.ref b3), .val (.ref b5_b2), .val (.int (1 : Int32)), .val (.ref b14_b2), .val (.int (1 : Int32))]) rfl ?_
    refine XS.iload X22.here hx rfl (hb hby at_169) rfl ?_
    refine XS.ifNo X22.here hx rfl (hb hby at_171) rfl ((if0 _ _).trans (feq ((by decide : ¬ ((1 : Int32) = (0 : Int32))) : ¬ ((1 : Int32) = (0 : Int32)))).1) ?_
    show Steps p.tables e below (T22.setTop (mkF m 174 #[.val (.int p1), .val (.int p2), .val (.int p3), .val (.int p4), .val (.ref b1_b9), .val .null, .val (.ref b2_b9), .val (.ref b3), .val (.ref b5_b2), .val (.int (1 : Int32)), .val (.ref b14_b2), .val (.int (1 : Int32))] [])) _
    refine XS.iload X22.here hx rfl (hb hby at_174) rfl ?_
    refine XS.ifNo X22.here hx rfl (hb hby at_176) rfl ((if0 _ _).trans (feq ((by decide : ¬ ((1 : Int32) = (0 : Int32))) : ¬ ((1 : Int32) = (0 : Int32)))).1) ?_
    refine XS.iconst X22.here hx rfl (hb hby at_179) ?_
    refine XS.goto X22.here hx rfl (pc0 := 180) (pc' := 184) rfl (hb hby at_180) (by decide) (by decide) ?_
    exact retN X22 hx (t := .boolean) hret (by simp) (hb hby at_184) hr
-- com/example/whenfree/whenfree/Dialog.<init>(Ljava/lang/String;Ljava/lang/String;Ljava/lang/String;)V
abbrev Rm22 : Room := { frames := 2, cells := 0, slots := 0, locals := 24 }
def Q22 (Z : State) (a1 : Addr) (a2 : Addr) (h0 : Heap) (n0 : Nat) (v : Option Value) (h : Heap) (L : List Loc) : Prop := v = none ∧ Fr n0 L ∧ Keep h0 h [a1] ∧ Exa Z h a1 "com/example/whenfree/whenfree/Dialog" ∧ Fld Z h a1 "com/example/whenfree/whenfree/Dialog" "callId" "Ljava/lang/String;" (.ref a2) ∧ Fld Z h a1 "com/example/whenfree/whenfree/Dialog" "uacTag" "Ljava/lang/String;" .null ∧ Fld Z h a1 "com/example/whenfree/whenfree/Dialog" "uasTag" "Ljava/lang/String;" .null
theorem ef22 (a1 : Addr) (a2 : Addr) (m : MethodId) : entryFrame m #[(.ref a1), (.ref a2), .null, .null] 4 = mkF m 0 #[.val (.ref a1), .val (.ref a2), .val .null, .val .null] [] := by first | (simp [entryFrame, mkF, argsToLocals, Value.category]; done) | rfl
theorem rm22 (l : Launch) (Z : State) (a0 : Array Value) (hw : ∀ d ∈ tables_1, d.before a0 Z = true) (ws : List Jvm.Cond) (a1 : Addr) (a2 : Addr) (h0 : Heap) (n0 : Nat) (Z0 : n0 ≤ h0.size) (F_callId_a1 : Fld Z h0 a1 "com/example/whenfree/whenfree/Dialog" "callId" "Ljava/lang/String;" .null) (E_a1 : Exa Z h0 a1 "com/example/whenfree/whenfree/Dialog") (g_a1 : n0 ≤ a1) (F_uacTag_a1 : Fld Z h0 a1 "com/example/whenfree/whenfree/Dialog" "uacTag" "Ljava/lang/String;" .null) (F_uasTag_a1 : Fld Z h0 a1 "com/example/whenfree/whenfree/Dialog" "uasTag" "Ljava/lang/String;" .null) :
    OwnMet l Z y_7 prog_10_method_1_code 4 none ws Rm22 #[(.ref a1), (.ref a2), .null, .null] h0 (Q22 Z a1 a2 h0 n0) := by
  refine own_body (plainFor_of_name pn_4) (ef22 a1 a2) ?_
  intro p e s m below meth c s₁ hx hby hml hown hnm hret hZ X0 e0
  have N0 := Fr.nil n0
  obtain ⟨_, T3, L3, X3, hQ3, st3⟩ := own_special X0 hx hZ hown (y := y_6) (a := a1) (w_40 hw) (w_41 hw) (w_43 hw) (w_44 hw) (rm7 l Z a0 hw [] a1 h0 n0 Z0) e0 (Ls := #[.val (.ref a1), .val (.ref a2), .val .null, .val .null]) (by rw [hml]; rfl) (argsL := []) (rest := []) (lenOf pd_6 rfl) (hb hby d8_1) (W := 0)
  obtain ⟨rfl, Nq3, e3⟩ := hQ3
  have N3 := Fr.app N0 Nq3
  obtain ⟨T4, h4, X4, e4, W4, st4⟩ := putF X3 hx hZ hown (host := "") (Or.inl (w_46 hw)) Via.refl e3 F_callId_a1 E_a1 (Or.inr ⟨(w_47 hw), rfl, hnm⟩) (w_35 hw) (ty := (.object "java/lang/String")) (by decide) rfl rfl (g := (mkF m 6 #[.val (.ref a1), .val (.ref a2), .val .null, .val .null] [(.ref a2), (.ref a1)])) rfl rfl (hb hby d8_6)
  have s0 := (Keep.of_wr W4).1
  have N4 := Fr.snoc X4 N3 g_a1
  have Fw4 : Fld Z h4 a1 "com/example/whenfree/whenfree/Dialog" "callId" "Ljava/lang/String;" (.ref a2) := F_callId_a1.same W4
  have Ex5 := (E_a1.wr W4)
  have Fl6 := (F_uacTag_a1.other W4 (Or.inr (slot_ne (Or.inr (w_49 hw)) (Or.inr (w_47 hw)) (by decide) (t := (.object "java/lang/String")) (t' := (.object "java/lang/String")) (by decide) (by decide))))
  obtain ⟨T7, h7, X7, e7, W7, st7⟩ := putF X4 hx hZ hown (host := "") (Or.inl (w_48 hw)) Via.refl e4 Fl6 Ex5 (Or.inr ⟨(w_49 hw), rfl, hnm⟩) (w_35 hw) (ty := (.object "java/lang/String")) (by decide) rfl rfl (g := (mkF m 11 #[.val (.ref a1), .val (.ref a2), .val .null, .val .null] [.null, (.ref a1)])) rfl rfl (hb hby d8_11)
  have s1 := (Keep.of_wr W7).1
  have N7 := Fr.snoc X7 N4 g_a1
  have Fw7 : Fld Z h7 a1 "com/example/whenfree/whenfree/Dialog" "uacTag" "Ljava/lang/String;" .null := Fl6.same W7
  have Ex8 := (Ex5.wr W7)
  have Fl9 := ((F_uasTag_a1.other W4 (Or.inr (slot_ne (Or.inr (w_51 hw)) (Or.inr (w_47 hw)) (by decide) (t := (.object "java/lang/String")) (t' := (.object "java/lang/String")) (by decide) (by decide)))).other W7 (Or.inr (slot_ne (Or.inr (w_51 hw)) (Or.inr (w_49 hw)) (by decide) (t := (.object "java/lang/String")) (t' := (.object "java/lang/String")) (by decide) (by decide))))
  obtain ⟨T10, h10, X10, e10, W10, st10⟩ := putF X7 hx hZ hown (host := "") (Or.inl (w_50 hw)) Via.refl e7 Fl9 Ex8 (Or.inr ⟨(w_51 hw), rfl, hnm⟩) (w_35 hw) (ty := (.object "java/lang/String")) (by decide) rfl rfl (g := (mkF m 16 #[.val (.ref a1), .val (.ref a2), .val .null, .val .null] [.null, (.ref a1)])) rfl rfl (hb hby d8_16)
  have s2 := (Keep.of_wr W10).1
  have N10 := Fr.snoc X10 N7 g_a1
  have Fw10 : Fld Z h10 a1 "com/example/whenfree/whenfree/Dialog" "uasTag" "Ljava/lang/String;" .null := Fl9.same W10
  have Ex11 := (Ex8.wr W10)
  have Fl12 := ((Fw4.other W7 (Or.inr (slot_ne (Or.inr (w_47 hw)) (Or.inr (w_49 hw)) (by decide) (t := (.object "java/lang/String")) (t' := (.object "java/lang/String")) (by decide) (by decide)))).other W10 (Or.inr (slot_ne (Or.inr (w_47 hw)) (Or.inr (w_51 hw)) (by decide) (t := (.object "java/lang/String")) (t' := (.object "java/lang/String")) (by decide) (by decide))))
  have Fl13 := (Fw7.other W10 (Or.inr (slot_ne (Or.inr (w_49 hw)) (Or.inr (w_51 hw)) (by decide) (t := (.object "java/lang/String")) (t' := (.object "java/lang/String")) (by decide) (by decide))))
  have Kp0 : Keep h0 h4 [a1] := (Keep.refl h0 [a1]).wr W4 (Or.inl (List.mem_of_getElem? (i := 0) rfl))
  have Kp1 : Keep h0 h7 [a1] := Kp0.wr W7 (Or.inl (List.mem_of_getElem? (i := 0) rfl))
  have Kp2 : Keep h0 h10 [a1] := Kp1.wr W10 (Or.inl (List.mem_of_getElem? (i := 0) rfl))
  refine ⟨T10, _, _, _, none, X10, (fun _ => rfl), by decide, by decide, ?_, fun fs hr => ?_⟩
  · show Q22 Z a1 a2 h0 n0 _ T10.heap _
    rw [e10]
    exact ⟨rfl, N10, Kp2, Ex11, Fl12, Fl13, Fw10⟩
  · show Steps p.tables e below (s₁.setTop (mkF m 0 #[.val (.ref a1), .val (.ref a2), .val .null, .val .null] [])) _
    refine XS.aloadN X0.here hx rfl (hb hby d8_0) rfl rfl ?_
    refine st3 _ ?_
    refine XS.aloadN X3.here hx rfl (hb hby d8_4) rfl rfl ?_
    refine XS.aloadN X3.here hx rfl (hb hby d8_5) rfl rfl ?_
    refine st4 _ ?_
    refine XS.aloadN X4.here hx rfl (hb hby d8_9) rfl rfl ?_
    refine XS.aloadN X4.here hx rfl (hb hby d8_10) rfl rfl ?_
    refine st7 _ ?_
    refine XS.aloadN X7.here hx rfl (hb hby d8_14) rfl rfl ?_
    refine XS.aloadN X7.here hx rfl (hb hby d8_15) rfl rfl ?_
    refine st10 _ ?_
    exact X10.returnOut hx hret (hb hby d8_19) hr
-- com/example/whenfree/whenfree/Dialog.reversed()Lcom/example/whenfree/whenfree/Dialog;
abbrev Rm23 : Room := { frames := 3, cells := 1, slots := 3, locals := 40 }
def Q23 (Z : State) (a1 : Addr) (a3 : Addr) (h0 : Heap) (n0 : Nat) (v : Option Value) (h : Heap) (L : List Loc) : Prop := ∃ b2 : Addr, v = some (.ref b2) ∧ Fr n0 L ∧ Keep h0 h [] ∧ h0.size ≤ b2 ∧ Exa Z h b2 "com/example/whenfree/whenfree/Dialog" ∧ Fld Z h b2 "com/example/whenfree/whenfree/Dialog" "callId" "Ljava/lang/String;" (.ref a3) ∧ Fld Z h b2 "com/example/whenfree/whenfree/Dialog" "uacTag" "Ljava/lang/String;" .null ∧ Fld Z h b2 "com/example/whenfree/whenfree/Dialog" "uasTag" "Ljava/lang/String;" .null
theorem ef23 (a1 : Addr) (m : MethodId) : entryFrame m #[(.ref a1)] 1 = mkF m 0 #[.val (.ref a1)] [] := by first | (simp [entryFrame, mkF, argsToLocals, Value.category]; done) | rfl
theorem rm23 (l : Launch) (Z : State) (a0 : Array Value) (hw : ∀ d ∈ tables_1, d.before a0 Z = true) (ws : List Jvm.Cond) (a1 : Addr) (a3 : Addr) (h0 : Heap) (n0 : Nat) (Z0 : n0 ≤ h0.size) (F_callId_a1 : Fld Z h0 a1 "com/example/whenfree/whenfree/Dialog" "callId" "Ljava/lang/String;" (.ref a3)) (F_uasTag_a1 : Fld Z h0 a1 "com/example/whenfree/whenfree/Dialog" "uasTag" "Ljava/lang/String;" .null) (F_uacTag_a1 : Fld Z h0 a1 "com/example/whenfree/whenfree/Dialog" "uacTag" "Ljava/lang/String;" .null) :
    OwnMet l Z y_8 prog_10_method_3_code 1 (some (.object "com/example/whenfree/whenfree/Dialog")) ws Rm23 #[(.ref a1)] h0 (Q23 Z a1 a3 h0 n0) := by
  refine own_body (plainFor_of_name pn_4) (ef23 a1) ?_
  intro p e s m below meth c s₁ hx hby hml hown hnm hret hZ X0 e0
  have N0 := Fr.nil n0
  obtain ⟨T2, h2, X2, e2, E2, A2, D2, -, st2⟩ := newO X0 hx hZ hown (w_57 hw) (w_35 hw) (w_36 hw) e0 (g := (mkF m 0 #[.val (.ref a1)] [])) rfl (hb hby d10_0) (by decide) (by decide)
  obtain ⟨b2, g2⟩ : ∃ z, z = h0.size := ⟨_, rfl⟩
  rw [← g2] at A2 D2 st2
  have s0 := E2.1
  have Fn2_callId : Fld Z h2 b2 "com/example/whenfree/whenfree/Dialog" "callId" "Ljava/lang/String;" .null := D2 (Or.inr (w_47 hw)) (ty := (.object "java/lang/String")) (by decide)
  have Fn2_uacTag : Fld Z h2 b2 "com/example/whenfree/whenfree/Dialog" "uacTag" "Ljava/lang/String;" .null := D2 (Or.inr (w_49 hw)) (ty := (.object "java/lang/String")) (by decide)
  have Fn2_uasTag : Fld Z h2 b2 "com/example/whenfree/whenfree/Dialog" "uasTag" "Ljava/lang/String;" .null := D2 (Or.inr (w_51 hw)) (ty := (.object "java/lang/String")) (by decide)
  have Fl4 := (F_callId_a1.ext E2)
  obtain ⟨T5, X5, e5, st5⟩ := getF X2 hx hZ hown (host := "") (Or.inl (w_46 hw)) Via.refl e2 Fl4 (g := (mkF m 5 #[.val (.ref a1)] [(.ref a1), (.ref b2), (.ref b2)])) rfl rfl (hb hby d10_5)
  have Fl6 := (F_uasTag_a1.ext E2)
  obtain ⟨T7, X7, e7, st7⟩ := getF X5 hx hZ hown (host := "") (Or.inl (w_50 hw)) Via.refl e5 Fl6 (g := (mkF m 9 #[.val (.ref a1)] [(.ref a1), (.ref a3), (.ref b2), (.ref b2)])) rfl rfl (hb hby d10_9)
  have Fl8 := (F_uacTag_a1.ext E2)
  obtain ⟨T9, X9, e9, st9⟩ := getF X7 hx hZ hown (host := "") (Or.inl (w_48 hw)) Via.refl e7 Fl8 (g := (mkF m 13 #[.val (.ref a1)] [(.ref a1), .null, (.ref a3), (.ref b2), (.ref b2)])) rfl rfl (hb hby d10_13)
  have g_b2 : n0 ≤ b2 := Nat.le_trans Z0 (Nat.le_of_eq g2.symm)
  have z1 := Nat.le_trans Z0 s0
  obtain ⟨_, T10, L10, X10, hQ10, st10⟩ := own_special X9 hx hZ hown (y := y_7) (a := b2) (w_58 hw) (w_38 hw) (w_36 hw) (w_39 hw) (rm22 l Z a0 hw [] b2 a3 h2 n0 z1 Fn2_callId A2 g_b2 Fn2_uacTag Fn2_uasTag) e9 (Ls := #[.val (.ref a1)]) (by rw [hml]; rfl) (argsL := [(.ref a3), .null, .null]) (rest := [(.ref b2)]) (lenOf pd_7 rfl) (hb hby d10_16) (W := 1)
  obtain ⟨rfl, Nq10, K10, o10_0, o10_1, o10_2, o10_3⟩ := hQ10
  have N10 := Fr.app N0 Nq10
  have s1 := K10.1
  have sz_b2 : h0.size ≤ b2 := (Nat.le_of_eq g2.symm)
  have Kp0 : Keep h0 h2 [] := (Keep.refl h0 []).ext E2
  have Kp1 : Keep h0 T10.heap [] := Kp0.trans K10 (allS (Or.inr sz_b2) all0)
  refine ⟨T10, _, _, _, (some (.ref b2)), X10, nofun, by decide, by decide, ?_, fun fs hr => ?_⟩
  · show Q23 Z a1 a3 h0 n0 _ T10.heap _
    exact ⟨b2, rfl, N10, Kp1, sz_b2, o10_0, o10_1, o10_2, o10_3⟩
  · show Steps p.tables e below (s₁.setTop (mkF m 0 #[.val (.ref a1)] [])) _
    refine st2 _ ?_
    refine XS.dup X2.here hx rfl (hb hby d10_3) rfl rfl ?_
    refine XS.aloadN X2.here hx rfl (hb hby d10_4) rfl rfl ?_
    refine st5 _ ?_
    refine XS.aloadN X5.here hx rfl (hb hby d10_8) rfl rfl ?_
    refine st7 _ ?_
    refine XS.aloadN X7.here hx rfl (hb hby d10_12) rfl rfl ?_
    refine st9 _ ?_
    refine st10 _ ?_
    exact retOut X10 hx hret rfl (Or.inr (Or.inr (Or.inr (Or.inr ⟨rfl, rfl, rfl⟩)))) (hb hby d10_19) hr
theorem rm0_3 (l : Launch) (Z : State) (a0 : Array Value) (hw : ∀ d ∈ tables_1, d.before a0 Z = true) (ws : List Jvm.Cond) (p1 : Int32) (p2 : Int32) (p3 : Int32) (p4 : Int32) (cs : Int32) (h0 : Heap) (n0 : Nat) (Z0 : n0 ≤ h0.size) (S_cs : Sta Z Z.heap "java/lang/String" "COMPACT_STRINGS" "Z" (.int cs)) (c_cs : ¬ (cs = (0 : Int32))) (Od0 : Old Z n0 h0) (cc1 : (p4 &&& (4 : Int32)) = (0 : Int32)) (cc2 : ¬ ((p4 &&& (1 : Int32)) = (0 : Int32))) (cc3 : ¬ ((p4 &&& (2 : Int32)) = (0 : Int32))) :
    OwnMet l Z x code maxLocals ret ws room_1 #[(.int p1), (.int p2), (.int p3), (.int p4)] h0 (Q0 n0) := by
  refine own_body (plainFor_of_name pn_2) (ef0 p1 p2 p3 p4) ?_
  intro p e s m below meth c s₁ hx hby hml hown hnm hret hZ X0 e0
  have N0 := Fr.nil n0
  obtain ⟨_, T1, L1, X1, hQ1, st1⟩ := own_callS X0 hx hZ hown (y := y_5) (w_0 hw) (w_1 hw) (w_2 hw) (w_3 hw) (rm6 l Z a0 hw [] p1 cs h0 n0 Z0 S_cs Od0 c_cs) e0 (Ls := #[.val (.int p1), .val (.int p2), .val (.int p3), .val (.int p4), .unset, .unset, .unset, .unset, .unset, .unset, .unset, .unset]) (by rw [hml]; rfl) (argsL := [(.int p1)]) (rest := []) (lenOf pd_5 rfl) (hb hby at_11) (W := 0)
  obtain ⟨b1_b9, b1_b15_b11_b12_b2, k1_k15_k11_k12_k2, rfl, Nq1, K1, o1_0, o1_1, o1_2, o1_3, o1_4, o1_5, o1_6, o1_7⟩ := hQ1
  have N1 := Fr.app N0 Nq1
  have s0 := K1.1
  obtain ⟨T2, h2, X2, e2, E2, A2, D2, -, st2⟩ := newO X1 hx hZ hown (w_34 hw) (w_35 hw) (w_36 hw) rfl (g := (mkF m 48 #[.val (.int p1), .val (.int p2), .val (.int p3), .val (.int p4), .val (.ref b1_b9), .val .null, .val .null, .unset, .unset, .unset, .unset, .unset] [])) rfl (hb hby at_48) (by decide) (by decide)
  obtain ⟨b2, g2⟩ : ∃ z, z = T1.heap.size := ⟨_, rfl⟩
  rw [← g2] at A2 D2 st2
  have s1 := E2.1
  have Fn2_callId : Fld Z h2 b2 "com/example/whenfree/whenfree/Dialog" "callId" "Ljava/lang/String;" .null := D2 (Or.inr (w_47 hw)) (ty := (.object "java/lang/String")) (by decide)
  have Fn2_uacTag : Fld Z h2 b2 "com/example/whenfree/whenfree/Dialog" "uacTag" "Ljava/lang/String;" .null := D2 (Or.inr (w_49 hw)) (ty := (.object "java/lang/String")) (by decide)
  have Fn2_uasTag : Fld Z h2 b2 "com/example/whenfree/whenfree/Dialog" "uasTag" "Ljava/lang/String;" .null := D2 (Or.inr (w_51 hw)) (ty := (.object "java/lang/String")) (by decide)
  have z1 := Nat.le_trans Z0 s0
  have g_b2 : n0 ≤ b2 := Nat.le_trans z1 (Nat.le_of_eq g2.symm)
  have z2 := Nat.le_trans Z0 (Nat.le_trans s0 s1)
  obtain ⟨_, T3, L3, X3, hQ3, st3⟩ := own_special X2 hx hZ hown (y := y_7) (a := b2) (w_37 hw) (w_38 hw) (w_36 hw) (w_39 hw) (rm22 l Z a0 hw [] b2 b1_b9 h2 n0 z2 Fn2_callId A2 g_b2 Fn2_uacTag Fn2_uasTag) e2 (Ls := #[.val (.int p1), .val (.int p2), .val (.int p3), .val (.int p4), .val (.ref b1_b9), .val .null, .val .null, .unset, .unset, .unset, .unset, .unset]) (by rw [hml]; rfl) (argsL := [(.ref b1_b9), .null, .null]) (rest := [(.ref b2)]) (lenOf pd_7 rfl) (hb hby at_58) (W := 1)
  obtain ⟨rfl, Nq3, K3, o3_0, o3_1, o3_2, o3_3⟩ := hQ3
  have N3 := Fr.app N1 Nq3
  have s2 := K3.1
  have z3 := Nat.le_trans Z0 (Nat.le_trans (Nat.le_trans s0 s1) s2)
  obtain ⟨_, T4, L4, X4, hQ4, st4⟩ := own_virtual X3 hx hZ hown (y := y_8) (z := y_8) o3_0 (w_52 hw) (w_53 hw) (notFace_of_selects (args := #[]) (mvT hZ (w_55 hw))) (w_55 hw) (w_54 hw) (w_36 hw) (w_56 hw) (rm23 l Z a0 hw [] b2 b1_b9 T3.heap n0 z3 o3_1 o3_3 o3_2) rfl (Ls := #[.val (.int p1), .val (.int p2), .val (.int p3), .val (.int p4), .val (.ref b1_b9), .val .null, .val .null, .val (.ref b2), .unset, .unset, .unset, .unset]) (by rw [hml]; rfl) (argsL := []) (rest := []) (lenOf pd_8 rfl) (hb hby at_65) (W := 0)
  obtain ⟨b4_b2, rfl, Nq4, K4, o4_0, o4_1, o4_2, o4_3, o4_4⟩ := hQ4
  have N4 := Fr.app N3 Nq4
  have s3 := K4.1
  have z4 := Nat.le_trans Z0 (Nat.le_trans (Nat.le_trans (Nat.le_trans s0 s1) s2) s3)
  obtain ⟨_, T5, L5, X5, hQ5, st5⟩ := own_virtual X4 hx hZ hown (y := y_9) (z := y_9) o4_1 (w_59 hw) (w_60 hw) (notFace_of_selects (args := #[]) (mvT hZ (w_62 hw))) (w_62 hw) (w_61 hw) (w_36 hw) (w_63 hw) (rm10 l Z a0 hw [] b4_b2 b1_b9 T4.heap n0 z4 o4_2) rfl (Ls := #[.val (.int p1), .val (.int p2), .val (.int p3), .val (.int p4), .val (.ref b1_b9), .val .null, .val .null, .val (.ref b2), .val (.ref b4_b2), .unset, .unset, .unset]) (by rw [hml]; rfl) (argsL := []) (rest := []) (lenOf pd_9 rfl) (hb hby at_72) (W := 0)
  obtain ⟨rfl, Nq5, e5⟩ := hQ5
  have N5 := Fr.app N4 Nq5
  have Ex6 := (((o1_1.ext E2).keep K3).keep K4)
  obtain ⟨_, T7, L7, X7, hQ7, st7⟩ := own_callS X5 hx hZ hown (y := y_11) (w_64 hw) (w_65 hw) (w_2 hw) (w_66 hw) (rm12 l Z a0 hw [] b1_b9 T4.heap n0 z4 Ex6) e5 (Ls := #[.val (.int p1), .val (.int p2), .val (.int p3), .val (.int p4), .val (.ref b1_b9), .val .null, .val .null, .val (.ref b2), .val (.ref b4_b2), .unset, .unset, .unset]) (by rw [hml]; rfl) (argsL := [(.ref b1_b9), (.ref b1_b9)]) (rest := []) (lenOf pd_11 rfl) (hb hby at_77) (W := 0)
  obtain ⟨rfl, Nq7, e7⟩ := hQ7
  have N7 := Fr.app N5 Nq7
  obtain ⟨_, T8, L8, X8, hQ8, st8⟩ := own_virtual X7 hx hZ hown (y := y_12) (z := y_12) o4_1 (w_72 hw) (w_73 hw) (notFace_of_selects (args := #[]) (mvT hZ (w_75 hw))) (w_75 hw) (w_74 hw) (w_36 hw) (w_76 hw) (rm18 l Z a0 hw [] b4_b2 T4.heap n0 z4 o4_3) e7 (Ls := #[.val (.int p1), .val (.int p2), .val (.int p3), .val (.int p4), .val (.ref b1_b9), .val .null, .val .null, .val (.ref b2), .val (.ref b4_b2), .unset, .unset, .unset]) (by rw [hml]; rfl) (argsL := []) (rest := []) (lenOf pd_9 rfl) (hb hby at_85) (W := 0)
  obtain ⟨rfl, Nq8, e8⟩ := hQ8
  have N8 := Fr.app N7 Nq8
  obtain ⟨_, T9, L9, X9, hQ9, st9⟩ := own_callS X8 hx hZ hown (y := y_11) (w_64 hw) (w_65 hw) (w_2 hw) (w_66 hw) (rm19 l Z a0 hw []  T4.heap n0 z4) e8 (Ls := #[.val (.int p1), .val (.int p2), .val (.int p3), .val (.int p4), .val (.ref b1_b9), .val .null, .val .null, .val (.ref b2), .val (.ref b4_b2), .unset, .unset, .unset]) (by rw [hml]; rfl) (argsL := [.null, .null]) (rest := []) (lenOf pd_11 rfl) (hb hby at_90) (W := 0)
  obtain ⟨rfl, Nq9, e9⟩ := hQ9
  have N9 := Fr.app N8 Nq9
  obtain ⟨_, T10, L10, X10, hQ10, st10⟩ := own_virtual X9 hx hZ hown (y := y_13) (z := y_13) o4_1 (w_77 hw) (w_78 hw) (notFace_of_selects (args := #[]) (mvT hZ (w_80 hw))) (w_80 hw) (w_79 hw) (w_36 hw) (w_81 hw) (rm21 l Z a0 hw [] b4_b2 T4.heap n0 z4 o4_4) e9 (Ls := #[.val (.int p1), .val (.int p2), .val (.int p3), .val (.int p4), .val (.ref b1_b9), .val .null, .val .null, .val (.ref b2), .val (.ref b4_b2), .unset, .unset, .unset]) (by rw [hml]; rfl) (argsL := []) (rest := []) (lenOf pd_9 rfl) (hb hby at_98) (W := 0)
  obtain ⟨rfl, Nq10, e10⟩ := hQ10
  have N10 := Fr.app N9 Nq10
  obtain ⟨_, T11, L11, X11, hQ11, st11⟩ := own_callS X10 hx hZ hown (y := y_11) (w_64 hw) (w_65 hw) (w_2 hw) (w_66 hw) (rm19 l Z a0 hw []  T4.heap n0 z4) e10 (Ls := #[.val (.int p1), .val (.int p2), .val (.int p3), .val (.int p4), .val (.ref b1_b9), .val .null, .val .null, .val (.ref b2), .val (.ref b4_b2), .unset, .unset, .unset]) (by rw [hml]; rfl) (argsL := [.null, .null]) (rest := []) (lenOf pd_11 rfl) (hb hby at_103) (W := 0)
  obtain ⟨rfl, Nq11, e11⟩ := hQ11
  have N11 := Fr.app N10 Nq11
  obtain ⟨_, T12, L12, X12, hQ12, st12⟩ := own_virtual X11 hx hZ hown (y := y_8) (z := y_8) o4_1 (w_52 hw) (w_53 hw) (notFace_of_selects (args := #[]) (mvT hZ (w_55 hw))) (w_55 hw) (w_54 hw) (w_36 hw) (w_56 hw) (rm23 l Z a0 hw [] b4_b2 b1_b9 T4.heap n0 z4 o4_2 o4_4 o4_3) e11 (Ls := #[.val (.int p1), .val (.int p2), .val (.int p3), .val (.int p4), .val (.ref b1_b9), .val .null, .val .null, .val (.ref b2), .val (.ref b4_b2), .val (.int (1 : Int32)), .unset, .unset]) (by rw [hml]; rfl) (argsL := []) (rest := []) (lenOf pd_8 rfl) (hb hby at_118) (W := 0)
  obtain ⟨b12_b2, rfl, Nq12, K12, o12_0, o12_1, o12_2, o12_3, o12_4⟩ := hQ12
  have N12 := Fr.app N11 Nq12
  have s4 := K12.1
  have z5 := Nat.le_trans Z0 (Nat.le_trans (Nat.le_trans (Nat.le_trans (Nat.le_trans s0 s1) s2) s3) s4)
  obtain ⟨_, T13, L13, X13, hQ13, st13⟩ := own_virtual X12 hx hZ hown (y := y_9) (z := y_9) o12_1 (w_59 hw) (w_60 hw) (notFace_of_selects (args := #[]) (mvT hZ (w_62 hw))) (w_62 hw) (w_61 hw) (w_36 hw) (w_63 hw) (rm10 l Z a0 hw [] b12_b2 b1_b9 T12.heap n0 z5 o12_2) rfl (Ls := #[.val (.int p1), .val (.int p2), .val (.int p3), .val (.int p4), .val (.ref b1_b9), .val .null, .val .null, .val (.ref b2), .val (.ref b4_b2), .val (.int (1 : Int32)), .val (.ref b12_b2), .unset]) (by rw [hml]; rfl) (argsL := []) (rest := []) (lenOf pd_9 rfl) (hb hby at_125) (W := 0)
  obtain ⟨rfl, Nq13, e13⟩ := hQ13
  have N13 := Fr.app N12 Nq13
  have Ex14 := (Ex6.keep K12)
  obtain ⟨_, T15, L15, X15, hQ15, st15⟩ := own_callS X13 hx hZ hown (y := y_11) (w_64 hw) (w_65 hw) (w_2 hw) (w_66 hw) (rm12 l Z a0 hw [] b1_b9 T12.heap n0 z5 Ex14) e13 (Ls := #[.val (.int p1), .val (.int p2), .val (.int p3), .val (.int p4), .val (.ref b1_b9), .val .null, .val .null, .val (.ref b2), .val (.ref b4_b2), .val (.int (1 : Int32)), .val (.ref b12_b2), .unset]) (by rw [hml]; rfl) (argsL := [(.ref b1_b9), (.ref b1_b9)]) (rest := []) (lenOf pd_11 rfl) (hb hby at_130) (W := 0)
  obtain ⟨rfl, Nq15, e15⟩ := hQ15
  have N15 := Fr.app N13 Nq15
  obtain ⟨_, T16, L16, X16, hQ16, st16⟩ := own_virtual X15 hx hZ hown (y := y_12) (z := y_12) o12_1 (w_72 hw) (w_73 hw) (notFace_of_selects (args := #[]) (mvT hZ (w_75 hw))) (w_75 hw) (w_74 hw) (w_36 hw) (w_76 hw) (rm18 l Z a0 hw [] b12_b2 T12.heap n0 z5 o12_3) e15 (Ls := #[.val (.int p1), .val (.int p2), .val (.int p3), .val (.int p4), .val (.ref b1_b9), .val .null, .val .null, .val (.ref b2), .val (.ref b4_b2), .val (.int (1 : Int32)), .val (.ref b12_b2), .unset]) (by rw [hml]; rfl) (argsL := []) (rest := []) (lenOf pd_9 rfl) (hb hby at_138) (W := 0)
  obtain ⟨rfl, Nq16, e16⟩ := hQ16
  have N16 := Fr.app N15 Nq16
  obtain ⟨_, T17, L17, X17, hQ17, st17⟩ := own_callS X16 hx hZ hown (y := y_11) (w_64 hw) (w_65 hw) (w_2 hw) (w_66 hw) (rm19 l Z a0 hw []  T12.heap n0 z5) e16 (Ls := #[.val (.int p1), .val (.int p2), .val (.int p3), .val (.int p4), .val (.ref b1_b9), .val .null, .val .null, .val (.ref b2), .val (.ref b4_b2), .val (.int (1 : Int32)), .val (.ref b12_b2), .unset]) (by rw [hml]; rfl) (argsL := [.null, .null]) (rest := []) (lenOf pd_11 rfl) (hb hby at_143) (W := 0)
  obtain ⟨rfl, Nq17, e17⟩ := hQ17
  have N17 := Fr.app N16 Nq17
  obtain ⟨_, T18, L18, X18, hQ18, st18⟩ := own_virtual X17 hx hZ hown (y := y_13) (z := y_13) o12_1 (w_77 hw) (w_78 hw) (notFace_of_selects (args := #[]) (mvT hZ (w_80 hw))) (w_80 hw) (w_79 hw) (w_36 hw) (w_81 hw) (rm21 l Z a0 hw [] b12_b2 T12.heap n0 z5 o12_4) e17 (Ls := #[.val (.int p1), .val (.int p2), .val (.int p3), .val (.int p4), .val (.ref b1_b9), .val .null, .val .null, .val (.ref b2), .val (.ref b4_b2), .val (.int (1 : Int32)), .val (.ref b12_b2), .unset]) (by rw [hml]; rfl) (argsL := []) (rest := []) (lenOf pd_9 rfl) (hb hby at_151) (W := 0)
  obtain ⟨rfl, Nq18, e18⟩ := hQ18
  have N18 := Fr.app N17 Nq18
  obtain ⟨_, T19, L19, X19, hQ19, st19⟩ := own_callS X18 hx hZ hown (y := y_11) (w_64 hw) (w_65 hw) (w_2 hw) (w_66 hw) (rm19 l Z a0 hw []  T12.heap n0 z5) e18 (Ls := #[.val (.int p1), .val (.int p2), .val (.int p3), .val (.int p4), .val (.ref b1_b9), .val .null, .val .null, .val (.ref b2), .val (.ref b4_b2), .val (.int (1 : Int32)), .val (.ref b12_b2), .unset]) (by rw [hml]; rfl) (argsL := [.null, .null]) (rest := []) (lenOf pd_11 rfl) (hb hby at_156) (W := 0)
  obtain ⟨rfl, Nq19, e19⟩ := hQ19
  have N19 := Fr.app N18 Nq19
  refine ⟨T19, _, _, _, (some (.int (1 : Int32))), X19, nofun, by decide, by decide, ?_, fun fs hr => ?_⟩
  · show Q0 n0 _ T19.heap _
    rw [e19]
    exact ⟨rfl, N19⟩
  · show Steps p.tables e below (s₁.setTop (mkF m 0 #[.val (.int p1), .val (.int p2), .val (.int p3), .val (.int p4), .unset, .unset, .unset, .unset, .unset, .unset, .unset, .unset] [])) _
    refine XS.iloadN X0.here hx rfl (hb hby at_0) rfl ?_
    refine XS.iconst X0.here hx rfl (hb hby at_1) ?_
    refine XS.iand X0.here hx rfl (hb hby at_2) rfl ?_
    refine XS.ifYes X0.here hx rfl (pc0 := 3) (pc' := 10) rfl (hb hby at_3) rfl ((if0 _ _).trans (teq (cc1 : (p4 &&& (4 : Int32)) = (0 : Int32))).1) (by decide) (by decide) ?_
    refine XS.iloadN X0.here hx rfl (hb hby at_10) rfl ?_
    refine st1 _ ?_
    refine XS.astore X1.here hx rfl (hb hby at_14) rfl rfl (l' := #[.val (.int p1), .val (.int p2), .val (.int p3), .val (.int p4), .val (.ref b1_b9), .unset, .unset, .unset, .unset, .unset, .unset, .unset]) rfl ?_
    refine XS.iloadN X1.here hx rfl (hb hby at_16) rfl ?_
    refine XS.iconst X1.here hx rfl (hb hby at_17) ?_
    refine XS.iand X1.here hx rfl (hb hby at_18) rfl ?_
    refine XS.ifNo X1.here hx rfl (hb hby at_19) rfl ((if0 _ _).trans (feq (cc2 : ¬ ((p4 &&& (1 : Int32)) = (0 : Int32)))).1) ?_
    refine XS.aconstNull X1.here hx rfl (hb hby at_22) ?_
    show Steps p.tables e below (T1.setTop (mkF m 23 #[.val (.int p1), .val (.int p2), .val (.int p3), .val (.int p4), .val (.ref b1_b9), .unset, .unset, .unset, .unset, .unset, .unset, .unset] [.null])) _
    refine XS.goto X1.here hx rfl (pc0 := 23) (pc' := 30) rfl (hb hby at_23) (by decide) (by decide) ?_
    refine XS.astore X1.here hx rfl (hb hby at_30) rfl rfl (l' := #[.val (.int p1), .val (.int p2), .val (.int p3), .val (.int p4), .val (.ref b1_b9), .val .null, .unset, .unset, .unset, .unset, .unset, .unset]) rfl ?_
    refine XS.iloadN X1.here hx rfl (hb hby at_32) rfl ?_
    refine XS.iconst X1.here hx rfl (hb hby at_33) ?_
    refine XS.iand X1.here hx rfl (hb hby at_34) rfl ?_
    refine XS.ifNo X1.here hx rfl (hb hby at_35) rfl ((if0 _ _).trans (feq (cc3 : ¬ ((p4 &&& (2 : Int32)) = (0 : Int32)))).1) ?_
    refine XS.aconstNull X1.here hx rfl (hb hby at_38) ?_
    refine XS.goto X1.here hx rfl (pc0 := 39) (pc' := 46) rfl (hb hby at_39) (by decide) (by decide) ?_
    refine XS.astore X1.here hx rfl (hb hby at_46) rfl rfl (l' := #[.val (.int p1), .val (.int p2), .val (.int p3), .val (.int p4), .val (.ref b1_b9), .val .null, .val .null, .unset, .unset, .unset, .unset, .unset]) rfl ?_
    refine st2 _ ?_
    refine XS.dup X2.here hx rfl (hb hby at_51) rfl rfl ?_
    refine XS.aload X2.here hx rfl (hb hby at_52) rfl rfl ?_
    show Steps p.tables e below (T2.setTop (mkF m 54 #[.val (.int p1), .val (.int p2), .val (.int p3), .val (.int p4), .val (.ref b1_b9), .val .null, .val .null, .unset, .unset, .unset, .unset, .unset] [(.ref b1_b9), (.ref b2), (.ref b2)])) _
    refine XS.aload X2.here hx rfl (hb hby at_54) rfl rfl ?_
    refine XS.aload X2.here hx rfl (hb hby at_56) rfl rfl ?_
    refine st3 _ ?_
    refine XS.astore X3.here hx rfl (hb hby at_61) rfl rfl (l' := #[.val (.int p1), .val (.int p2), .val (.int p3), .val (.int p4), .val (.ref b1_b9), .val .null, .val .null, .val (.ref b2), .unset, .unset, .unset, .unset]) rfl ?_
    refine XS.aload X3.here hx rfl (hb hby at_63) rfl rfl ?_
    refine st4 _ ?_
    refine XS.astore X4.here hx rfl (hb hby at_68) rfl rfl (l' := #[.val (.int p1), .val (.int p2), .val (.int p3), .val (.int p4), .val (.ref b1_b9), .val .null, .val .null, .val (.ref b2), .val (.ref b4_b2), .unset, .unset, .unset]) rfl ?_
    refine XS.aload X4.here hx rfl (hb hby at_70) rfl rfl ?_
    refine st5 _ ?_
    refine XS.aload X5.here hx rfl (hb hby at_75) rfl rfl ?_
    refine st7 _ ?_
    refine XS.ifNo X7.here hx rfl (hb hby at_80) rfl ((if0 _ _).trans (feq ((by decide : ¬ ((1 : Int32) = (0 : Int32))) : ¬ ((1 : Int32) = (0 : Int32)))).1) ?_
    show Steps p.tables e below (T7.setTop (mkF m 83 #[.val (.int p1), .val (.int p2), .val (.int p3), .val (.int p4), .val (.ref b1_b9), .val .null, .val .null, .val (.ref b2), .val (.ref b4_b2), .unset, .unset, .unset] [])) _
    refine XS.aload X7.here hx rfl (hb hby at_83) rfl rfl ?_
    refine st8 _ ?_
    refine XS.aload X8.here hx rfl (hb hby at_88) rfl rfl ?_
    refine st9 _ ?_
    refine XS.ifNo X9.here hx rfl (hb hby at_93) rfl ((if0 _ _).trans (feq ((by decide : ¬ ((1 : Int32) = (0 : Int32))) : ¬ ((1 : Int32) = (0 : Int32)))).1) ?_
    refine XS.aload X9.here hx rfl (hb hby at_96) rfl rfl ?_
    refine st10 _ ?_
    refine XS.aload X10.here hx rfl (hb hby at_101) rfl rfl ?_
    refine st11 _ ?_
    refine XS.ifNo X11.here hx rfl (hb hby at_106) rfl ((if0 _ _).trans (feq ((by decide : ¬ ((1 : Int32) = (0 : Int32))) : ¬ ((1 : Int32) = (0 : Int32)))).1) ?_
    refine XS.iconst X11.here hx rfl (hb hby at_109) ?_
    refine XS.goto X11.here hx rfl (pc0 := 110) (pc' := 114) rfl (hb hby at_110) (by decide) (by decide) ?_
    show Steps p.tables e below (T11.setTop (mkF m 114 #[.val (.int p1), .val (.int p2), .val (.int p3), .val (.int p4), .val (.ref b1_b9), .val .null, .val .null, .val (.ref b2), .val (.ref b4_b2), .unset, .unset, .unset] [(.int (1 : Int32))])) _
    refine XS.istore X11.here hx rfl (hb hby at_114) rfl (l' := #[.val (.int p1), .val (.int p2), .val (.int p3), .val (.int p4), .val (.ref b1_b9), .val .null, .val .null, .val (.ref b2), .val (.ref b4_b2), .val (.int (1 : Int32)), .unset, .unset]) rfl ?_
    refine XS.aload X11.here hx rfl (hb hby at_116) rfl rfl ?_
    refine st12 _ ?_
    refine XS.astore X12.here hx rfl (hb hby at_121) rfl rfl (l' := #[.val (.int p1), .val (.int p2), .val (.int p3), .val (.int p4), .val (.ref b1_b9), .val .null, .val .null, .val (.ref b2), .val (.ref b4_b2), .val (.int (1 : Int32)), .val (.ref b12_b2), .unset]) rfl ?_
    refine XS.aload X12.here hx rfl (hb hby at_123) rfl rfl ?_
    refine st13 _ ?_
    refine XS.aload X13.here hx rfl (hb hby at_128) rfl rfl ?_
    refine st15 _ ?_
    refine XS.ifNo X15.here hx rfl (hb hby at_133) rfl ((if0 _ _).trans (feq ((by decide : ¬ ((1 : Int32) = (0 : Int32))) : ¬ ((1 : Int32) = (0 : Int32)))).1) ?_
    refine XS.aload X15.here hx rfl (hb hby at_136) rfl rfl ?_
    refine st16 _ ?_
    refine XS.aload X16.here hx rfl (hb hby at_141) rfl rfl ?_
    show Steps p.tables e below (T16.setTop (mkF m 143 #[.val (.int p1), .val (.int p2), .val (.int p3), .val (.int p4), .val (.ref b1_b9), .val .null, .val .null, .val (.ref b2), .val (.ref b4_b2), .val (.int (1 : Int32)), .val (.ref b12_b2), .unset] [.null, .null])) _
    refine st17 _ ?_
    refine XS.ifNo X17.here hx rfl (hb hby at_146) rfl ((if0 _ _).trans (feq ((by decide : ¬ ((1 : Int32) = (0 : Int32))) : ¬ ((1 : Int32) = (0 : Int32)))).1) ?_
    refine XS.aload X17.here hx rfl (hb hby at_149) rfl rfl ?_
    refine st18 _ ?_
    refine XS.aload X18.here hx rfl (hb hby at_154) rfl rfl ?_
    refine st19 _ ?_
    refine XS.ifNo X19.here hx rfl (hb hby at_159) rfl ((if0 _ _).trans (feq ((by decide : ¬ ((1 : Int32) = (0 : Int32))) : ¬ ((1 : Int32) = (0 : Int32)))).1) ?_
    refine XS.iconst X19.here hx rfl (hb hby at_162) ?_
    refine XS.goto X19.here hx rfl (pc0 := 163) (pc' := 167) rfl (hb hby at_163) (by decide) (by decide) ?_
    refine XS.istore X19.here hx rfl (hb hby at_167) rfl (l' := #[.val (.int p1), .val (.int p2), .val (.int p3), .val (.int p4), .val (.ref b1_b9), .val .null, .val .null, .val (.ref b2), .val (.ref b4_b2), .val (.int (1 : Int32)), .val (.ref b12_b2), .val (.int (1 : Int32))]) rfl ?_
    refine XS.iload X19.here hx rfl (hb hby at_169) rfl ?_
    refine XS.ifNo X19.here hx rfl (hb hby at_171) rfl ((if0 _ _).trans (feq ((by decide : ¬ ((1 : Int32) = (0 : Int32))) : ¬ ((1 : Int32) = (0 : Int32)))).1) ?_
    show Steps p.tables e below (T19.setTop (mkF m 174 #[.val (.int p1), .val (.int p2), .val (.int p3), .val (.int p4), .val (.ref b1_b9), .val .null, .val .null, .val (.ref b2), .val (.ref b4_b2), .val (.int (1 : Int32)), .val (.ref b12_b2), .val (.int (1 : Int32))] [])) _
    refine XS.iload X19.here hx rfl (hb hby at_174) rfl ?_
    refine XS.ifNo X19.here hx rfl (hb hby at_176) rfl ((if0 _ _).trans (feq ((by decide : ¬ ((1 : Int32) = (0 : Int32))) : ¬ ((1 : Int32) = (0 : Int32)))).1) ?_
    refine XS.iconst X19.here hx rfl (hb hby at_179) ?_
    refine XS.goto X19.here hx rfl (pc0 := 180) (pc' := 184) rfl (hb hby at_180) (by decide) (by decide) ?_
    exact retN X19 hx (t := .boolean) hret (by simp) (hb hby at_184) hr
-- com/example/whenfree/whenfree/Dialog.<init>(Ljava/lang/String;Ljava/lang/String;Ljava/lang/String;)V
abbrev Rm24 : Room := { frames := 2, cells := 0, slots := 0, locals := 24 }
def Q24 (Z : State) (a1 : Addr) (a2 : Addr) (a3 : Addr) (h0 : Heap) (n0 : Nat) (v : Option Value) (h : Heap) (L : List Loc) : Prop := v = none ∧ Fr n0 L ∧ Keep h0 h [a1] ∧ Exa Z h a1 "com/example/whenfree/whenfree/Dialog" ∧ Fld Z h a1 "com/example/whenfree/whenfree/Dialog" "callId" "Ljava/lang/String;" .null ∧ Fld Z h a1 "com/example/whenfree/whenfree/Dialog" "uacTag" "Ljava/lang/String;" (.ref a2) ∧ Fld Z h a1 "com/example/whenfree/whenfree/Dialog" "uasTag" "Ljava/lang/String;" (.ref a3)
theorem ef24 (a1 : Addr) (a2 : Addr) (a3 : Addr) (m : MethodId) : entryFrame m #[(.ref a1), .null, (.ref a2), (.ref a3)] 4 = mkF m 0 #[.val (.ref a1), .val .null, .val (.ref a2), .val (.ref a3)] [] := by first | (simp [entryFrame, mkF, argsToLocals, Value.category]; done) | rfl
theorem rm24 (l : Launch) (Z : State) (a0 : Array Value) (hw : ∀ d ∈ tables_1, d.before a0 Z = true) (ws : List Jvm.Cond) (a1 : Addr) (a2 : Addr) (a3 : Addr) (h0 : Heap) (n0 : Nat) (Z0 : n0 ≤ h0.size) (F_callId_a1 : Fld Z h0 a1 "com/example/whenfree/whenfree/Dialog" "callId" "Ljava/lang/String;" .null) (E_a1 : Exa Z h0 a1 "com/example/whenfree/whenfree/Dialog") (g_a1 : n0 ≤ a1) (F_uacTag_a1 : Fld Z h0 a1 "com/example/whenfree/whenfree/Dialog" "uacTag" "Ljava/lang/String;" .null) (F_uasTag_a1 : Fld Z h0 a1 "com/example/whenfree/whenfree/Dialog" "uasTag" "Ljava/lang/String;" .null) :
    OwnMet l Z y_7 prog_10_method_1_code 4 none ws Rm24 #[(.ref a1), .null, (.ref a2), (.ref a3)] h0 (Q24 Z a1 a2 a3 h0 n0) := by
  refine own_body (plainFor_of_name pn_4) (ef24 a1 a2 a3) ?_
  intro p e s m below meth c s₁ hx hby hml hown hnm hret hZ X0 e0
  have N0 := Fr.nil n0
  obtain ⟨_, T4, L4, X4, hQ4, st4⟩ := own_special X0 hx hZ hown (y := y_6) (a := a1) (w_40 hw) (w_41 hw) (w_43 hw) (w_44 hw) (rm7 l Z a0 hw [] a1 h0 n0 Z0) e0 (Ls := #[.val (.ref a1), .val .null, .val (.ref a2), .val (.ref a3)]) (by rw [hml]; rfl) (argsL := []) (rest := []) (lenOf pd_6 rfl) (hb hby d8_1) (W := 0)
  obtain ⟨rfl, Nq4, e4⟩ := hQ4
  have N4 := Fr.app N0 Nq4
  obtain ⟨T5, h5, X5, e5, W5, st5⟩ := putF X4 hx hZ hown (host := "") (Or.inl (w_46 hw)) Via.refl e4 F_callId_a1 E_a1 (Or.inr ⟨(w_47 hw), rfl, hnm⟩) (w_35 hw) (ty := (.object "java/lang/String")) (by decide) rfl rfl (g := (mkF m 6 #[.val (.ref a1), .val .null, .val (.ref a2), .val (.ref a3)] [.null, (.ref a1)])) rfl rfl (hb hby d8_6)
  have s0 := (Keep.of_wr W5).1
  have N5 := Fr.snoc X5 N4 g_a1
  have Fw5 : Fld Z h5 a1 "com/example/whenfree/whenfree/Dialog" "callId" "Ljava/lang/String;" .null := F_callId_a1.same W5
  have Ex6 := (E_a1.wr W5)
  have Fl7 := (F_uacTag_a1.other W5 (Or.inr (slot_ne (Or.inr (w_49 hw)) (Or.inr (w_47 hw)) (by decide) (t := (.object "java/lang/String")) (t' := (.object "java/lang/String")) (by decide) (by decide))))
  obtain ⟨T8, h8, X8, e8, W8, st8⟩ := putF X5 hx hZ hown (host := "") (Or.inl (w_48 hw)) Via.refl e5 Fl7 Ex6 (Or.inr ⟨(w_49 hw), rfl, hnm⟩) (w_35 hw) (ty := (.object "java/lang/String")) (by decide) rfl rfl (g := (mkF m 11 #[.val (.ref a1), .val .null, .val (.ref a2), .val (.ref a3)] [(.ref a2), (.ref a1)])) rfl rfl (hb hby d8_11)
  have s1 := (Keep.of_wr W8).1
  have N8 := Fr.snoc X8 N5 g_a1
  have Fw8 : Fld Z h8 a1 "com/example/whenfree/whenfree/Dialog" "uacTag" "Ljava/lang/String;" (.ref a2) := Fl7.same W8
  have Ex9 := (Ex6.wr W8)
  have Fl10 := ((F_uasTag_a1.other W5 (Or.inr (slot_ne (Or.inr (w_51 hw)) (Or.inr (w_47 hw)) (by decide) (t := (.object "java/lang/String")) (t' := (.object "java/lang/String")) (by decide) (by decide)))).other W8 (Or.inr (slot_ne (Or.inr (w_51 hw)) (Or.inr (w_49 hw)) (by decide) (t := (.object "java/lang/String")) (t' := (.object "java/lang/String")) (by decide) (by decide))))
  obtain ⟨T11, h11, X11, e11, W11, st11⟩ := putF X8 hx hZ hown (host := "") (Or.inl (w_50 hw)) Via.refl e8 Fl10 Ex9 (Or.inr ⟨(w_51 hw), rfl, hnm⟩) (w_35 hw) (ty := (.object "java/lang/String")) (by decide) rfl rfl (g := (mkF m 16 #[.val (.ref a1), .val .null, .val (.ref a2), .val (.ref a3)] [(.ref a3), (.ref a1)])) rfl rfl (hb hby d8_16)
  have s2 := (Keep.of_wr W11).1
  have N11 := Fr.snoc X11 N8 g_a1
  have Fw11 : Fld Z h11 a1 "com/example/whenfree/whenfree/Dialog" "uasTag" "Ljava/lang/String;" (.ref a3) := Fl10.same W11
  have Ex12 := (Ex9.wr W11)
  have Fl13 := ((Fw5.other W8 (Or.inr (slot_ne (Or.inr (w_47 hw)) (Or.inr (w_49 hw)) (by decide) (t := (.object "java/lang/String")) (t' := (.object "java/lang/String")) (by decide) (by decide)))).other W11 (Or.inr (slot_ne (Or.inr (w_47 hw)) (Or.inr (w_51 hw)) (by decide) (t := (.object "java/lang/String")) (t' := (.object "java/lang/String")) (by decide) (by decide))))
  have Fl14 := (Fw8.other W11 (Or.inr (slot_ne (Or.inr (w_49 hw)) (Or.inr (w_51 hw)) (by decide) (t := (.object "java/lang/String")) (t' := (.object "java/lang/String")) (by decide) (by decide))))
  have Kp0 : Keep h0 h5 [a1] := (Keep.refl h0 [a1]).wr W5 (Or.inl (List.mem_of_getElem? (i := 0) rfl))
  have Kp1 : Keep h0 h8 [a1] := Kp0.wr W8 (Or.inl (List.mem_of_getElem? (i := 0) rfl))
  have Kp2 : Keep h0 h11 [a1] := Kp1.wr W11 (Or.inl (List.mem_of_getElem? (i := 0) rfl))
  refine ⟨T11, _, _, _, none, X11, (fun _ => rfl), by decide, by decide, ?_, fun fs hr => ?_⟩
  · show Q24 Z a1 a2 a3 h0 n0 _ T11.heap _
    rw [e11]
    exact ⟨rfl, N11, Kp2, Ex12, Fl13, Fl14, Fw11⟩
  · show Steps p.tables e below (s₁.setTop (mkF m 0 #[.val (.ref a1), .val .null, .val (.ref a2), .val (.ref a3)] [])) _
    refine XS.aloadN X0.here hx rfl (hb hby d8_0) rfl rfl ?_
    refine st4 _ ?_
    refine XS.aloadN X4.here hx rfl (hb hby d8_4) rfl rfl ?_
    refine XS.aloadN X4.here hx rfl (hb hby d8_5) rfl rfl ?_
    refine st5 _ ?_
    refine XS.aloadN X5.here hx rfl (hb hby d8_9) rfl rfl ?_
    refine XS.aloadN X5.here hx rfl (hb hby d8_10) rfl rfl ?_
    refine st8 _ ?_
    refine XS.aloadN X8.here hx rfl (hb hby d8_14) rfl rfl ?_
    refine XS.aloadN X8.here hx rfl (hb hby d8_15) rfl rfl ?_
    refine st11 _ ?_
    exact X11.returnOut hx hret (hb hby d8_19) hr
-- com/example/whenfree/whenfree/Dialog.reversed()Lcom/example/whenfree/whenfree/Dialog;
abbrev Rm25 : Room := { frames := 3, cells := 1, slots := 3, locals := 40 }
def Q25 (Z : State) (a1 : Addr) (a5 : Addr) (a8 : Addr) (h0 : Heap) (n0 : Nat) (v : Option Value) (h : Heap) (L : List Loc) : Prop := ∃ b2 : Addr, v = some (.ref b2) ∧ Fr n0 L ∧ Keep h0 h [] ∧ h0.size ≤ b2 ∧ Exa Z h b2 "com/example/whenfree/whenfree/Dialog" ∧ Fld Z h b2 "com/example/whenfree/whenfree/Dialog" "callId" "Ljava/lang/String;" .null ∧ Fld Z h b2 "com/example/whenfree/whenfree/Dialog" "uacTag" "Ljava/lang/String;" (.ref a5) ∧ Fld Z h b2 "com/example/whenfree/whenfree/Dialog" "uasTag" "Ljava/lang/String;" (.ref a8)
theorem ef25 (a1 : Addr) (m : MethodId) : entryFrame m #[(.ref a1)] 1 = mkF m 0 #[.val (.ref a1)] [] := by first | (simp [entryFrame, mkF, argsToLocals, Value.category]; done) | rfl
theorem rm25 (l : Launch) (Z : State) (a0 : Array Value) (hw : ∀ d ∈ tables_1, d.before a0 Z = true) (ws : List Jvm.Cond) (a1 : Addr) (a5 : Addr) (a8 : Addr) (h0 : Heap) (n0 : Nat) (Z0 : n0 ≤ h0.size) (F_callId_a1 : Fld Z h0 a1 "com/example/whenfree/whenfree/Dialog" "callId" "Ljava/lang/String;" .null) (F_uasTag_a1 : Fld Z h0 a1 "com/example/whenfree/whenfree/Dialog" "uasTag" "Ljava/lang/String;" (.ref a5)) (F_uacTag_a1 : Fld Z h0 a1 "com/example/whenfree/whenfree/Dialog" "uacTag" "Ljava/lang/String;" (.ref a8)) :
    OwnMet l Z y_8 prog_10_method_3_code 1 (some (.object "com/example/whenfree/whenfree/Dialog")) ws Rm25 #[(.ref a1)] h0 (Q25 Z a1 a5 a8 h0 n0) := by
  refine own_body (plainFor_of_name pn_4) (ef25 a1) ?_
  intro p e s m below meth c s₁ hx hby hml hown hnm hret hZ X0 e0
  have N0 := Fr.nil n0
  obtain ⟨T2, h2, X2, e2, E2, A2, D2, -, st2⟩ := newO X0 hx hZ hown (w_57 hw) (w_35 hw) (w_36 hw) e0 (g := (mkF m 0 #[.val (.ref a1)] [])) rfl (hb hby d10_0) (by decide) (by decide)
  obtain ⟨b2, g2⟩ : ∃ z, z = h0.size := ⟨_, rfl⟩
  rw [← g2] at A2 D2 st2
  have s0 := E2.1
  have Fn2_callId : Fld Z h2 b2 "com/example/whenfree/whenfree/Dialog" "callId" "Ljava/lang/String;" .null := D2 (Or.inr (w_47 hw)) (ty := (.object "java/lang/String")) (by decide)
  have Fn2_uacTag : Fld Z h2 b2 "com/example/whenfree/whenfree/Dialog" "uacTag" "Ljava/lang/String;" .null := D2 (Or.inr (w_49 hw)) (ty := (.object "java/lang/String")) (by decide)
  have Fn2_uasTag : Fld Z h2 b2 "com/example/whenfree/whenfree/Dialog" "uasTag" "Ljava/lang/String;" .null := D2 (Or.inr (w_51 hw)) (ty := (.object "java/lang/String")) (by decide)
  have Fl3 := (F_callId_a1.ext E2)
  obtain ⟨T4, X4, e4, st4⟩ := getF X2 hx hZ hown (host := "") (Or.inl (w_46 hw)) Via.refl e2 Fl3 (g := (mkF m 5 #[.val (.ref a1)] [(.ref a1), (.ref b2), (.ref b2)])) rfl rfl (hb hby d10_5)
  have Fl6 := (F_uasTag_a1.ext E2)
  obtain ⟨T7, X7, e7, st7⟩ := getF X4 hx hZ hown (host := "") (Or.inl (w_50 hw)) Via.refl e4 Fl6 (g := (mkF m 9 #[.val (.ref a1)] [(.ref a1), .null, (.ref b2), (.ref b2)])) rfl rfl (hb hby d10_9)
  have Fl9 := (F_uacTag_a1.ext E2)
  obtain ⟨T10, X10, e10, st10⟩ := getF X7 hx hZ hown (host := "") (Or.inl (w_48 hw)) Via.refl e7 Fl9 (g := (mkF m 13 #[.val (.ref a1)] [(.ref a1), (.ref a5), .null, (.ref b2), (.ref b2)])) rfl rfl (hb hby d10_13)
  have g_b2 : n0 ≤ b2 := Nat.le_trans Z0 (Nat.le_of_eq g2.symm)
  have z1 := Nat.le_trans Z0 s0
  obtain ⟨_, T11, L11, X11, hQ11, st11⟩ := own_special X10 hx hZ hown (y := y_7) (a := b2) (w_58 hw) (w_38 hw) (w_36 hw) (w_39 hw) (rm24 l Z a0 hw [] b2 a5 a8 h2 n0 z1 Fn2_callId A2 g_b2 Fn2_uacTag Fn2_uasTag) e10 (Ls := #[.val (.ref a1)]) (by rw [hml]; rfl) (argsL := [.null, (.ref a5), (.ref a8)]) (rest := [(.ref b2)]) (lenOf pd_7 rfl) (hb hby d10_16) (W := 1)
  obtain ⟨rfl, Nq11, K11, o11_0, o11_1, o11_2, o11_3⟩ := hQ11
  have N11 := Fr.app N0 Nq11
  have s1 := K11.1
  have sz_b2 : h0.size ≤ b2 := (Nat.le_of_eq g2.symm)
  have Kp0 : Keep h0 h2 [] := (Keep.refl h0 []).ext E2
  have Kp1 : Keep h0 T11.heap [] := Kp0.trans K11 (allS (Or.inr sz_b2) all0)
  refine ⟨T11, _, _, _, (some (.ref b2)), X11, nofun, by decide, by decide, ?_, fun fs hr => ?_⟩
  · show Q25 Z a1 a5 a8 h0 n0 _ T11.heap _
    exact ⟨b2, rfl, N11, Kp1, sz_b2, o11_0, o11_1, o11_2, o11_3⟩
  · show Steps p.tables e below (s₁.setTop (mkF m 0 #[.val (.ref a1)] [])) _
    refine st2 _ ?_
    refine XS.dup X2.here hx rfl (hb hby d10_3) rfl rfl ?_
    refine XS.aloadN X2.here hx rfl (hb hby d10_4) rfl rfl ?_
    refine st4 _ ?_
    refine XS.aloadN X4.here hx rfl (hb hby d10_8) rfl rfl ?_
    refine st7 _ ?_
    refine XS.aloadN X7.here hx rfl (hb hby d10_12) rfl rfl ?_
    refine st10 _ ?_
    refine st11 _ ?_
    exact retOut X11 hx hret rfl (Or.inr (Or.inr (Or.inr (Or.inr ⟨rfl, rfl, rfl⟩)))) (hb hby d10_19) hr
-- com/example/whenfree/whenfree/Dialog.callId()Ljava/lang/String;
abbrev Rm26 : Room := { frames := 0, cells := 0, slots := 0, locals := 0 }
def Q26 (Z : State) (a1 : Addr) (h0 : Heap) (n0 : Nat) (v : Option Value) (h : Heap) (L : List Loc) : Prop := v = some .null ∧ Fr n0 L ∧ h = h0
theorem ef26 (a1 : Addr) (m : MethodId) : entryFrame m #[(.ref a1)] 1 = mkF m 0 #[.val (.ref a1)] [] := by first | (simp [entryFrame, mkF, argsToLocals, Value.category]; done) | rfl
theorem rm26 (l : Launch) (Z : State) (a0 : Array Value) (hw : ∀ d ∈ tables_1, d.before a0 Z = true) (ws : List Jvm.Cond) (a1 : Addr) (h0 : Heap) (n0 : Nat) (Z0 : n0 ≤ h0.size) (F_callId_a1 : Fld Z h0 a1 "com/example/whenfree/whenfree/Dialog" "callId" "Ljava/lang/String;" .null) :
    OwnMet l Z y_9 prog_10_method_7_code 1 (some (.object "java/lang/String")) ws Rm26 #[(.ref a1)] h0 (Q26 Z a1 h0 n0) := by
  refine own_body (plainFor_of_name pn_4) (ef26 a1) ?_
  intro p e s m below meth c s₁ hx hby hml hown hnm hret hZ X0 e0
  have N0 := Fr.nil n0
  obtain ⟨T2, X2, e2, st2⟩ := getF X0 hx hZ hown (host := "") (Or.inl (w_46 hw)) Via.refl e0 F_callId_a1 (g := (mkF m 1 #[.val (.ref a1)] [(.ref a1)])) rfl rfl (hb hby d11_1)
  refine ⟨T2, _, _, _, (some .null), X2, nofun, by decide, by decide, ?_, fun fs hr => ?_⟩
  · show Q26 Z a1 h0 n0 _ T2.heap _
    rw [e2]
    exact ⟨rfl, N0, rfl⟩
  · show Steps p.tables e below (s₁.setTop (mkF m 0 #[.val (.ref a1)] [])) _
    refine XS.aloadN X0.here hx rfl (hb hby d11_0) rfl rfl ?_
    refine st2 _ ?_
    exact retOut X2 hx hret rfl (Or.inr (Or.inr (Or.inr (Or.inr ⟨rfl, rfl, rfl⟩)))) (hb hby d11_4) hr
theorem rm0_4 (l : Launch) (Z : State) (a0 : Array Value) (hw : ∀ d ∈ tables_1, d.before a0 Z = true) (ws : List Jvm.Cond) (p1 : Int32) (p2 : Int32) (p3 : Int32) (p4 : Int32) (cs : Int32) (h0 : Heap) (n0 : Nat) (Z0 : n0 ≤ h0.size) (S_cs : Sta Z Z.heap "java/lang/String" "COMPACT_STRINGS" "Z" (.int cs)) (c_cs : ¬ (cs = (0 : Int32))) (Od0 : Old Z n0 h0) (cc1 : ¬ ((p4 &&& (4 : Int32)) = (0 : Int32))) (cc2 : (p4 &&& (1 : Int32)) = (0 : Int32)) (cc3 : (p4 &&& (2 : Int32)) = (0 : Int32)) :
    OwnMet l Z x code maxLocals ret ws room_1 #[(.int p1), (.int p2), (.int p3), (.int p4)] h0 (Q0 n0) := by
  refine own_body (plainFor_of_name pn_2) (ef0 p1 p2 p3 p4) ?_
  intro p e s m below meth c s₁ hx hby hml hown hnm hret hZ X0 e0
  have N0 := Fr.nil n0
  obtain ⟨_, T1, L1, X1, hQ1, st1⟩ := own_callS X0 hx hZ hown (y := y_5) (w_0 hw) (w_1 hw) (w_2 hw) (w_3 hw) (rm6 l Z a0 hw [] p2 cs h0 n0 Z0 S_cs Od0 c_cs) e0 (Ls := #[.val (.int p1), .val (.int p2), .val (.int p3), .val (.int p4), .val .null, .unset, .unset, .unset, .unset, .unset, .unset, .unset]) (by rw [hml]; rfl) (argsL := [(.int p2)]) (rest := []) (lenOf pd_5 rfl) (hb hby at_27) (W := 0)
  obtain ⟨b1_b9, b1_b15_b11_b12_b2, k1_k15_k11_k12_k2, rfl, Nq1, K1, o1_0, o1_1, o1_2, o1_3, o1_4, o1_5, o1_6, o1_7⟩ := hQ1
  have N1 := Fr.app N0 Nq1
  have s0 := K1.1
  have Od1 : Old Z n0 T1.heap := Od0.keep K1 all0
  have z1 := Nat.le_trans Z0 s0
  obtain ⟨_, T2, L2, X2, hQ2, st2⟩ := own_callS X1 hx hZ hown (y := y_5) (w_0 hw) (w_1 hw) (w_2 hw) (w_3 hw) (rm6 l Z a0 hw [] p3 cs T1.heap n0 z1 S_cs Od1 c_cs) rfl (Ls := #[.val (.int p1), .val (.int p2), .val (.int p3), .val (.int p4), .val .null, .val (.ref b1_b9), .unset, .unset, .unset, .unset, .unset, .unset]) (by rw [hml]; rfl) (argsL := [(.int p3)]) (rest := []) (lenOf pd_5 rfl) (hb hby at_43) (W := 0)
  obtain ⟨b2_b9, b2_b15_b11_b12_b2, k2_k15_k11_k12_k2, rfl, Nq2, K2, o2_0, o2_1, o2_2, o2_3, o2_4, o2_5, o2_6, o2_7⟩ := hQ2
  have N2 := Fr.app N1 Nq2
  have s1 := K2.1
  obtain ⟨T3, h3, X3, e3, E3, A3, D3, -, st3⟩ := newO X2 hx hZ hown (w_34 hw) (w_35 hw) (w_36 hw) rfl (g := (mkF m 48 #[.val (.int p1), .val (.int p2), .val (.int p3), .val (.int p4), .val .null, .val (.ref b1_b9), .val (.ref b2_b9), .unset, .unset, .unset, .unset, .unset] [])) rfl (hb hby at_48) (by decide) (by decide)
  obtain ⟨b3, g3⟩ : ∃ z, z = T2.heap.size := ⟨_, rfl⟩
  rw [← g3] at A3 D3 st3
  have s2 := E3.1
  have Fn3_callId : Fld Z h3 b3 "com/example/whenfree/whenfree/Dialog" "callId" "Ljava/lang/String;" .null := D3 (Or.inr (w_47 hw)) (ty := (.object "java/lang/String")) (by decide)
  have Fn3_uacTag : Fld Z h3 b3 "com/example/whenfree/whenfree/Dialog" "uacTag" "Ljava/lang/String;" .null := D3 (Or.inr (w_49 hw)) (ty := (.object "java/lang/String")) (by decide)
  have Fn3_uasTag : Fld Z h3 b3 "com/example/whenfree/whenfree/Dialog" "uasTag" "Ljava/lang/String;" .null := D3 (Or.inr (w_51 hw)) (ty := (.object "java/lang/String")) (by decide)
  have z2 := Nat.le_trans Z0 (Nat.le_trans s0 s1)
  have g_b3 : n0 ≤ b3 := Nat.le_trans z2 (Nat.le_of_eq g3.symm)
  have z3 := Nat.le_trans Z0 (Nat.le_trans (Nat.le_trans s0 s1) s2)
  obtain ⟨_, T4, L4, X4, hQ4, st4⟩ := own_special X3 hx hZ hown (y := y_7) (a := b3) (w_37 hw) (w_38 hw) (w_36 hw) (w_39 hw) (rm24 l Z a0 hw [] b3 b1_b9 b2_b9 h3 n0 z3 Fn3_callId A3 g_b3 Fn3_uacTag Fn3_uasTag) e3 (Ls := #[.val (.int p1), .val (.int p2), .val (.int p3), .val (.int p4), .val .null, .val (.ref b1_b9), .val (.ref b2_b9), .unset, .unset, .unset, .unset, .unset]) (by rw [hml]; rfl) (argsL := [.null, (.ref b1_b9), (.ref b2_b9)]) (rest := [(.ref b3)]) (lenOf pd_7 rfl) (hb hby at_58) (W := 1)
  obtain ⟨rfl, Nq4, K4, o4_0, o4_1, o4_2, o4_3⟩ := hQ4
  have N4 := Fr.app N2 Nq4
  have s3 := K4.1
  have z4 := Nat.le_trans Z0 (Nat.le_trans (Nat.le_trans (Nat.le_trans s0 s1) s2) s3)
  obtain ⟨_, T5, L5, X5, hQ5, st5⟩ := own_virtual X4 hx hZ hown (y := y_8) (z := y_8) o4_0 (w_52 hw) (w_53 hw) (notFace_of_selects (args := #[]) (mvT hZ (w_55 hw))) (w_55 hw) (w_54 hw) (w_36 hw) (w_56 hw) (rm25 l Z a0 hw [] b3 b2_b9 b1_b9 T4.heap n0 z4 o4_1 o4_3 o4_2) rfl (Ls := #[.val (.int p1), .val (.int p2), .val (.int p3), .val (.int p4), .val .null, .val (.ref b1_b9), .val (.ref b2_b9), .val (.ref b3), .unset, .unset, .unset, .unset]) (by rw [hml]; rfl) (argsL := []) (rest := []) (lenOf pd_8 rfl) (hb hby at_65) (W := 0)
  obtain ⟨b5_b2, rfl, Nq5, K5, o5_0, o5_1, o5_2, o5_3, o5_4⟩ := hQ5
  have N5 := Fr.app N4 Nq5
  have s4 := K5.1
  have z5 := Nat.le_trans Z0 (Nat.le_trans (Nat.le_trans (Nat.le_trans (Nat.le_trans s0 s1) s2) s3) s4)
  obtain ⟨_, T6, L6, X6, hQ6, st6⟩ := own_virtual X5 hx hZ hown (y := y_9) (z := y_9) o5_1 (w_59 hw) (w_60 hw) (notFace_of_selects (args := #[]) (mvT hZ (w_62 hw))) (w_62 hw) (w_61 hw) (w_36 hw) (w_63 hw) (rm26 l Z a0 hw [] b5_b2 T5.heap n0 z5 o5_2) rfl (Ls := #[.val (.int p1), .val (.int p2), .val (.int p3), .val (.int p4), .val .null, .val (.ref b1_b9), .val (.ref b2_b9), .val (.ref b3), .val (.ref b5_b2), .unset, .unset, .unset]) (by rw [hml]; rfl) (argsL := []) (rest := []) (lenOf pd_9 rfl) (hb hby at_72) (W := 0)
  obtain ⟨rfl, Nq6, e6⟩ := hQ6
  have N6 := Fr.app N5 Nq6
  obtain ⟨_, T7, L7, X7, hQ7, st7⟩ := own_callS X6 hx hZ hown (y := y_11) (w_64 hw) (w_65 hw) (w_2 hw) (w_66 hw) (rm19 l Z a0 hw []  T5.heap n0 z5) e6 (Ls := #[.val (.int p1), .val (.int p2), .val (.int p3), .val (.int p4), .val .null, .val (.ref b1_b9), .val (.ref b2_b9), .val (.ref b3), .val (.ref b5_b2), .unset, .unset, .unset]) (by rw [hml]; rfl) (argsL := [.null, .null]) (rest := []) (lenOf pd_11 rfl) (hb hby at_77) (W := 0)
  obtain ⟨rfl, Nq7, e7⟩ := hQ7
  have N7 := Fr.app N6 Nq7
  obtain ⟨_, T8, L8, X8, hQ8, st8⟩ := own_virtual X7 hx hZ hown (y := y_12) (z := y_12) o5_1 (w_72 hw) (w_73 hw) (notFace_of_selects (args := #[]) (mvT hZ (w_75 hw))) (w_75 hw) (w_74 hw) (w_36 hw) (w_76 hw) (rm13 l Z a0 hw [] b5_b2 b2_b9 T5.heap n0 z5 o5_3) e7 (Ls := #[.val (.int p1), .val (.int p2), .val (.int p3), .val (.int p4), .val .null, .val (.ref b1_b9), .val (.ref b2_b9), .val (.ref b3), .val (.ref b5_b2), .unset, .unset, .unset]) (by rw [hml]; rfl) (argsL := []) (rest := []) (lenOf pd_9 rfl) (hb hby at_85) (W := 0)
  obtain ⟨rfl, Nq8, e8⟩ := hQ8
  have N8 := Fr.app N7 Nq8
  have Ex9 := (((o2_1.ext E3).keep K4).keep K5)
  obtain ⟨_, T10, L10, X10, hQ10, st10⟩ := own_callS X8 hx hZ hown (y := y_11) (w_64 hw) (w_65 hw) (w_2 hw) (w_66 hw) (rm12 l Z a0 hw [] b2_b9 T5.heap n0 z5 Ex9) e8 (Ls := #[.val (.int p1), .val (.int p2), .val (.int p3), .val (.int p4), .val .null, .val (.ref b1_b9), .val (.ref b2_b9), .val (.ref b3), .val (.ref b5_b2), .unset, .unset, .unset]) (by rw [hml]; rfl) (argsL := [(.ref b2_b9), (.ref b2_b9)]) (rest := []) (lenOf pd_11 rfl) (hb hby at_90) (W := 0)
  obtain ⟨rfl, Nq10, e10⟩ := hQ10
  have N10 := Fr.app N8 Nq10
  obtain ⟨_, T11, L11, X11, hQ11, st11⟩ := own_virtual X10 hx hZ hown (y := y_13) (z := y_13) o5_1 (w_77 hw) (w_78 hw) (notFace_of_selects (args := #[]) (mvT hZ (w_80 hw))) (w_80 hw) (w_79 hw) (w_36 hw) (w_81 hw) (rm14 l Z a0 hw [] b5_b2 b1_b9 T5.heap n0 z5 o5_4) e10 (Ls := #[.val (.int p1), .val (.int p2), .val (.int p3), .val (.int p4), .val .null, .val (.ref b1_b9), .val (.ref b2_b9), .val (.ref b3), .val (.ref b5_b2), .unset, .unset, .unset]) (by rw [hml]; rfl) (argsL := []) (rest := []) (lenOf pd_9 rfl) (hb hby at_98) (W := 0)
  obtain ⟨rfl, Nq11, e11⟩ := hQ11
  have N11 := Fr.app N10 Nq11
  have Ex12 := ((((o1_1.keep K2).ext E3).keep K4).keep K5)
  obtain ⟨_, T13, L13, X13, hQ13, st13⟩ := own_callS X11 hx hZ hown (y := y_11) (w_64 hw) (w_65 hw) (w_2 hw) (w_66 hw) (rm12 l Z a0 hw [] b1_b9 T5.heap n0 z5 Ex12) e11 (Ls := #[.val (.int p1), .val (.int p2), .val (.int p3), .val (.int p4), .val .null, .val (.ref b1_b9), .val (.ref b2_b9), .val (.ref b3), .val (.ref b5_b2), .unset, .unset, .unset]) (by rw [hml]; rfl) (argsL := [(.ref b1_b9), (.ref b1_b9)]) (rest := []) (lenOf pd_11 rfl) (hb hby at_103) (W := 0)
  obtain ⟨rfl, Nq13, e13⟩ := hQ13
  have N13 := Fr.app N11 Nq13
  obtain ⟨_, T14, L14, X14, hQ14, st14⟩ := own_virtual X13 hx hZ hown (y := y_8) (z := y_8) o5_1 (w_52 hw) (w_53 hw) (notFace_of_selects (args := #[]) (mvT hZ (w_55 hw))) (w_55 hw) (w_54 hw) (w_36 hw) (w_56 hw) (rm25 l Z a0 hw [] b5_b2 b1_b9 b2_b9 T5.heap n0 z5 o5_2 o5_4 o5_3) e13 (Ls := #[.val (.int p1), .val (.int p2), .val (.int p3), .val (.int p4), .val .null, .val (.ref b1_b9), .val (.ref b2_b9), .val (.ref b3), .val (.ref b5_b2), .val (.int (1 : Int32)), .unset, .unset]) (by rw [hml]; rfl) (argsL := []) (rest := []) (lenOf pd_8 rfl) (hb hby at_118) (W := 0)
  obtain ⟨b14_b2, rfl, Nq14, K14, o14_0, o14_1, o14_2, o14_3, o14_4⟩ := hQ14
  have N14 := Fr.app N13 Nq14
  have s5 := K14.1
  have z6 := Nat.le_trans Z0 (Nat.le_trans (Nat.le_trans (Nat.le_trans (Nat.le_trans (Nat.le_trans s0 s1) s2) s3) s4) s5)
  obtain ⟨_, T15, L15, X15, hQ15, st15⟩ := own_virtual X14 hx hZ hown (y := y_9) (z := y_9) o14_1 (w_59 hw) (w_60 hw) (notFace_of_selects (args := #[]) (mvT hZ (w_62 hw))) (w_62 hw) (w_61 hw) (w_36 hw) (w_63 hw) (rm26 l Z a0 hw [] b14_b2 T14.heap n0 z6 o14_2) rfl (Ls := #[.val (.int p1), .val (.int p2), .val (.int p3), .val (.int p4), .val .null, .val (.ref b1_b9), .val (.ref b2_b9), .val (.ref b3), .val (.ref b5_b2), .val (.int (1 : Int32)), .val (.ref b14_b2), .unset]) (by rw [hml]; rfl) (argsL := []) (rest := []) (lenOf pd_9 rfl) (hb hby at_125) (W := 0)
  obtain ⟨rfl, Nq15, e15⟩ := hQ15
  have N15 := Fr.app N14 Nq15
  obtain ⟨_, T16, L16, X16, hQ16, st16⟩ := own_callS X15 hx hZ hown (y := y_11) (w_64 hw) (w_65 hw) (w_2 hw) (w_66 hw) (rm19 l Z a0 hw []  T14.heap n0 z6) e15 (Ls := #[.val (.int p1), .val (.int p2), .val (.int p3), .val (.int p4), .val .null, .val (.ref b1_b9), .val (.ref b2_b9), .val (.ref b3), .val (.ref b5_b2), .val (.int (1 : Int32)), .val (.ref b14_b2), .unset]) (by rw [hml]; rfl) (argsL := [.null, .null]) (rest := []) (lenOf pd_11 rfl) (hb hby at_130) (W := 0)
  obtain ⟨rfl, Nq16, e16⟩ := hQ16
  have N16 := Fr.app N15 Nq16
  obtain ⟨_, T17, L17, X17, hQ17, st17⟩ := own_virtual X16 hx hZ hown (y := y_12) (z := y_12) o14_1 (w_72 hw) (w_73 hw) (notFace_of_selects (args := #[]) (mvT hZ (w_75 hw))) (w_75 hw) (w_74 hw) (w_36 hw) (w_76 hw) (rm13 l Z a0 hw [] b14_b2 b1_b9 T14.heap n0 z6 o14_3) e16 (Ls := #[.val (.int p1), .val (.int p2), .val (.int p3), .val (.int p4), .val .null, .val (.ref b1_b9), .val (.ref b2_b9), .val (.ref b3), .val (.ref b5_b2), .val (.int (1 : Int32)), .val (.ref b14_b2), .unset]) (by rw [hml]; rfl) (argsL := []) (rest := []) (lenOf pd_9 rfl) (hb hby at_138) (W := 0)
  obtain ⟨rfl, Nq17, e17⟩ := hQ17
  have N17 := Fr.app N16 Nq17
  have Ex18 := (Ex12.keep K14)
  obtain ⟨_, T19, L19, X19, hQ19, st19⟩ := own_callS X17 hx hZ hown (y := y_11) (w_64 hw) (w_65 hw) (w_2 hw) (w_66 hw) (rm12 l Z a0 hw [] b1_b9 T14.heap n0 z6 Ex18) e17 (Ls := #[.val (.int p1), .val (.int p2), .val (.int p3), .val (.int p4), .val .null, .val (.ref b1_b9), .val (.ref b2_b9), .val (.ref b3), .val (.ref b5_b2), .val (.int (1 : Int32)), .val (.ref b14_b2), .unset]) (by rw [hml]; rfl) (argsL := [(.ref b1_b9), (.ref b1_b9)]) (rest := []) (lenOf pd_11 rfl) (hb hby at_143) (W := 0)
  obtain ⟨rfl, Nq19, e19⟩ := hQ19
  have N19 := Fr.app N17 Nq19
  obtain ⟨_, T20, L20, X20, hQ20, st20⟩ := own_virtual X19 hx hZ hown (y := y_13) (z := y_13) o14_1 (w_77 hw) (w_78 hw) (notFace_of_selects (args := #[]) (mvT hZ (w_80 hw))) (w_80 hw) (w_79 hw) (w_36 hw) (w_81 hw) (rm14 l Z a0 hw [] b14_b2 b2_b9 T14.heap n0 z6 o14_4) e19 (Ls := #[.val (.int p1), .val (.int p2), .val (.int p3), .val (.int p4), .val .null, .val (.ref b1_b9), .val (.ref b2_b9), .val (.ref b3), .val (.ref b5_b2), .val (.int (1 : Int32)), .val (.ref b14_b2), .unset]) (by rw [hml]; rfl) (argsL := []) (rest := []) (lenOf pd_9 rfl) (hb hby at_151) (W := 0)
  obtain ⟨rfl, Nq20, e20⟩ := hQ20
  have N20 := Fr.app N19 Nq20
  have Ex21 := (Ex9.keep K14)
  obtain ⟨_, T22, L22, X22, hQ22, st22⟩ := own_callS X20 hx hZ hown (y := y_11) (w_64 hw) (w_65 hw) (w_2 hw) (w_66 hw) (rm12 l Z a0 hw [] b2_b9 T14.heap n0 z6 Ex21) e20 (Ls := #[.val (.int p1), .val (.int p2), .val (.int p3), .val (.int p4), .val .null, .val (.ref b1_b9), .val (.ref b2_b9), .val (.ref b3), .val (.ref b5_b2), .val (.int (1 : Int32)), .val (.ref b14_b2), .unset]) (by rw [hml]; rfl) (argsL := [(.ref b2_b9), (.ref b2_b9)]) (rest := []) (lenOf pd_11 rfl) (hb hby at_156) (W := 0)
  obtain ⟨rfl, Nq22, e22⟩ := hQ22
  have N22 := Fr.app N20 Nq22
  refine ⟨T22, _, _, _, (some (.int (1 : Int32))), X22, nofun, by decide, by decide, ?_, fun fs hr => ?_⟩
  · show Q0 n0 _ T22.heap _
    rw [e22]
    exact ⟨rfl, N22⟩
  · show Steps p.tables e below (s₁.setTop (mkF m 0 #[.val (.int p1), .val (.int p2), .val (.int p3), .val (.int p4), .unset, .unset, .unset, .unset, .unset, .unset, .unset, .unset] [])) _
    refine XS.iloadN X0.here hx rfl (hb hby at_0) rfl ?_
    refine XS.iconst X0.here hx rfl (hb hby at_1) ?_
    refine XS.iand X0.here hx rfl (hb hby at_2) rfl ?_
    refine XS.ifNo X0.here hx rfl (hb hby at_3) rfl ((if0 _ _).trans (feq (cc1 : ¬ ((p4 &&& (4 : Int32)) = (0 : Int32)))).1) ?_
    refine XS.aconstNull X0.here hx rfl (hb hby at_6) ?_
    refine XS.goto X0.here hx rfl (pc0 := 7) (pc' := 14) rfl (hb hby at_7) (by decide) (by decide) ?_
    refine XS.astore X0.here hx rfl (hb hby at_14) rfl rfl (l' := #[.val (.int p1), .val (.int p2), .val (.int p3), .val (.int p4), .val .null, .unset, .unset, .unset, .unset, .unset, .unset, .unset]) rfl ?_
    refine XS.iloadN X0.here hx rfl (hb hby at_16) rfl ?_
    refine XS.iconst X0.here hx rfl (hb hby at_17) ?_
    refine XS.iand X0.here hx rfl (hb hby at_18) rfl ?_
    refine XS.ifYes X0.here hx rfl (pc0 := 19) (pc' := 26) rfl (hb hby at_19) rfl ((if0 _ _).trans (teq (cc2 : (p4 &&& (1 : Int32)) = (0 : Int32))).1) (by decide) (by decide) ?_
    refine XS.iloadN X0.here hx rfl (hb hby at_26) rfl ?_
    show Steps p.tables e below (s₁.setTop (mkF m 27 #[.val (.int p1), .val (.int p2), .val (.int p3), .val (.int p4), .val .null, .unset, .unset, .unset, .unset, .unset, .unset, .unset] [(.int p2)])) _
    refine st1 _ ?_
    refine XS.astore X1.here hx rfl (hb hby at_30) rfl rfl (l' := #[.val (.int p1), .val (.int p2), .val (.int p3), .val (.int p4), .val .null, .val (.ref b1_b9), .unset, .unset, .unset, .unset, .unset, .unset]) rfl ?_
    refine XS.iloadN X1.here hx rfl (hb hby at_32) rfl ?_
    refine XS.iconst X1.here hx rfl (hb hby at_33) ?_
    refine XS.iand X1.here hx rfl (hb hby at_34) rfl ?_
    refine XS.ifYes X1.here hx rfl (pc0 := 35) (pc' := 42) rfl (hb hby at_35) rfl ((if0 _ _).trans (teq (cc3 : (p4 &&& (2 : Int32)) = (0 : Int32))).1) (by decide) (by decide) ?_
    refine XS.iloadN X1.here hx rfl (hb hby at_42) rfl ?_
    refine st2 _ ?_
    refine XS.astore X2.here hx rfl (hb hby at_46) rfl rfl (l' := #[.val (.int p1), .val (.int p2), .val (.int p3), .val (.int p4), .val .null, .val (.ref b1_b9), .val (.ref b2_b9), .unset, .unset, .unset, .unset, .unset]) rfl ?_
    refine st3 _ ?_
    refine XS.dup X3.here hx rfl (hb hby at_51) rfl rfl ?_
    refine XS.aload X3.here hx rfl (hb hby at_52) rfl rfl ?_
    show Steps p.tables e below (T3.setTop (mkF m 54 #[.val (.int p1), .val (.int p2), .val (.int p3), .val (.int p4), .val .null, .val (.ref b1_b9), .val (.ref b2_b9), .unset, .unset, .unset, .unset, .unset] [.null, (.ref b3), (.ref b3)])) _
    refine XS.aload X3.here hx rfl (hb hby at_54) rfl rfl ?_
    refine XS.aload X3.here hx rfl (hb hby at_56) rfl rfl ?_
    refine st4 _ ?_
    refine XS.astore X4.here hx rfl (hb hby at_61) rfl rfl (l' := #[.val (.int p1), .val (.int p2), .val (.int p3), .val (.int p4), .val .null, .val (.ref b1_b9), .val (.ref b2_b9), .val (.ref b3), .unset, .unset, .unset, .unset]) rfl ?_
    refine XS.aload X4.here hx rfl (hb hby at_63) rfl rfl ?_
    refine st5 _ ?_
    refine XS.astore X5.here hx rfl (hb hby at_68) rfl rfl (l' := #[.val (.int p1), .val (.int p2), .val (.int p3), .val (.int p4), .val .null, .val (.ref b1_b9), .val (.ref b2_b9), .val (.ref b3), .val (.ref b5_b2), .unset, .unset, .unset]) rfl ?_
    refine XS.aload X5.here hx rfl (hb hby at_70) rfl rfl ?_
    refine st6 _ ?_
    refine XS.aload X6.here hx rfl (hb hby at_75) rfl rfl ?_
    refine st7 _ ?_
    refine XS.ifNo X7.here hx rfl (hb hby at_80) rfl ((if0 _ _).trans (feq ((by decide : ¬ ((1 : Int32) = (0 : Int32))) : ¬ ((1 : Int32) = (0 : Int32)))).1) ?_
    show Steps p.tables e below (T7.setTop (mkF m 83 #[.val (.int p1), .val (.int p2), .val (.int p3), .val (.int p4), .val .null, .val (.ref b1_b9), .val (.ref b2_b9), .val (.ref b3), .val (.ref b5_b2), .unset, .unset, .unset] [])) _
    refine XS.aload X7.here hx rfl (hb hby at_83) rfl rfl ?_
    refine st8 _ ?_
    refine XS.aload X8.here hx rfl (hb hby at_88) rfl rfl ?_
    refine st10 _ ?_
    refine XS.ifNo X10.here hx rfl (hb hby at_93) rfl ((if0 _ _).trans (feq ((by decide : ¬ ((1 : Int32) = (0 : Int32))) : ¬ ((1 : Int32) = (0 : Int32)))).1) ?_
    refine XS.aload X10.here hx rfl (hb hby at_96) rfl rfl ?_
    refine st11 _ ?_
    refine XS.aload X11.here hx rfl (hb hby at_101) rfl rfl ?_
    refine st13 _ ?_
    refine XS.ifNo X13.here hx rfl (hb hby at_106) rfl ((if0 _ _).trans (feq ((by decide : ¬ ((1 : Int32) = (0 : Int32))) : ¬ ((1 : Int32) = (0 : Int32)))).1) ?_
    refine XS.iconst X13.here hx rfl (hb hby at_109) ?_
    refine XS.goto X13.here hx rfl (pc0 := 110) (pc' := 114) rfl (hb hby at_110) (by decide) (by decide) ?_
    show Steps p.tables e below (T13.setTop (mkF m 114 #[.val (.int p1), .val (.int p2), .val (.int p3), .val (.int p4), .val .null, .val (.ref b1_b9), .val (.ref b2_b9), .val (.ref b3), .val (.ref b5_b2), .unset, .unset, .unset] [(.int (1 : Int32))])) _
    refine XS.istore X13.here hx rfl (hb hby at_114) rfl (l' := #[.val (.int p1), .val (.int p2), .val (.int p3), .val (.int p4), .val .null, .val (.ref b1_b9), .val (.ref b2_b9), .val (.ref b3), .val (.ref b5_b2), .val (.int (1 : Int32)), .unset, .unset]) rfl ?_
    refine XS.aload X13.here hx rfl (hb hby at_116) rfl rfl ?_
    refine st14 _ ?_
    refine XS.astore X14.here hx rfl (hb hby at_121) rfl rfl (l' := #[.val (.int p1), .val (.int p2), .val (.int p3), .val (.int p4), .val .null, .val (.ref b1_b9), .val (.ref b2_b9), .val (.ref b3), .val (.ref b5_b2), .val (.int (1 : Int32)), .val (.ref b14_b2), .unset]) rfl ?_
    refine XS.aload X14.here hx rfl (hb hby at_123) rfl rfl ?_
    refine st15 _ ?_
    refine XS.aload X15.here hx rfl (hb hby at_128) rfl rfl ?_
    refine st16 _ ?_
    refine XS.ifNo X16.here hx rfl (hb hby at_133) rfl ((if0 _ _).trans (feq ((by decide : ¬ ((1 : Int32) = (0 : Int32))) : ¬ ((1 : Int32) = (0 : Int32)))).1) ?_
    refine XS.aload X16.here hx rfl (hb hby at_136) rfl rfl ?_
    refine st17 _ ?_
    refine XS.aload X17.here hx rfl (hb hby at_141) rfl rfl ?_
    show Steps p.tables e below (T17.setTop (mkF m 143 #[.val (.int p1), .val (.int p2), .val (.int p3), .val (.int p4), .val .null, .val (.ref b1_b9), .val (.ref b2_b9), .val (.ref b3), .val (.ref b5_b2), .val (.int (1 : Int32)), .val (.ref b14_b2), .unset] [(.ref b1_b9), (.ref b1_b9)])) _
    refine st19 _ ?_
    refine XS.ifNo X19.here hx rfl (hb hby at_146) rfl ((if0 _ _).trans (feq ((by decide : ¬ ((1 : Int32) = (0 : Int32))) : ¬ ((1 : Int32) = (0 : Int32)))).1) ?_
    refine XS.aload X19.here hx rfl (hb hby at_149) rfl rfl ?_
    refine st20 _ ?_
    refine XS.aload X20.here hx rfl (hb hby at_154) rfl rfl ?_
    refine st22 _ ?_
    refine XS.ifNo X22.here hx rfl (hb hby at_159) rfl ((if0 _ _).trans (feq ((by decide : ¬ ((1 : Int32) = (0 : Int32))) : ¬ ((1 : Int32) = (0 : Int32)))).1) ?_
    refine XS.iconst X22.here hx rfl (hb hby at_162) ?_
    refine XS.goto X22.here hx rfl (pc0 := 163) (pc' := 167) rfl (hb hby at_163) (by decide) (by decide) ?_
    refine XS.istore X22.here hx rfl (hb hby at_167) rfl (l' := #[.val (.int p1), .val (.int p2), .val (.int p3), .val (.int p4), .val .null, .val (.ref b1_b9), .val (.ref b2_b9), .val (.ref b3), .val (.ref b5_b2), .val (.int (1 : Int32)), .val (.ref b14_b2), .val (.int (1 : Int32))]) rfl ?_
    refine XS.iload X22.here hx rfl (hb hby at_169) rfl ?_
    refine XS.ifNo X22.here hx rfl (hb hby at_171) rfl ((if0 _ _).trans (feq ((by decide : ¬ ((1 : Int32) = (0 : Int32))) : ¬ ((1 : Int32) = (0 : Int32)))).1) ?_
    show Steps p.tables e below (T22.setTop (mkF m 174 #[.val (.int p1), .val (.int p2), .val (.int p3), .val (.int p4), .val .null, .val (.ref b1_b9), .val (.ref b2_b9), .val (.ref b3), .val (.ref b5_b2), .val (.int (1 : Int32)), .val (.ref b14_b2), .val (.int (1 : Int32))] [])) _
    refine XS.iload X22.here hx rfl (hb hby at_174) rfl ?_
    refine XS.ifNo X22.here hx rfl (hb hby at_176) rfl ((if0 _ _).trans (feq ((by decide : ¬ ((1 : Int32) = (0 : Int32))) : ¬ ((1 : Int32) = (0 : Int32)))).1) ?_
    refine XS.iconst X22.here hx rfl (hb hby at_179) ?_
    refine XS.goto X22.here hx rfl (pc0 := 180) (pc' := 184) rfl (hb hby at_180) (by decide) (by decide) ?_
    exact retN X22 hx (t := .boolean) hret (by simp) (hb hby at_184) hr
-- com/example/whenfree/whenfree/Dialog.<init>(Ljava/lang/String;Ljava/lang/String;Ljava/lang/String;)V
abbrev Rm27 : Room := { frames := 2, cells := 0, slots := 0, locals := 24 }
def Q27 (Z : State) (a1 : Addr) (a2 : Addr) (h0 : Heap) (n0 : Nat) (v : Option Value) (h : Heap) (L : List Loc) : Prop := v = none ∧ Fr n0 L ∧ Keep h0 h [a1] ∧ Exa Z h a1 "com/example/whenfree/whenfree/Dialog" ∧ Fld Z h a1 "com/example/whenfree/whenfree/Dialog" "callId" "Ljava/lang/String;" .null ∧ Fld Z h a1 "com/example/whenfree/whenfree/Dialog" "uacTag" "Ljava/lang/String;" (.ref a2) ∧ Fld Z h a1 "com/example/whenfree/whenfree/Dialog" "uasTag" "Ljava/lang/String;" .null
theorem ef27 (a1 : Addr) (a2 : Addr) (m : MethodId) : entryFrame m #[(.ref a1), .null, (.ref a2), .null] 4 = mkF m 0 #[.val (.ref a1), .val .null, .val (.ref a2), .val .null] [] := by first | (simp [entryFrame, mkF, argsToLocals, Value.category]; done) | rfl
theorem rm27 (l : Launch) (Z : State) (a0 : Array Value) (hw : ∀ d ∈ tables_1, d.before a0 Z = true) (ws : List Jvm.Cond) (a1 : Addr) (a2 : Addr) (h0 : Heap) (n0 : Nat) (Z0 : n0 ≤ h0.size) (F_callId_a1 : Fld Z h0 a1 "com/example/whenfree/whenfree/Dialog" "callId" "Ljava/lang/String;" .null) (E_a1 : Exa Z h0 a1 "com/example/whenfree/whenfree/Dialog") (g_a1 : n0 ≤ a1) (F_uacTag_a1 : Fld Z h0 a1 "com/example/whenfree/whenfree/Dialog" "uacTag" "Ljava/lang/String;" .null) (F_uasTag_a1 : Fld Z h0 a1 "com/example/whenfree/whenfree/Dialog" "uasTag" "Ljava/lang/String;" .null) :
    OwnMet l Z y_7 prog_10_method_1_code 4 none ws Rm27 #[(.ref a1), .null, (.ref a2), .null] h0 (Q27 Z a1 a2 h0 n0) := by
  refine own_body (plainFor_of_name pn_4) (ef27 a1 a2) ?_
  intro p e s m below meth c s₁ hx hby hml hown hnm hret hZ X0 e0
  have N0 := Fr.nil n0
  obtain ⟨_, T3, L3, X3, hQ3, st3⟩ := own_special X0 hx hZ hown (y := y_6) (a := a1) (w_40 hw) (w_41 hw) (w_43 hw) (w_44 hw) (rm7 l Z a0 hw [] a1 h0 n0 Z0) e0 (Ls := #[.val (.ref a1), .val .null, .val (.ref a2), .val .null]) (by rw [hml]; rfl) (argsL := []) (rest := []) (lenOf pd_6 rfl) (hb hby d8_1) (W := 0)
  obtain ⟨rfl, Nq3, e3⟩ := hQ3
  have N3 := Fr.app N0 Nq3
  obtain ⟨T4, h4, X4, e4, W4, st4⟩ := putF X3 hx hZ hown (host := "") (Or.inl (w_46 hw)) Via.refl e3 F_callId_a1 E_a1 (Or.inr ⟨(w_47 hw), rfl, hnm⟩) (w_35 hw) (ty := (.object "java/lang/String")) (by decide) rfl rfl (g := (mkF m 6 #[.val (.ref a1), .val .null, .val (.ref a2), .val .null] [.null, (.ref a1)])) rfl rfl (hb hby d8_6)
  have s0 := (Keep.of_wr W4).1
  have N4 := Fr.snoc X4 N3 g_a1
  have Fw4 : Fld Z h4 a1 "com/example/whenfree/whenfree/Dialog" "callId" "Ljava/lang/String;" .null := F_callId_a1.same W4
  have Ex5 := (E_a1.wr W4)
  have Fl6 := (F_uacTag_a1.other W4 (Or.inr (slot_ne (Or.inr (w_49 hw)) (Or.inr (w_47 hw)) (by decide) (t := (.object "java/lang/String")) (t' := (.object "java/lang/String")) (by decide) (by decide))))
  obtain ⟨T7, h7, X7, e7, W7, st7⟩ := putF X4 hx hZ hown (host := "") (Or.inl (w_48 hw)) Via.refl e4 Fl6 Ex5 (Or.inr ⟨(w_49 hw), rfl, hnm⟩) (w_35 hw) (ty := (.object "java/lang/String")) (by decide) rfl rfl (g := (mkF m 11 #[.val (.ref a1), .val .null, .val (.ref a2), .val .null] [(.ref a2), (.ref a1)])) rfl rfl (hb hby d8_11)
  have s1 := (Keep.of_wr W7).1
  have N7 := Fr.snoc X7 N4 g_a1
  have Fw7 : Fld Z h7 a1 "com/example/whenfree/whenfree/Dialog" "uacTag" "Ljava/lang/String;" (.ref a2) := Fl6.same W7
  have Ex8 := (Ex5.wr W7)
  have Fl9 := ((F_uasTag_a1.other W4 (Or.inr (slot_ne (Or.inr (w_51 hw)) (Or.inr (w_47 hw)) (by decide) (t := (.object "java/lang/String")) (t' := (.object "java/lang/String")) (by decide) (by decide)))).other W7 (Or.inr (slot_ne (Or.inr (w_51 hw)) (Or.inr (w_49 hw)) (by decide) (t := (.object "java/lang/String")) (t' := (.object "java/lang/String")) (by decide) (by decide))))
  obtain ⟨T10, h10, X10, e10, W10, st10⟩ := putF X7 hx hZ hown (host := "") (Or.inl (w_50 hw)) Via.refl e7 Fl9 Ex8 (Or.inr ⟨(w_51 hw), rfl, hnm⟩) (w_35 hw) (ty := (.object "java/lang/String")) (by decide) rfl rfl (g := (mkF m 16 #[.val (.ref a1), .val .null, .val (.ref a2), .val .null] [.null, (.ref a1)])) rfl rfl (hb hby d8_16)
  have s2 := (Keep.of_wr W10).1
  have N10 := Fr.snoc X10 N7 g_a1
  have Fw10 : Fld Z h10 a1 "com/example/whenfree/whenfree/Dialog" "uasTag" "Ljava/lang/String;" .null := Fl9.same W10
  have Ex11 := (Ex8.wr W10)
  have Fl12 := ((Fw4.other W7 (Or.inr (slot_ne (Or.inr (w_47 hw)) (Or.inr (w_49 hw)) (by decide) (t := (.object "java/lang/String")) (t' := (.object "java/lang/String")) (by decide) (by decide)))).other W10 (Or.inr (slot_ne (Or.inr (w_47 hw)) (Or.inr (w_51 hw)) (by decide) (t := (.object "java/lang/String")) (t' := (.object "java/lang/String")) (by decide) (by decide))))
  have Fl13 := (Fw7.other W10 (Or.inr (slot_ne (Or.inr (w_49 hw)) (Or.inr (w_51 hw)) (by decide) (t := (.object "java/lang/String")) (t' := (.object "java/lang/String")) (by decide) (by decide))))
  have Kp0 : Keep h0 h4 [a1] := (Keep.refl h0 [a1]).wr W4 (Or.inl (List.mem_of_getElem? (i := 0) rfl))
  have Kp1 : Keep h0 h7 [a1] := Kp0.wr W7 (Or.inl (List.mem_of_getElem? (i := 0) rfl))
  have Kp2 : Keep h0 h10 [a1] := Kp1.wr W10 (Or.inl (List.mem_of_getElem? (i := 0) rfl))
  refine ⟨T10, _, _, _, none, X10, (fun _ => rfl), by decide, by decide, ?_, fun fs hr => ?_⟩
  · show Q27 Z a1 a2 h0 n0 _ T10.heap _
    rw [e10]
    exact ⟨rfl, N10, Kp2, Ex11, Fl12, Fl13, Fw10⟩
  · show Steps p.tables e below (s₁.setTop (mkF m 0 #[.val (.ref a1), .val .null, .val (.ref a2), .val .null] [])) _
    refine XS.aloadN X0.here hx rfl (hb hby d8_0) rfl rfl ?_
    refine st3 _ ?_
    refine XS.aloadN X3.here hx rfl (hb hby d8_4) rfl rfl ?_
    refine XS.aloadN X3.here hx rfl (hb hby d8_5) rfl rfl ?_
    refine st4 _ ?_
    refine XS.aloadN X4.here hx rfl (hb hby d8_9) rfl rfl ?_
    refine XS.aloadN X4.here hx rfl (hb hby d8_10) rfl rfl ?_
    refine st7 _ ?_
    refine XS.aloadN X7.here hx rfl (hb hby d8_14) rfl rfl ?_
    refine XS.aloadN X7.here hx rfl (hb hby d8_15) rfl rfl ?_
    refine st10 _ ?_
    exact X10.returnOut hx hret (hb hby d8_19) hr
-- com/example/whenfree/whenfree/Dialog.<init>(Ljava/lang/String;Ljava/lang/String;Ljava/lang/String;)V
abbrev Rm28 : Room := { frames := 2, cells := 0, slots := 0, locals := 24 }
def Q28 (Z : State) (a1 : Addr) (a2 : Addr) (h0 : Heap) (n0 : Nat) (v : Option Value) (h : Heap) (L : List Loc) : Prop := v = none ∧ Fr n0 L ∧ Keep h0 h [a1] ∧ Exa Z h a1 "com/example/whenfree/whenfree/Dialog" ∧ Fld Z h a1 "com/example/whenfree/whenfree/Dialog" "callId" "Ljava/lang/String;" .null ∧ Fld Z h a1 "com/example/whenfree/whenfree/Dialog" "uacTag" "Ljava/lang/String;" .null ∧ Fld Z h a1 "com/example/whenfree/whenfree/Dialog" "uasTag" "Ljava/lang/String;" (.ref a2)
theorem ef28 (a1 : Addr) (a2 : Addr) (m : MethodId) : entryFrame m #[(.ref a1), .null, .null, (.ref a2)] 4 = mkF m 0 #[.val (.ref a1), .val .null, .val .null, .val (.ref a2)] [] := by first | (simp [entryFrame, mkF, argsToLocals, Value.category]; done) | rfl
theorem rm28 (l : Launch) (Z : State) (a0 : Array Value) (hw : ∀ d ∈ tables_1, d.before a0 Z = true) (ws : List Jvm.Cond) (a1 : Addr) (a2 : Addr) (h0 : Heap) (n0 : Nat) (Z0 : n0 ≤ h0.size) (F_callId_a1 : Fld Z h0 a1 "com/example/whenfree/whenfree/Dialog" "callId" "Ljava/lang/String;" .null) (E_a1 : Exa Z h0 a1 "com/example/whenfree/whenfree/Dialog") (g_a1 : n0 ≤ a1) (F_uacTag_a1 : Fld Z h0 a1 "com/example/whenfree/whenfree/Dialog" "uacTag" "Ljava/lang/String;" .null) (F_uasTag_a1 : Fld Z h0 a1 "com/example/whenfree/whenfree/Dialog" "uasTag" "Ljava/lang/String;" .null) :
    OwnMet l Z y_7 prog_10_method_1_code 4 none ws Rm28 #[(.ref a1), .null, .null, (.ref a2)] h0 (Q28 Z a1 a2 h0 n0) := by
  refine own_body (plainFor_of_name pn_4) (ef28 a1 a2) ?_
  intro p e s m below meth c s₁ hx hby hml hown hnm hret hZ X0 e0
  have N0 := Fr.nil n0
  obtain ⟨_, T3, L3, X3, hQ3, st3⟩ := own_special X0 hx hZ hown (y := y_6) (a := a1) (w_40 hw) (w_41 hw) (w_43 hw) (w_44 hw) (rm7 l Z a0 hw [] a1 h0 n0 Z0) e0 (Ls := #[.val (.ref a1), .val .null, .val .null, .val (.ref a2)]) (by rw [hml]; rfl) (argsL := []) (rest := []) (lenOf pd_6 rfl) (hb hby d8_1) (W := 0)
  obtain ⟨rfl, Nq3, e3⟩ := hQ3
  have N3 := Fr.app N0 Nq3
  obtain ⟨T4, h4, X4, e4, W4, st4⟩ := putF X3 hx hZ hown (host := "") (Or.inl (w_46 hw)) Via.refl e3 F_callId_a1 E_a1 (Or.inr ⟨(w_47 hw), rfl, hnm⟩) (w_35 hw) (ty := (.object "java/lang/String")) (by decide) rfl rfl (g := (mkF m 6 #[.val (.ref a1), .val .null, .val .null, .val (.ref a2)] [.null, (.ref a1)])) rfl rfl (hb hby d8_6)
  have s0 := (Keep.of_wr W4).1
  have N4 := Fr.snoc X4 N3 g_a1
  have Fw4 : Fld Z h4 a1 "com/example/whenfree/whenfree/Dialog" "callId" "Ljava/lang/String;" .null := F_callId_a1.same W4
  have Ex5 := (E_a1.wr W4)
  have Fl6 := (F_uacTag_a1.other W4 (Or.inr (slot_ne (Or.inr (w_49 hw)) (Or.inr (w_47 hw)) (by decide) (t := (.object "java/lang/String")) (t' := (.object "java/lang/String")) (by decide) (by decide))))
  obtain ⟨T7, h7, X7, e7, W7, st7⟩ := putF X4 hx hZ hown (host := "") (Or.inl (w_48 hw)) Via.refl e4 Fl6 Ex5 (Or.inr ⟨(w_49 hw), rfl, hnm⟩) (w_35 hw) (ty := (.object "java/lang/String")) (by decide) rfl rfl (g := (mkF m 11 #[.val (.ref a1), .val .null, .val .null, .val (.ref a2)] [.null, (.ref a1)])) rfl rfl (hb hby d8_11)
  have s1 := (Keep.of_wr W7).1
  have N7 := Fr.snoc X7 N4 g_a1
  have Fw7 : Fld Z h7 a1 "com/example/whenfree/whenfree/Dialog" "uacTag" "Ljava/lang/String;" .null := Fl6.same W7
  have Ex8 := (Ex5.wr W7)
  have Fl9 := ((F_uasTag_a1.other W4 (Or.inr (slot_ne (Or.inr (w_51 hw)) (Or.inr (w_47 hw)) (by decide) (t := (.object "java/lang/String")) (t' := (.object "java/lang/String")) (by decide) (by decide)))).other W7 (Or.inr (slot_ne (Or.inr (w_51 hw)) (Or.inr (w_49 hw)) (by decide) (t := (.object "java/lang/String")) (t' := (.object "java/lang/String")) (by decide) (by decide))))
  obtain ⟨T10, h10, X10, e10, W10, st10⟩ := putF X7 hx hZ hown (host := "") (Or.inl (w_50 hw)) Via.refl e7 Fl9 Ex8 (Or.inr ⟨(w_51 hw), rfl, hnm⟩) (w_35 hw) (ty := (.object "java/lang/String")) (by decide) rfl rfl (g := (mkF m 16 #[.val (.ref a1), .val .null, .val .null, .val (.ref a2)] [(.ref a2), (.ref a1)])) rfl rfl (hb hby d8_16)
  have s2 := (Keep.of_wr W10).1
  have N10 := Fr.snoc X10 N7 g_a1
  have Fw10 : Fld Z h10 a1 "com/example/whenfree/whenfree/Dialog" "uasTag" "Ljava/lang/String;" (.ref a2) := Fl9.same W10
  have Ex11 := (Ex8.wr W10)
  have Fl12 := ((Fw4.other W7 (Or.inr (slot_ne (Or.inr (w_47 hw)) (Or.inr (w_49 hw)) (by decide) (t := (.object "java/lang/String")) (t' := (.object "java/lang/String")) (by decide) (by decide)))).other W10 (Or.inr (slot_ne (Or.inr (w_47 hw)) (Or.inr (w_51 hw)) (by decide) (t := (.object "java/lang/String")) (t' := (.object "java/lang/String")) (by decide) (by decide))))
  have Fl13 := (Fw7.other W10 (Or.inr (slot_ne (Or.inr (w_49 hw)) (Or.inr (w_51 hw)) (by decide) (t := (.object "java/lang/String")) (t' := (.object "java/lang/String")) (by decide) (by decide))))
  have Kp0 : Keep h0 h4 [a1] := (Keep.refl h0 [a1]).wr W4 (Or.inl (List.mem_of_getElem? (i := 0) rfl))
  have Kp1 : Keep h0 h7 [a1] := Kp0.wr W7 (Or.inl (List.mem_of_getElem? (i := 0) rfl))
  have Kp2 : Keep h0 h10 [a1] := Kp1.wr W10 (Or.inl (List.mem_of_getElem? (i := 0) rfl))
  refine ⟨T10, _, _, _, none, X10, (fun _ => rfl), by decide, by decide, ?_, fun fs hr => ?_⟩
  · show Q28 Z a1 a2 h0 n0 _ T10.heap _
    rw [e10]
    exact ⟨rfl, N10, Kp2, Ex11, Fl12, Fl13, Fw10⟩
  · show Steps p.tables e below (s₁.setTop (mkF m 0 #[.val (.ref a1), .val .null, .val .null, .val (.ref a2)] [])) _
    refine XS.aloadN X0.here hx rfl (hb hby d8_0) rfl rfl ?_
    refine st3 _ ?_
    refine XS.aloadN X3.here hx rfl (hb hby d8_4) rfl rfl ?_
    refine XS.aloadN X3.here hx rfl (hb hby d8_5) rfl rfl ?_
    refine st4 _ ?_
    refine XS.aloadN X4.here hx rfl (hb hby d8_9) rfl rfl ?_
    refine XS.aloadN X4.here hx rfl (hb hby d8_10) rfl rfl ?_
    refine st7 _ ?_
    refine XS.aloadN X7.here hx rfl (hb hby d8_14) rfl rfl ?_
    refine XS.aloadN X7.here hx rfl (hb hby d8_15) rfl rfl ?_
    refine st10 _ ?_
    exact X10.returnOut hx hret (hb hby d8_19) hr
-- com/example/whenfree/whenfree/Dialog.reversed()Lcom/example/whenfree/whenfree/Dialog;
abbrev Rm29 : Room := { frames := 3, cells := 1, slots := 3, locals := 40 }
def Q29 (Z : State) (a1 : Addr) (a7 : Addr) (h0 : Heap) (n0 : Nat) (v : Option Value) (h : Heap) (L : List Loc) : Prop := ∃ b2 : Addr, v = some (.ref b2) ∧ Fr n0 L ∧ Keep h0 h [] ∧ h0.size ≤ b2 ∧ Exa Z h b2 "com/example/whenfree/whenfree/Dialog" ∧ Fld Z h b2 "com/example/whenfree/whenfree/Dialog" "callId" "Ljava/lang/String;" .null ∧ Fld Z h b2 "com/example/whenfree/whenfree/Dialog" "uacTag" "Ljava/lang/String;" .null ∧ Fld Z h b2 "com/example/whenfree/whenfree/Dialog" "uasTag" "Ljava/lang/String;" (.ref a7)
theorem ef29 (a1 : Addr) (m : MethodId) : entryFrame m #[(.ref a1)] 1 = mkF m 0 #[.val (.ref a1)] [] := by first | (simp [entryFrame, mkF, argsToLocals, Value.category]; done) | rfl
theorem rm29 (l : Launch) (Z : State) (a0 : Array Value) (hw : ∀ d ∈ tables_1, d.before a0 Z = true) (ws : List Jvm.Cond) (a1 : Addr) (a7 : Addr) (h0 : Heap) (n0 : Nat) (Z0 : n0 ≤ h0.size) (F_callId_a1 : Fld Z h0 a1 "com/example/whenfree/whenfree/Dialog" "callId" "Ljava/lang/String;" .null) (F_uasTag_a1 : Fld Z h0 a1 "com/example/whenfree/whenfree/Dialog" "uasTag" "Ljava/lang/String;" .null) (F_uacTag_a1 : Fld Z h0 a1 "com/example/whenfree/whenfree/Dialog" "uacTag" "Ljava/lang/String;" (.ref a7)) :
    OwnMet l Z y_8 prog_10_method_3_code 1 (some (.object "com/example/whenfree/whenfree/Dialog")) ws Rm29 #[(.ref a1)] h0 (Q29 Z a1 a7 h0 n0) := by
  refine own_body (plainFor_of_name pn_4) (ef29 a1) ?_
  intro p e s m below meth c s₁ hx hby hml hown hnm hret hZ X0 e0
  have N0 := Fr.nil n0
  obtain ⟨T2, h2, X2, e2, E2, A2, D2, -, st2⟩ := newO X0 hx hZ hown (w_57 hw) (w_35 hw) (w_36 hw) e0 (g := (mkF m 0 #[.val (.ref a1)] [])) rfl (hb hby d10_0) (by decide) (by decide)
  obtain ⟨b2, g2⟩ : ∃ z, z = h0.size := ⟨_, rfl⟩
  rw [← g2] at A2 D2 st2
  have s0 := E2.1
  have Fn2_callId : Fld Z h2 b2 "com/example/whenfree/whenfree/Dialog" "callId" "Ljava/lang/String;" .null := D2 (Or.inr (w_47 hw)) (ty := (.object "java/lang/String")) (by decide)
  have Fn2_uacTag : Fld Z h2 b2 "com/example/whenfree/whenfree/Dialog" "uacTag" "Ljava/lang/String;" .null := D2 (Or.inr (w_49 hw)) (ty := (.object "java/lang/String")) (by decide)
  have Fn2_uasTag : Fld Z h2 b2 "com/example/whenfree/whenfree/Dialog" "uasTag" "Ljava/lang/String;" .null := D2 (Or.inr (w_51 hw)) (ty := (.object "java/lang/String")) (by decide)
  have Fl3 := (F_callId_a1.ext E2)
  obtain ⟨T4, X4, e4, st4⟩ := getF X2 hx hZ hown (host := "") (Or.inl (w_46 hw)) Via.refl e2 Fl3 (g := (mkF m 5 #[.val (.ref a1)] [(.ref a1), (.ref b2), (.ref b2)])) rfl rfl (hb hby d10_5)
  have Fl5 := (F_uasTag_a1.ext E2)
  obtain ⟨T6, X6, e6, st6⟩ := getF X4 hx hZ hown (host := "") (Or.inl (w_50 hw)) Via.refl e4 Fl5 (g := (mkF m 9 #[.val (.ref a1)] [(.ref a1), .null, (.ref b2), (.ref b2)])) rfl rfl (hb hby d10_9)
  have Fl8 := (F_uacTag_a1.ext E2)
  obtain ⟨T9, X9, e9, st9⟩ := getF X6 hx hZ hown (host := "") (Or.inl (w_48 hw)) Via.refl e6 Fl8 (g := (mkF m 13 #[.val (.ref a1)] [(.ref a1), .null, .null, (.ref b2), (.ref b2)])) rfl rfl (hb hby d10_13)
  have g_b2 : n0 ≤ b2 := Nat.le_trans Z0 (Nat.le_of_eq g2.symm)
  have z1 := Nat.le_trans Z0 s0
  obtain ⟨_, T10, L10, X10, hQ10, st10⟩ := own_special X9 hx hZ hown (y := y_7) (a := b2) (w_58 hw) (w_38 hw) (w_36 hw) (w_39 hw) (rm28 l Z a0 hw [] b2 a7 h2 n0 z1 Fn2_callId A2 g_b2 Fn2_uacTag Fn2_uasTag) e9 (Ls := #[.val (.ref a1)]) (by rw [hml]; rfl) (argsL := [.null, .null, (.ref a7)]) (rest := [(.ref b2)]) (lenOf pd_7 rfl) (hb hby d10_16) (W := 1)
  obtain ⟨rfl, Nq10, K10, o10_0, o10_1, o10_2, o10_3⟩ := hQ10
  have N10 := Fr.app N0 Nq10
  have s1 := K10.1
  have sz_b2 : h0.size ≤ b2 := (Nat.le_of_eq g2.symm)
  have Kp0 : Keep h0 h2 [] := (Keep.refl h0 []).ext E2
  have Kp1 : Keep h0 T10.heap [] := Kp0.trans K10 (allS (Or.inr sz_b2) all0)
  refine ⟨T10, _, _, _, (some (.ref b2)), X10, nofun, by decide, by decide, ?_, fun fs hr => ?_⟩
  · show Q29 Z a1 a7 h0 n0 _ T10.heap _
    exact ⟨b2, rfl, N10, Kp1, sz_b2, o10_0, o10_1, o10_2, o10_3⟩
  · show Steps p.tables e below (s₁.setTop (mkF m 0 #[.val (.ref a1)] [])) _
    refine st2 _ ?_
    refine XS.dup X2.here hx rfl (hb hby d10_3) rfl rfl ?_
    refine XS.aloadN X2.here hx rfl (hb hby d10_4) rfl rfl ?_
    refine st4 _ ?_
    refine XS.aloadN X4.here hx rfl (hb hby d10_8) rfl rfl ?_
    refine st6 _ ?_
    refine XS.aloadN X6.here hx rfl (hb hby d10_12) rfl rfl ?_
    refine st9 _ ?_
    refine st10 _ ?_
    exact retOut X10 hx hret rfl (Or.inr (Or.inr (Or.inr (Or.inr ⟨rfl, rfl, rfl⟩)))) (hb hby d10_19) hr
-- com/example/whenfree/whenfree/Dialog.reversed()Lcom/example/whenfree/whenfree/Dialog;
abbrev Rm30 : Room := { frames := 3, cells := 1, slots := 3, locals := 40 }
def Q30 (Z : State) (a1 : Addr) (a5 : Addr) (h0 : Heap) (n0 : Nat) (v : Option Value) (h : Heap) (L : List Loc) : Prop := ∃ b2 : Addr, v = some (.ref b2) ∧ Fr n0 L ∧ Keep h0 h [] ∧ h0.size ≤ b2 ∧ Exa Z h b2 "com/example/whenfree/whenfree/Dialog" ∧ Fld Z h b2 "com/example/whenfree/whenfree/Dialog" "callId" "Ljava/lang/String;" .null ∧ Fld Z h b2 "com/example/whenfree/whenfree/Dialog" "uacTag" "Ljava/lang/String;" (.ref a5) ∧ Fld Z h b2 "com/example/whenfree/whenfree/Dialog" "uasTag" "Ljava/lang/String;" .null
theorem ef30 (a1 : Addr) (m : MethodId) : entryFrame m #[(.ref a1)] 1 = mkF m 0 #[.val (.ref a1)] [] := by first | (simp [entryFrame, mkF, argsToLocals, Value.category]; done) | rfl
theorem rm30 (l : Launch) (Z : State) (a0 : Array Value) (hw : ∀ d ∈ tables_1, d.before a0 Z = true) (ws : List Jvm.Cond) (a1 : Addr) (a5 : Addr) (h0 : Heap) (n0 : Nat) (Z0 : n0 ≤ h0.size) (F_callId_a1 : Fld Z h0 a1 "com/example/whenfree/whenfree/Dialog" "callId" "Ljava/lang/String;" .null) (F_uasTag_a1 : Fld Z h0 a1 "com/example/whenfree/whenfree/Dialog" "uasTag" "Ljava/lang/String;" (.ref a5)) (F_uacTag_a1 : Fld Z h0 a1 "com/example/whenfree/whenfree/Dialog" "uacTag" "Ljava/lang/String;" .null) :
    OwnMet l Z y_8 prog_10_method_3_code 1 (some (.object "com/example/whenfree/whenfree/Dialog")) ws Rm30 #[(.ref a1)] h0 (Q30 Z a1 a5 h0 n0) := by
  refine own_body (plainFor_of_name pn_4) (ef30 a1) ?_
  intro p e s m below meth c s₁ hx hby hml hown hnm hret hZ X0 e0
  have N0 := Fr.nil n0
  obtain ⟨T2, h2, X2, e2, E2, A2, D2, -, st2⟩ := newO X0 hx hZ hown (w_57 hw) (w_35 hw) (w_36 hw) e0 (g := (mkF m 0 #[.val (.ref a1)] [])) rfl (hb hby d10_0) (by decide) (by decide)
  obtain ⟨b2, g2⟩ : ∃ z, z = h0.size := ⟨_, rfl⟩
  rw [← g2] at A2 D2 st2
  have s0 := E2.1
  have Fn2_callId : Fld Z h2 b2 "com/example/whenfree/whenfree/Dialog" "callId" "Ljava/lang/String;" .null := D2 (Or.inr (w_47 hw)) (ty := (.object "java/lang/String")) (by decide)
  have Fn2_uacTag : Fld Z h2 b2 "com/example/whenfree/whenfree/Dialog" "uacTag" "Ljava/lang/String;" .null := D2 (Or.inr (w_49 hw)) (ty := (.object "java/lang/String")) (by decide)
  have Fn2_uasTag : Fld Z h2 b2 "com/example/whenfree/whenfree/Dialog" "uasTag" "Ljava/lang/String;" .null := D2 (Or.inr (w_51 hw)) (ty := (.object "java/lang/String")) (by decide)
  have Fl3 := (F_callId_a1.ext E2)
  obtain ⟨T4, X4, e4, st4⟩ := getF X2 hx hZ hown (host := "") (Or.inl (w_46 hw)) Via.refl e2 Fl3 (g := (mkF m 5 #[.val (.ref a1)] [(.ref a1), (.ref b2), (.ref b2)])) rfl rfl (hb hby d10_5)
  have Fl6 := (F_uasTag_a1.ext E2)
  obtain ⟨T7, X7, e7, st7⟩ := getF X4 hx hZ hown (host := "") (Or.inl (w_50 hw)) Via.refl e4 Fl6 (g := (mkF m 9 #[.val (.ref a1)] [(.ref a1), .null, (.ref b2), (.ref b2)])) rfl rfl (hb hby d10_9)
  have Fl8 := (F_uacTag_a1.ext E2)
  obtain ⟨T9, X9, e9, st9⟩ := getF X7 hx hZ hown (host := "") (Or.inl (w_48 hw)) Via.refl e7 Fl8 (g := (mkF m 13 #[.val (.ref a1)] [(.ref a1), (.ref a5), .null, (.ref b2), (.ref b2)])) rfl rfl (hb hby d10_13)
  have g_b2 : n0 ≤ b2 := Nat.le_trans Z0 (Nat.le_of_eq g2.symm)
  have z1 := Nat.le_trans Z0 s0
  obtain ⟨_, T10, L10, X10, hQ10, st10⟩ := own_special X9 hx hZ hown (y := y_7) (a := b2) (w_58 hw) (w_38 hw) (w_36 hw) (w_39 hw) (rm27 l Z a0 hw [] b2 a5 h2 n0 z1 Fn2_callId A2 g_b2 Fn2_uacTag Fn2_uasTag) e9 (Ls := #[.val (.ref a1)]) (by rw [hml]; rfl) (argsL := [.null, (.ref a5), .null]) (rest := [(.ref b2)]) (lenOf pd_7 rfl) (hb hby d10_16) (W := 1)
  obtain ⟨rfl, Nq10, K10, o10_0, o10_1, o10_2, o10_3⟩ := hQ10
  have N10 := Fr.app N0 Nq10
  have s1 := K10.1
  have sz_b2 : h0.size ≤ b2 := (Nat.le_of_eq g2.symm)
  have Kp0 : Keep h0 h2 [] := (Keep.refl h0 []).ext E2
  have Kp1 : Keep h0 T10.heap [] := Kp0.trans K10 (allS (Or.inr sz_b2) all0)
  refine ⟨T10, _, _, _, (some (.ref b2)), X10, nofun, by decide, by decide, ?_, fun fs hr => ?_⟩
  · show Q30 Z a1 a5 h0 n0 _ T10.heap _
    exact ⟨b2, rfl, N10, Kp1, sz_b2, o10_0, o10_1, o10_2, o10_3⟩
  · show Steps p.tables e below (s₁.setTop (mkF m 0 #[.val (.ref a1)] [])) _
    refine st2 _ ?_
    refine XS.dup X2.here hx rfl (hb hby d10_3) rfl rfl ?_
    refine XS.aloadN X2.here hx rfl (hb hby d10_4) rfl rfl ?_
    refine st4 _ ?_
    refine XS.aloadN X4.here hx rfl (hb hby d10_8) rfl rfl ?_
    refine st7 _ ?_
    refine XS.aloadN X7.here hx rfl (hb hby d10_12) rfl rfl ?_
    refine st9 _ ?_
    refine st10 _ ?_
    exact retOut X10 hx hret rfl (Or.inr (Or.inr (Or.inr (Or.inr ⟨rfl, rfl, rfl⟩)))) (hb hby d10_19) hr
theorem rm0_5 (l : Launch) (Z : State) (a0 : Array Value) (hw : ∀ d ∈ tables_1, d.before a0 Z = true) (ws : List Jvm.Cond) (p1 : Int32) (p2 : Int32) (p3 : Int32) (p4 : Int32) (cs : Int32) (h0 : Heap) (n0 : Nat) (Z0 : n0 ≤ h0.size) (S_cs : Sta Z Z.heap "java/lang/String" "COMPACT_STRINGS" "Z" (.int cs)) (c_cs : ¬ (cs = (0 : Int32))) (Od0 : Old Z n0 h0) (cc1 : ¬ ((p4 &&& (4 : Int32)) = (0 : Int32))) (cc2 : (p4 &&& (1 : Int32)) = (0 : Int32)) (cc3 : ¬ ((p4 &&& (2 : Int32)) = (0 : Int32))) :
    OwnMet l Z x code maxLocals ret ws room_1 #[(.int p1), (.int p2), (.int p3), (.int p4)] h0 (Q0 n0) := by
  refine own_body (plainFor_of_name pn_2) (ef0 p1 p2 p3 p4) ?_
  intro p e s m below meth c s₁ hx hby hml hown hnm hret hZ X0 e0
  have N0 := Fr.nil n0
  obtain ⟨_, T1, L1, X1, hQ1, st1⟩ := own_callS X0 hx hZ hown (y := y_5) (w_0 hw) (w_1 hw) (w_2 hw) (w_3 hw) (rm6 l Z a0 hw [] p2 cs h0 n0 Z0 S_cs Od0 c_cs) e0 (Ls := #[.val (.int p1), .val (.int p2), .val (.int p3), .val (.int p4), .val .null, .unset, .unset, .unset, .unset, .unset, .unset, .unset]) (by rw [hml]; rfl) (argsL := [(.int p2)]) (rest := []) (lenOf pd_5 rfl) (hb hby at_27) (W := 0)
  obtain ⟨b1_b9, b1_b15_b11_b12_b2, k1_k15_k11_k12_k2, rfl, Nq1, K1, o1_0, o1_1, o1_2, o1_3, o1_4, o1_5, o1_6, o1_7⟩ := hQ1
  have N1 := Fr.app N0 Nq1
  have s0 := K1.1
  obtain ⟨T2, h2, X2, e2, E2, A2, D2, -, st2⟩ := newO X1 hx hZ hown (w_34 hw) (w_35 hw) (w_36 hw) rfl (g := (mkF m 48 #[.val (.int p1), .val (.int p2), .val (.int p3), .val (.int p4), .val .null, .val (.ref b1_b9), .val .null, .unset, .unset, .unset, .unset, .unset] [])) rfl (hb hby at_48) (by decide) (by decide)
  obtain ⟨b2, g2⟩ : ∃ z, z = T1.heap.size := ⟨_, rfl⟩
  rw [← g2] at A2 D2 st2
  have s1 := E2.1
  have Fn2_callId : Fld Z h2 b2 "com/example/whenfree/whenfree/Dialog" "callId" "Ljava/lang/String;" .null := D2 (Or.inr (w_47 hw)) (ty := (.object "java/lang/String")) (by decide)
  have Fn2_uacTag : Fld Z h2 b2 "com/example/whenfree/whenfree/Dialog" "uacTag" "Ljava/lang/String;" .null := D2 (Or.inr (w_49 hw)) (ty := (.object "java/lang/String")) (by decide)
  have Fn2_uasTag : Fld Z h2 b2 "com/example/whenfree/whenfree/Dialog" "uasTag" "Ljava/lang/String;" .null := D2 (Or.inr (w_51 hw)) (ty := (.object "java/lang/String")) (by decide)
  have z1 := Nat.le_trans Z0 s0
  have g_b2 : n0 ≤ b2 := Nat.le_trans z1 (Nat.le_of_eq g2.symm)
  have z2 := Nat.le_trans Z0 (Nat.le_trans s0 s1)
  obtain ⟨_, T3, L3, X3, hQ3, st3⟩ := own_special X2 hx hZ hown (y := y_7) (a := b2) (w_37 hw) (w_38 hw) (w_36 hw) (w_39 hw) (rm27 l Z a0 hw [] b2 b1_b9 h2 n0 z2 Fn2_callId A2 g_b2 Fn2_uacTag Fn2_uasTag) e2 (Ls := #[.val (.int p1), .val (.int p2), .val (.int p3), .val (.int p4), .val .null, .val (.ref b1_b9), .val .null, .unset, .unset, .unset, .unset, .unset]) (by rw [hml]; rfl) (argsL := [.null, (.ref b1_b9), .null]) (rest := [(.ref b2)]) (lenOf pd_7 rfl) (hb hby at_58) (W := 1)
  obtain ⟨rfl, Nq3, K3, o3_0, o3_1, o3_2, o3_3⟩ := hQ3
  have N3 := Fr.app N1 Nq3
  have s2 := K3.1
  have z3 := Nat.le_trans Z0 (Nat.le_trans (Nat.le_trans s0 s1) s2)
  obtain ⟨_, T4, L4, X4, hQ4, st4⟩ := own_virtual X3 hx hZ hown (y := y_8) (z := y_8) o3_0 (w_52 hw) (w_53 hw) (notFace_of_selects (args := #[]) (mvT hZ (w_55 hw))) (w_55 hw) (w_54 hw) (w_36 hw) (w_56 hw) (rm29 l Z a0 hw [] b2 b1_b9 T3.heap n0 z3 o3_1 o3_3 o3_2) rfl (Ls := #[.val (.int p1), .val (.int p2), .val (.int p3), .val (.int p4), .val .null, .val (.ref b1_b9), .val .null, .val (.ref b2), .unset, .unset, .unset, .unset]) (by rw [hml]; rfl) (argsL := []) (rest := []) (lenOf pd_8 rfl) (hb hby at_65) (W := 0)
  obtain ⟨b4_b2, rfl, Nq4, K4, o4_0, o4_1, o4_2, o4_3, o4_4⟩ := hQ4
  have N4 := Fr.app N3 Nq4
  have s3 := K4.1
  have z4 := Nat.le_trans Z0 (Nat.le_trans (Nat.le_trans (Nat.le_trans s0 s1) s2) s3)
  obtain ⟨_, T5, L5, X5, hQ5, st5⟩ := own_virtual X4 hx hZ hown (y := y_9) (z := y_9) o4_1 (w_59 hw) (w_60 hw) (notFace_of_selects (args := #[]) (mvT hZ (w_62 hw))) (w_62 hw) (w_61 hw) (w_36 hw) (w_63 hw) (rm26 l Z a0 hw [] b4_b2 T4.heap n0 z4 o4_2) rfl (Ls := #[.val (.int p1), .val (.int p2), .val (.int p3), .val (.int p4), .val .null, .val (.ref b1_b9), .val .null, .val (.ref b2), .val (.ref b4_b2), .unset, .unset, .unset]) (by rw [hml]; rfl) (argsL := []) (rest := []) (lenOf pd_9 rfl) (hb hby at_72) (W := 0)
  obtain ⟨rfl, Nq5, e5⟩ := hQ5
  have N5 := Fr.app N4 Nq5
  obtain ⟨_, T6, L6, X6, hQ6, st6⟩ := own_callS X5 hx hZ hown (y := y_11) (w_64 hw) (w_65 hw) (w_2 hw) (w_66 hw) (rm19 l Z a0 hw []  T4.heap n0 z4) e5 (Ls := #[.val (.int p1), .val (.int p2), .val (.int p3), .val (.int p4), .val .null, .val (.ref b1_b9), .val .null, .val (.ref b2), .val (.ref b4_b2), .unset, .unset, .unset]) (by rw [hml]; rfl) (argsL := [.null, .null]) (rest := []) (lenOf pd_11 rfl) (hb hby at_77) (W := 0)
  obtain ⟨rfl, Nq6, e6⟩ := hQ6
  have N6 := Fr.app N5 Nq6
  obtain ⟨_, T7, L7, X7, hQ7, st7⟩ := own_virtual X6 hx hZ hown (y := y_12) (z := y_12) o4_1 (w_72 hw) (w_73 hw) (notFace_of_selects (args := #[]) (mvT hZ (w_75 hw))) (w_75 hw) (w_74 hw) (w_36 hw) (w_76 hw) (rm18 l Z a0 hw [] b4_b2 T4.heap n0 z4 o4_3) e6 (Ls := #[.val (.int p1), .val (.int p2), .val (.int p3), .val (.int p4), .val .null, .val (.ref b1_b9), .val .null, .val (.ref b2), .val (.ref b4_b2), .unset, .unset, .unset]) (by rw [hml]; rfl) (argsL := []) (rest := []) (lenOf pd_9 rfl) (hb hby at_85) (W := 0)
  obtain ⟨rfl, Nq7, e7⟩ := hQ7
  have N7 := Fr.app N6 Nq7
  obtain ⟨_, T8, L8, X8, hQ8, st8⟩ := own_callS X7 hx hZ hown (y := y_11) (w_64 hw) (w_65 hw) (w_2 hw) (w_66 hw) (rm19 l Z a0 hw []  T4.heap n0 z4) e7 (Ls := #[.val (.int p1), .val (.int p2), .val (.int p3), .val (.int p4), .val .null, .val (.ref b1_b9), .val .null, .val (.ref b2), .val (.ref b4_b2), .unset, .unset, .unset]) (by rw [hml]; rfl) (argsL := [.null, .null]) (rest := []) (lenOf pd_11 rfl) (hb hby at_90) (W := 0)
  obtain ⟨rfl, Nq8, e8⟩ := hQ8
  have N8 := Fr.app N7 Nq8
  obtain ⟨_, T9, L9, X9, hQ9, st9⟩ := own_virtual X8 hx hZ hown (y := y_13) (z := y_13) o4_1 (w_77 hw) (w_78 hw) (notFace_of_selects (args := #[]) (mvT hZ (w_80 hw))) (w_80 hw) (w_79 hw) (w_36 hw) (w_81 hw) (rm14 l Z a0 hw [] b4_b2 b1_b9 T4.heap n0 z4 o4_4) e8 (Ls := #[.val (.int p1), .val (.int p2), .val (.int p3), .val (.int p4), .val .null, .val (.ref b1_b9), .val .null, .val (.ref b2), .val (.ref b4_b2), .unset, .unset, .unset]) (by rw [hml]; rfl) (argsL := []) (rest := []) (lenOf pd_9 rfl) (hb hby at_98) (W := 0)
  obtain ⟨rfl, Nq9, e9⟩ := hQ9
  have N9 := Fr.app N8 Nq9
  have Ex10 := (((o1_1.ext E2).keep K3).keep K4)
  obtain ⟨_, T11, L11, X11, hQ11, st11⟩ := own_callS X9 hx hZ hown (y := y_11) (w_64 hw) (w_65 hw) (w_2 hw) (w_66 hw) (rm12 l Z a0 hw [] b1_b9 T4.heap n0 z4 Ex10) e9 (Ls := #[.val (.int p1), .val (.int p2), .val (.int p3), .val (.int p4), .val .null, .val (.ref b1_b9), .val .null, .val (.ref b2), .val (.ref b4_b2), .unset, .unset, .unset]) (by rw [hml]; rfl) (argsL := [(.ref b1_b9), (.ref b1_b9)]) (rest := []) (lenOf pd_11 rfl) (hb hby at_103) (W := 0)
  obtain ⟨rfl, Nq11, e11⟩ := hQ11
  have N11 := Fr.app N9 Nq11
  obtain ⟨_, T12, L12, X12, hQ12, st12⟩ := own_virtual X11 hx hZ hown (y := y_8) (z := y_8) o4_1 (w_52 hw) (w_53 hw) (notFace_of_selects (args := #[]) (mvT hZ (w_55 hw))) (w_55 hw) (w_54 hw) (w_36 hw) (w_56 hw) (rm30 l Z a0 hw [] b4_b2 b1_b9 T4.heap n0 z4 o4_2 o4_4 o4_3) e11 (Ls := #[.val (.int p1), .val (.int p2), .val (.int p3), .val (.int p4), .val .null, .val (.ref b1_b9), .val .null, .val (.ref b2), .val (.ref b4_b2), .val (.int (1 : Int32)), .unset, .unset]) (by rw [hml]; rfl) (argsL := []) (rest := []) (lenOf pd_8 rfl) (hb hby at_118) (W := 0)
  obtain ⟨b12_b2, rfl, Nq12, K12, o12_0, o12_1, o12_2, o12_3, o12_4⟩ := hQ12
  have N12 := Fr.app N11 Nq12
  have s4 := K12.1
  have z5 := Nat.le_trans Z0 (Nat.le_trans (Nat.le_trans (Nat.le_trans (Nat.le_trans s0 s1) s2) s3) s4)
  obtain ⟨_, T13, L13, X13, hQ13, st13⟩ := own_virtual X12 hx hZ hown (y := y_9) (z := y_9) o12_1 (w_59 hw) (w_60 hw) (notFace_of_selects (args := #[]) (mvT hZ (w_62 hw))) (w_62 hw) (w_61 hw) (w_36 hw) (w_63 hw) (rm26 l Z a0 hw [] b12_b2 T12.heap n0 z5 o12_2) rfl (Ls := #[.val (.int p1), .val (.int p2), .val (.int p3), .val (.int p4), .val .null, .val (.ref b1_b9), .val .null, .val (.ref b2), .val (.ref b4_b2), .val (.int (1 : Int32)), .val (.ref b12_b2), .unset]) (by rw [hml]; rfl) (argsL := []) (rest := []) (lenOf pd_9 rfl) (hb hby at_125) (W := 0)
  obtain ⟨rfl, Nq13, e13⟩ := hQ13
  have N13 := Fr.app N12 Nq13
  obtain ⟨_, T14, L14, X14, hQ14, st14⟩ := own_callS X13 hx hZ hown (y := y_11) (w_64 hw) (w_65 hw) (w_2 hw) (w_66 hw) (rm19 l Z a0 hw []  T12.heap n0 z5) e13 (Ls := #[.val (.int p1), .val (.int p2), .val (.int p3), .val (.int p4), .val .null, .val (.ref b1_b9), .val .null, .val (.ref b2), .val (.ref b4_b2), .val (.int (1 : Int32)), .val (.ref b12_b2), .unset]) (by rw [hml]; rfl) (argsL := [.null, .null]) (rest := []) (lenOf pd_11 rfl) (hb hby at_130) (W := 0)
  obtain ⟨rfl, Nq14, e14⟩ := hQ14
  have N14 := Fr.app N13 Nq14
  obtain ⟨_, T15, L15, X15, hQ15, st15⟩ := own_virtual X14 hx hZ hown (y := y_12) (z := y_12) o12_1 (w_72 hw) (w_73 hw) (notFace_of_selects (args := #[]) (mvT hZ (w_75 hw))) (w_75 hw) (w_74 hw) (w_36 hw) (w_76 hw) (rm13 l Z a0 hw [] b12_b2 b1_b9 T12.heap n0 z5 o12_3) e14 (Ls := #[.val (.int p1), .val (.int p2), .val (.int p3), .val (.int p4), .val .null, .val (.ref b1_b9), .val .null, .val (.ref b2), .val (.ref b4_b2), .val (.int (1 : Int32)), .val (.ref b12_b2), .unset]) (by rw [hml]; rfl) (argsL := []) (rest := []) (lenOf pd_9 rfl) (hb hby at_138) (W := 0)
  obtain ⟨rfl, Nq15, e15⟩ := hQ15
  have N15 := Fr.app N14 Nq15
  have Ex16 := (Ex10.keep K12)
  obtain ⟨_, T17, L17, X17, hQ17, st17⟩ := own_callS X15 hx hZ hown (y := y_11) (w_64 hw) (w_65 hw) (w_2 hw) (w_66 hw) (rm12 l Z a0 hw [] b1_b9 T12.heap n0 z5 Ex16) e15 (Ls := #[.val (.int p1), .val (.int p2), .val (.int p3), .val (.int p4), .val .null, .val (.ref b1_b9), .val .null, .val (.ref b2), .val (.ref b4_b2), .val (.int (1 : Int32)), .val (.ref b12_b2), .unset]) (by rw [hml]; rfl) (argsL := [(.ref b1_b9), (.ref b1_b9)]) (rest := []) (lenOf pd_11 rfl) (hb hby at_143) (W := 0)
  obtain ⟨rfl, Nq17, e17⟩ := hQ17
  have N17 := Fr.app N15 Nq17
  obtain ⟨_, T18, L18, X18, hQ18, st18⟩ := own_virtual X17 hx hZ hown (y := y_13) (z := y_13) o12_1 (w_77 hw) (w_78 hw) (notFace_of_selects (args := #[]) (mvT hZ (w_80 hw))) (w_80 hw) (w_79 hw) (w_36 hw) (w_81 hw) (rm21 l Z a0 hw [] b12_b2 T12.heap n0 z5 o12_4) e17 (Ls := #[.val (.int p1), .val (.int p2), .val (.int p3), .val (.int p4), .val .null, .val (.ref b1_b9), .val .null, .val (.ref b2), .val (.ref b4_b2), .val (.int (1 : Int32)), .val (.ref b12_b2), .unset]) (by rw [hml]; rfl) (argsL := []) (rest := []) (lenOf pd_9 rfl) (hb hby at_151) (W := 0)
  obtain ⟨rfl, Nq18, e18⟩ := hQ18
  have N18 := Fr.app N17 Nq18
  obtain ⟨_, T19, L19, X19, hQ19, st19⟩ := own_callS X18 hx hZ hown (y := y_11) (w_64 hw) (w_65 hw) (w_2 hw) (w_66 hw) (rm19 l Z a0 hw []  T12.heap n0 z5) e18 (Ls := #[.val (.int p1), .val (.int p2), .val (.int p3), .val (.int p4), .val .null, .val (.ref b1_b9), .val .null, .val (.ref b2), .val (.ref b4_b2), .val (.int (1 : Int32)), .val (.ref b12_b2), .unset]) (by rw [hml]; rfl) (argsL := [.null, .null]) (rest := []) (lenOf pd_11 rfl) (hb hby at_156) (W := 0)
  obtain ⟨rfl, Nq19, e19⟩ := hQ19
  have N19 := Fr.app N18 Nq19
  refine ⟨T19, _, _, _, (some (.int (1 : Int32))), X19, nofun, by decide, by decide, ?_, fun fs hr => ?_⟩
  · show Q0 n0 _ T19.heap _
    rw [e19]
    exact ⟨rfl, N19⟩
  · show Steps p.tables e below (s₁.setTop (mkF m 0 #[.val (.int p1), .val (.int p2), .val (.int p3), .val (.int p4), .unset, .unset, .unset, .unset, .unset, .unset, .unset, .unset] [])) _
    refine XS.iloadN X0.here hx rfl (hb hby at_0) rfl ?_
    refine XS.iconst X0.here hx rfl (hb hby at_1) ?_
    refine XS.iand X0.here hx rfl (hb hby at_2) rfl ?_
    refine XS.ifNo X0.here hx rfl (hb hby at_3) rfl ((if0 _ _).trans (feq (cc1 : ¬ ((p4 &&& (4 : Int32)) = (0 : Int32)))).1) ?_
    refine XS.aconstNull X0.here hx rfl (hb hby at_6) ?_
    refine XS.goto X0.here hx rfl (pc0 := 7) (pc' := 14) rfl (hb hby at_7) (by decide) (by decide) ?_
    refine XS.astore X0.here hx rfl (hb hby at_14) rfl rfl (l' := #[.val (.int p1), .val (.int p2), .val (.int p3), .val (.int p4), .val .null, .unset, .unset, .unset, .unset, .unset, .unset, .unset]) rfl ?_
    refine XS.iloadN X0.here hx rfl (hb hby at_16) rfl ?_
    refine XS.iconst X0.here hx rfl (hb hby at_17) ?_
    refine XS.iand X0.here hx rfl (hb hby at_18) rfl ?_
    refine XS.ifYes X0.here hx rfl (pc0 := 19) (pc' := 26) rfl (hb hby at_19) rfl ((if0 _ _).trans (teq (cc2 : (p4 &&& (1 : Int32)) = (0 : Int32))).1) (by decide) (by decide) ?_
    refine XS.iloadN X0.here hx rfl (hb hby at_26) rfl ?_
    show Steps p.tables e below (s₁.setTop (mkF m 27 #[.val (.int p1), .val (.int p2), .val (.int p3), .val (.int p4), .val .null, .unset, .unset, .unset, .unset, .unset, .unset, .unset] [(.int p2)])) _
    refine st1 _ ?_
    refine XS.astore X1.here hx rfl (hb hby at_30) rfl rfl (l' := #[.val (.int p1), .val (.int p2), .val (.int p3), .val (.int p4), .val .null, .val (.ref b1_b9), .unset, .unset, .unset, .unset, .unset, .unset]) rfl ?_
    refine XS.iloadN X1.here hx rfl (hb hby at_32) rfl ?_
    refine XS.iconst X1.here hx rfl (hb hby at_33) ?_
    refine XS.iand X1.here hx rfl (hb hby at_34) rfl ?_
    refine XS.ifNo X1.here hx rfl (hb hby at_35) rfl ((if0 _ _).trans (feq (cc3 : ¬ ((p4 &&& (2 : Int32)) = (0 : Int32)))).1) ?_
    refine XS.aconstNull X1.here hx rfl (hb hby at_38) ?_
    refine XS.goto X1.here hx rfl (pc0 := 39) (pc' := 46) rfl (hb hby at_39) (by decide) (by decide) ?_
    refine XS.astore X1.here hx rfl (hb hby at_46) rfl rfl (l' := #[.val (.int p1), .val (.int p2), .val (.int p3), .val (.int p4), .val .null, .val (.ref b1_b9), .val .null, .unset, .unset, .unset, .unset, .unset]) rfl ?_
    refine st2 _ ?_
    refine XS.dup X2.here hx rfl (hb hby at_51) rfl rfl ?_
    refine XS.aload X2.here hx rfl (hb hby at_52) rfl rfl ?_
    show Steps p.tables e below (T2.setTop (mkF m 54 #[.val (.int p1), .val (.int p2), .val (.int p3), .val (.int p4), .val .null, .val (.ref b1_b9), .val .null, .unset, .unset, .unset, .unset, .unset] [.null, (.ref b2), (.ref b2)])) _
    refine XS.aload X2.here hx rfl (hb hby at_54) rfl rfl ?_
    refine XS.aload X2.here hx rfl (hb hby at_56) rfl rfl ?_
    refine st3 _ ?_
    refine XS.astore X3.here hx rfl (hb hby at_61) rfl rfl (l' := #[.val (.int p1), .val (.int p2), .val (.int p3), .val (.int p4), .val .null, .val (.ref b1_b9), .val .null, .val (.ref b2), .unset, .unset, .unset, .unset]) rfl ?_
    refine XS.aload X3.here hx rfl (hb hby at_63) rfl rfl ?_
    refine st4 _ ?_
    refine XS.astore X4.here hx rfl (hb hby at_68) rfl rfl (l' := #[.val (.int p1), .val (.int p2), .val (.int p3), .val (.int p4), .val .null, .val (.ref b1_b9), .val .null, .val (.ref b2), .val (.ref b4_b2), .unset, .unset, .unset]) rfl ?_
    refine XS.aload X4.here hx rfl (hb hby at_70) rfl rfl ?_
    refine st5 _ ?_
    refine XS.aload X5.here hx rfl (hb hby at_75) rfl rfl ?_
    refine st6 _ ?_
    refine XS.ifNo X6.here hx rfl (hb hby at_80) rfl ((if0 _ _).trans (feq ((by decide : ¬ ((1 : Int32) = (0 : Int32))) : ¬ ((1 : Int32) = (0 : Int32)))).1) ?_
    show Steps p.tables e below (T6.setTop (mkF m 83 #[.val (.int p1), .val (.int p2), .val (.int p3), .val (.int p4), .val .null, .val (.ref b1_b9), .val .null, .val (.ref b2), .val (.ref b4_b2), .unset, .unset, .unset] [])) _
    refine XS.aload X6.here hx rfl (hb hby at_83) rfl rfl ?_
    refine st7 _ ?_
    refine XS.aload X7.here hx rfl (hb hby at_88) rfl rfl ?_
    refine st8 _ ?_
    refine XS.ifNo X8.here hx rfl (hb hby at_93) rfl ((if0 _ _).trans (feq ((by decide : ¬ ((1 : Int32) = (0 : Int32))) : ¬ ((1 : Int32) = (0 : Int32)))).1) ?_
    refine XS.aload X8.here hx rfl (hb hby at_96) rfl rfl ?_
    refine st9 _ ?_
    refine XS.aload X9.here hx rfl (hb hby at_101) rfl rfl ?_
    refine st11 _ ?_
    refine XS.ifNo X11.here hx rfl (hb hby at_106) rfl ((if0 _ _).trans (feq ((by decide : ¬ ((1 : Int32) = (0 : Int32))) : ¬ ((1 : Int32) = (0 : Int32)))).1) ?_
    refine XS.iconst X11.here hx rfl (hb hby at_109) ?_
    refine XS.goto X11.here hx rfl (pc0 := 110) (pc' := 114) rfl (hb hby at_110) (by decide) (by decide) ?_
    show Steps p.tables e below (T11.setTop (mkF m 114 #[.val (.int p1), .val (.int p2), .val (.int p3), .val (.int p4), .val .null, .val (.ref b1_b9), .val .null, .val (.ref b2), .val (.ref b4_b2), .unset, .unset, .unset] [(.int (1 : Int32))])) _
    refine XS.istore X11.here hx rfl (hb hby at_114) rfl (l' := #[.val (.int p1), .val (.int p2), .val (.int p3), .val (.int p4), .val .null, .val (.ref b1_b9), .val .null, .val (.ref b2), .val (.ref b4_b2), .val (.int (1 : Int32)), .unset, .unset]) rfl ?_
    refine XS.aload X11.here hx rfl (hb hby at_116) rfl rfl ?_
    refine st12 _ ?_
    refine XS.astore X12.here hx rfl (hb hby at_121) rfl rfl (l' := #[.val (.int p1), .val (.int p2), .val (.int p3), .val (.int p4), .val .null, .val (.ref b1_b9), .val .null, .val (.ref b2), .val (.ref b4_b2), .val (.int (1 : Int32)), .val (.ref b12_b2), .unset]) rfl ?_
    refine XS.aload X12.here hx rfl (hb hby at_123) rfl rfl ?_
    refine st13 _ ?_
    refine XS.aload X13.here hx rfl (hb hby at_128) rfl rfl ?_
    refine st14 _ ?_
    refine XS.ifNo X14.here hx rfl (hb hby at_133) rfl ((if0 _ _).trans (feq ((by decide : ¬ ((1 : Int32) = (0 : Int32))) : ¬ ((1 : Int32) = (0 : Int32)))).1) ?_
    refine XS.aload X14.here hx rfl (hb hby at_136) rfl rfl ?_
    refine st15 _ ?_
    refine XS.aload X15.here hx rfl (hb hby at_141) rfl rfl ?_
    show Steps p.tables e below (T15.setTop (mkF m 143 #[.val (.int p1), .val (.int p2), .val (.int p3), .val (.int p4), .val .null, .val (.ref b1_b9), .val .null, .val (.ref b2), .val (.ref b4_b2), .val (.int (1 : Int32)), .val (.ref b12_b2), .unset] [(.ref b1_b9), (.ref b1_b9)])) _
    refine st17 _ ?_
    refine XS.ifNo X17.here hx rfl (hb hby at_146) rfl ((if0 _ _).trans (feq ((by decide : ¬ ((1 : Int32) = (0 : Int32))) : ¬ ((1 : Int32) = (0 : Int32)))).1) ?_
    refine XS.aload X17.here hx rfl (hb hby at_149) rfl rfl ?_
    refine st18 _ ?_
    refine XS.aload X18.here hx rfl (hb hby at_154) rfl rfl ?_
    refine st19 _ ?_
    refine XS.ifNo X19.here hx rfl (hb hby at_159) rfl ((if0 _ _).trans (feq ((by decide : ¬ ((1 : Int32) = (0 : Int32))) : ¬ ((1 : Int32) = (0 : Int32)))).1) ?_
    refine XS.iconst X19.here hx rfl (hb hby at_162) ?_
    refine XS.goto X19.here hx rfl (pc0 := 163) (pc' := 167) rfl (hb hby at_163) (by decide) (by decide) ?_
    refine XS.istore X19.here hx rfl (hb hby at_167) rfl (l' := #[.val (.int p1), .val (.int p2), .val (.int p3), .val (.int p4), .val .null, .val (.ref b1_b9), .val .null, .val (.ref b2), .val (.ref b4_b2), .val (.int (1 : Int32)), .val (.ref b12_b2), .val (.int (1 : Int32))]) rfl ?_
    refine XS.iload X19.here hx rfl (hb hby at_169) rfl ?_
    refine XS.ifNo X19.here hx rfl (hb hby at_171) rfl ((if0 _ _).trans (feq ((by decide : ¬ ((1 : Int32) = (0 : Int32))) : ¬ ((1 : Int32) = (0 : Int32)))).1) ?_
    show Steps p.tables e below (T19.setTop (mkF m 174 #[.val (.int p1), .val (.int p2), .val (.int p3), .val (.int p4), .val .null, .val (.ref b1_b9), .val .null, .val (.ref b2), .val (.ref b4_b2), .val (.int (1 : Int32)), .val (.ref b12_b2), .val (.int (1 : Int32))] [])) _
    refine XS.iload X19.here hx rfl (hb hby at_174) rfl ?_
    refine XS.ifNo X19.here hx rfl (hb hby at_176) rfl ((if0 _ _).trans (feq ((by decide : ¬ ((1 : Int32) = (0 : Int32))) : ¬ ((1 : Int32) = (0 : Int32)))).1) ?_
    refine XS.iconst X19.here hx rfl (hb hby at_179) ?_
    refine XS.goto X19.here hx rfl (pc0 := 180) (pc' := 184) rfl (hb hby at_180) (by decide) (by decide) ?_
    exact retN X19 hx (t := .boolean) hret (by simp) (hb hby at_184) hr
theorem rm0_6 (l : Launch) (Z : State) (a0 : Array Value) (hw : ∀ d ∈ tables_1, d.before a0 Z = true) (ws : List Jvm.Cond) (p1 : Int32) (p2 : Int32) (p3 : Int32) (p4 : Int32) (cs : Int32) (h0 : Heap) (n0 : Nat) (Z0 : n0 ≤ h0.size) (S_cs : Sta Z Z.heap "java/lang/String" "COMPACT_STRINGS" "Z" (.int cs)) (c_cs : ¬ (cs = (0 : Int32))) (Od0 : Old Z n0 h0) (cc1 : ¬ ((p4 &&& (4 : Int32)) = (0 : Int32))) (cc2 : ¬ ((p4 &&& (1 : Int32)) = (0 : Int32))) (cc3 : (p4 &&& (2 : Int32)) = (0 : Int32)) :
    OwnMet l Z x code maxLocals ret ws room_1 #[(.int p1), (.int p2), (.int p3), (.int p4)] h0 (Q0 n0) := by
  refine own_body (plainFor_of_name pn_2) (ef0 p1 p2 p3 p4) ?_
  intro p e s m below meth c s₁ hx hby hml hown hnm hret hZ X0 e0
  have N0 := Fr.nil n0
  obtain ⟨_, T1, L1, X1, hQ1, st1⟩ := own_callS X0 hx hZ hown (y := y_5) (w_0 hw) (w_1 hw) (w_2 hw) (w_3 hw) (rm6 l Z a0 hw [] p3 cs h0 n0 Z0 S_cs Od0 c_cs) e0 (Ls := #[.val (.int p1), .val (.int p2), .val (.int p3), .val (.int p4), .val .null, .val .null, .unset, .unset, .unset, .unset, .unset, .unset]) (by rw [hml]; rfl) (argsL := [(.int p3)]) (rest := []) (lenOf pd_5 rfl) (hb hby at_43) (W := 0)
  obtain ⟨b1_b9, b1_b15_b11_b12_b2, k1_k15_k11_k12_k2, rfl, Nq1, K1, o1_0, o1_1, o1_2, o1_3, o1_4, o1_5, o1_6, o1_7⟩ := hQ1
  have N1 := Fr.app N0 Nq1
  have s0 := K1.1
  obtain ⟨T2, h2, X2, e2, E2, A2, D2, -, st2⟩ := newO X1 hx hZ hown (w_34 hw) (w_35 hw) (w_36 hw) rfl (g := (mkF m 48 #[.val (.int p1), .val (.int p2), .val (.int p3), .val (.int p4), .val .null, .val .null, .val (.ref b1_b9), .unset, .unset, .unset, .unset, .unset] [])) rfl (hb hby at_48) (by decide) (by decide)
  obtain ⟨b2, g2⟩ : ∃ z, z = T1.heap.size := ⟨_, rfl⟩
  rw [← g2] at A2 D2 st2
  have s1 := E2.1
  have Fn2_callId : Fld Z h2 b2 "com/example/whenfree/whenfree/Dialog" "callId" "Ljava/lang/String;" .null := D2 (Or.inr (w_47 hw)) (ty := (.object "java/lang/String")) (by decide)
  have Fn2_uacTag : Fld Z h2 b2 "com/example/whenfree/whenfree/Dialog" "uacTag" "Ljava/lang/String;" .null := D2 (Or.inr (w_49 hw)) (ty := (.object "java/lang/String")) (by decide)
  have Fn2_uasTag : Fld Z h2 b2 "com/example/whenfree/whenfree/Dialog" "uasTag" "Ljava/lang/String;" .null := D2 (Or.inr (w_51 hw)) (ty := (.object "java/lang/String")) (by decide)
  have z1 := Nat.le_trans Z0 s0
  have g_b2 : n0 ≤ b2 := Nat.le_trans z1 (Nat.le_of_eq g2.symm)
  have z2 := Nat.le_trans Z0 (Nat.le_trans s0 s1)
  obtain ⟨_, T3, L3, X3, hQ3, st3⟩ := own_special X2 hx hZ hown (y := y_7) (a := b2) (w_37 hw) (w_38 hw) (w_36 hw) (w_39 hw) (rm28 l Z a0 hw [] b2 b1_b9 h2 n0 z2 Fn2_callId A2 g_b2 Fn2_uacTag Fn2_uasTag) e2 (Ls := #[.val (.int p1), .val (.int p2), .val (.int p3), .val (.int p4), .val .null, .val .null, .val (.ref b1_b9), .unset, .unset, .unset, .unset, .unset]) (by rw [hml]; rfl) (argsL := [.null, .null, (.ref b1_b9)]) (rest := [(.ref b2)]) (lenOf pd_7 rfl) (hb hby at_58) (W := 1)
  obtain ⟨rfl, Nq3, K3, o3_0, o3_1, o3_2, o3_3⟩ := hQ3
  have N3 := Fr.app N1 Nq3
  have s2 := K3.1
  have z3 := Nat.le_trans Z0 (Nat.le_trans (Nat.le_trans s0 s1) s2)
  obtain ⟨_, T4, L4, X4, hQ4, st4⟩ := own_virtual X3 hx hZ hown (y := y_8) (z := y_8) o3_0 (w_52 hw) (w_53 hw) (notFace_of_selects (args := #[]) (mvT hZ (w_55 hw))) (w_55 hw) (w_54 hw) (w_36 hw) (w_56 hw) (rm30 l Z a0 hw [] b2 b1_b9 T3.heap n0 z3 o3_1 o3_3 o3_2) rfl (Ls := #[.val (.int p1), .val (.int p2), .val (.int p3), .val (.int p4), .val .null, .val .null, .val (.ref b1_b9), .val (.ref b2), .unset, .unset, .unset, .unset]) (by rw [hml]; rfl) (argsL := []) (rest := []) (lenOf pd_8 rfl) (hb hby at_65) (W := 0)
  obtain ⟨b4_b2, rfl, Nq4, K4, o4_0, o4_1, o4_2, o4_3, o4_4⟩ := hQ4
  have N4 := Fr.app N3 Nq4
  have s3 := K4.1
  have z4 := Nat.le_trans Z0 (Nat.le_trans (Nat.le_trans (Nat.le_trans s0 s1) s2) s3)
  obtain ⟨_, T5, L5, X5, hQ5, st5⟩ := own_virtual X4 hx hZ hown (y := y_9) (z := y_9) o4_1 (w_59 hw) (w_60 hw) (notFace_of_selects (args := #[]) (mvT hZ (w_62 hw))) (w_62 hw) (w_61 hw) (w_36 hw) (w_63 hw) (rm26 l Z a0 hw [] b4_b2 T4.heap n0 z4 o4_2) rfl (Ls := #[.val (.int p1), .val (.int p2), .val (.int p3), .val (.int p4), .val .null, .val .null, .val (.ref b1_b9), .val (.ref b2), .val (.ref b4_b2), .unset, .unset, .unset]) (by rw [hml]; rfl) (argsL := []) (rest := []) (lenOf pd_9 rfl) (hb hby at_72) (W := 0)
  obtain ⟨rfl, Nq5, e5⟩ := hQ5
  have N5 := Fr.app N4 Nq5
  obtain ⟨_, T6, L6, X6, hQ6, st6⟩ := own_callS X5 hx hZ hown (y := y_11) (w_64 hw) (w_65 hw) (w_2 hw) (w_66 hw) (rm19 l Z a0 hw []  T4.heap n0 z4) e5 (Ls := #[.val (.int p1), .val (.int p2), .val (.int p3), .val (.int p4), .val .null, .val .null, .val (.ref b1_b9), .val (.ref b2), .val (.ref b4_b2), .unset, .unset, .unset]) (by rw [hml]; rfl) (argsL := [.null, .null]) (rest := []) (lenOf pd_11 rfl) (hb hby at_77) (W := 0)
  obtain ⟨rfl, Nq6, e6⟩ := hQ6
  have N6 := Fr.app N5 Nq6
  obtain ⟨_, T7, L7, X7, hQ7, st7⟩ := own_virtual X6 hx hZ hown (y := y_12) (z := y_12) o4_1 (w_72 hw) (w_73 hw) (notFace_of_selects (args := #[]) (mvT hZ (w_75 hw))) (w_75 hw) (w_74 hw) (w_36 hw) (w_76 hw) (rm13 l Z a0 hw [] b4_b2 b1_b9 T4.heap n0 z4 o4_3) e6 (Ls := #[.val (.int p1), .val (.int p2), .val (.int p3), .val (.int p4), .val .null, .val .null, .val (.ref b1_b9), .val (.ref b2), .val (.ref b4_b2), .unset, .unset, .unset]) (by rw [hml]; rfl) (argsL := []) (rest := []) (lenOf pd_9 rfl) (hb hby at_85) (W := 0)
  obtain ⟨rfl, Nq7, e7⟩ := hQ7
  have N7 := Fr.app N6 Nq7
  have Ex8 := (((o1_1.ext E2).keep K3).keep K4)
  obtain ⟨_, T9, L9, X9, hQ9, st9⟩ := own_callS X7 hx hZ hown (y := y_11) (w_64 hw) (w_65 hw) (w_2 hw) (w_66 hw) (rm12 l Z a0 hw [] b1_b9 T4.heap n0 z4 Ex8) e7 (Ls := #[.val (.int p1), .val (.int p2), .val (.int p3), .val (.int p4), .val .null, .val .null, .val (.ref b1_b9), .val (.ref b2), .val (.ref b4_b2), .unset, .unset, .unset]) (by rw [hml]; rfl) (argsL := [(.ref b1_b9), (.ref b1_b9)]) (rest := []) (lenOf pd_11 rfl) (hb hby at_90) (W := 0)
  obtain ⟨rfl, Nq9, e9⟩ := hQ9
  have N9 := Fr.app N7 Nq9
  obtain ⟨_, T10, L10, X10, hQ10, st10⟩ := own_virtual X9 hx hZ hown (y := y_13) (z := y_13) o4_1 (w_77 hw) (w_78 hw) (notFace_of_selects (args := #[]) (mvT hZ (w_80 hw))) (w_80 hw) (w_79 hw) (w_36 hw) (w_81 hw) (rm21 l Z a0 hw [] b4_b2 T4.heap n0 z4 o4_4) e9 (Ls := #[.val (.int p1), .val (.int p2), .val (.int p3), .val (.int p4), .val .null, .val .null, .val (.ref b1_b9), .val (.ref b2), .val (.ref b4_b2), .unset, .unset, .unset]) (by rw [hml]; rfl) (argsL := []) (rest := []) (lenOf pd_9 rfl) (hb hby at_98) (W := 0)
  obtain ⟨rfl, Nq10, e10⟩ := hQ10
  have N10 := Fr.app N9 Nq10
  obtain ⟨_, T11, L11, X11, hQ11, st11⟩ := own_callS X10 hx hZ hown (y := y_11) (w_64 hw) (w_65 hw) (w_2 hw) (w_66 hw) (rm19 l Z a0 hw []  T4.heap n0 z4) e10 (Ls := #[.val (.int p1), .val (.int p2), .val (.int p3), .val (.int p4), .val .null, .val .null, .val (.ref b1_b9), .val (.ref b2), .val (.ref b4_b2), .unset, .unset, .unset]) (by rw [hml]; rfl) (argsL := [.null, .null]) (rest := []) (lenOf pd_11 rfl) (hb hby at_103) (W := 0)
  obtain ⟨rfl, Nq11, e11⟩ := hQ11
  have N11 := Fr.app N10 Nq11
  obtain ⟨_, T12, L12, X12, hQ12, st12⟩ := own_virtual X11 hx hZ hown (y := y_8) (z := y_8) o4_1 (w_52 hw) (w_53 hw) (notFace_of_selects (args := #[]) (mvT hZ (w_55 hw))) (w_55 hw) (w_54 hw) (w_36 hw) (w_56 hw) (rm29 l Z a0 hw [] b4_b2 b1_b9 T4.heap n0 z4 o4_2 o4_4 o4_3) e11 (Ls := #[.val (.int p1), .val (.int p2), .val (.int p3), .val (.int p4), .val .null, .val .null, .val (.ref b1_b9), .val (.ref b2), .val (.ref b4_b2), .val (.int (1 : Int32)), .unset, .unset]) (by rw [hml]; rfl) (argsL := []) (rest := []) (lenOf pd_8 rfl) (hb hby at_118) (W := 0)
  obtain ⟨b12_b2, rfl, Nq12, K12, o12_0, o12_1, o12_2, o12_3, o12_4⟩ := hQ12
  have N12 := Fr.app N11 Nq12
  have s4 := K12.1
  have z5 := Nat.le_trans Z0 (Nat.le_trans (Nat.le_trans (Nat.le_trans (Nat.le_trans s0 s1) s2) s3) s4)
  obtain ⟨_, T13, L13, X13, hQ13, st13⟩ := own_virtual X12 hx hZ hown (y := y_9) (z := y_9) o12_1 (w_59 hw) (w_60 hw) (notFace_of_selects (args := #[]) (mvT hZ (w_62 hw))) (w_62 hw) (w_61 hw) (w_36 hw) (w_63 hw) (rm26 l Z a0 hw [] b12_b2 T12.heap n0 z5 o12_2) rfl (Ls := #[.val (.int p1), .val (.int p2), .val (.int p3), .val (.int p4), .val .null, .val .null, .val (.ref b1_b9), .val (.ref b2), .val (.ref b4_b2), .val (.int (1 : Int32)), .val (.ref b12_b2), .unset]) (by rw [hml]; rfl) (argsL := []) (rest := []) (lenOf pd_9 rfl) (hb hby at_125) (W := 0)
  obtain ⟨rfl, Nq13, e13⟩ := hQ13
  have N13 := Fr.app N12 Nq13
  obtain ⟨_, T14, L14, X14, hQ14, st14⟩ := own_callS X13 hx hZ hown (y := y_11) (w_64 hw) (w_65 hw) (w_2 hw) (w_66 hw) (rm19 l Z a0 hw []  T12.heap n0 z5) e13 (Ls := #[.val (.int p1), .val (.int p2), .val (.int p3), .val (.int p4), .val .null, .val .null, .val (.ref b1_b9), .val (.ref b2), .val (.ref b4_b2), .val (.int (1 : Int32)), .val (.ref b12_b2), .unset]) (by rw [hml]; rfl) (argsL := [.null, .null]) (rest := []) (lenOf pd_11 rfl) (hb hby at_130) (W := 0)
  obtain ⟨rfl, Nq14, e14⟩ := hQ14
  have N14 := Fr.app N13 Nq14
  obtain ⟨_, T15, L15, X15, hQ15, st15⟩ := own_virtual X14 hx hZ hown (y := y_12) (z := y_12) o12_1 (w_72 hw) (w_73 hw) (notFace_of_selects (args := #[]) (mvT hZ (w_75 hw))) (w_75 hw) (w_74 hw) (w_36 hw) (w_76 hw) (rm18 l Z a0 hw [] b12_b2 T12.heap n0 z5 o12_3) e14 (Ls := #[.val (.int p1), .val (.int p2), .val (.int p3), .val (.int p4), .val .null, .val .null, .val (.ref b1_b9), .val (.ref b2), .val (.ref b4_b2), .val (.int (1 : Int32)), .val (.ref b12_b2), .unset]) (by rw [hml]; rfl) (argsL := []) (rest := []) (lenOf pd_9 rfl) (hb hby at_138) (W := 0)
  obtain ⟨rfl, Nq15, e15⟩ := hQ15
  have N15 := Fr.app N14 Nq15
  obtain ⟨_, T16, L16, X16, hQ16, st16⟩ := own_callS X15 hx hZ hown (y := y_11) (w_64 hw) (w_65 hw) (w_2 hw) (w_66 hw) (rm19 l Z a0 hw []  T12.heap n0 z5) e15 (Ls := #[.val (.int p1), .val (.int p2), .val (.int p3), .val (.int p4), .val .null, .val .null, .val (.ref b1_b9), .val (.ref b2), .val (.ref b4_b2), .val (.int (1 : Int32)), .val (.ref b12_b2), .unset]) (by rw [hml]; rfl) (argsL := [.null, .null]) (rest := []) (lenOf pd_11 rfl) (hb hby at_143) (W := 0)
  obtain ⟨rfl, Nq16, e16⟩ := hQ16
  have N16 := Fr.app N15 Nq16
  obtain ⟨_, T17, L17, X17, hQ17, st17⟩ := own_virtual X16 hx hZ hown (y := y_13) (z := y_13) o12_1 (w_77 hw) (w_78 hw) (notFace_of_selects (args := #[]) (mvT hZ (w_80 hw))) (w_80 hw) (w_79 hw) (w_36 hw) (w_81 hw) (rm14 l Z a0 hw [] b12_b2 b1_b9 T12.heap n0 z5 o12_4) e16 (Ls := #[.val (.int p1), .val (.int p2), .val (.int p3), .val (.int p4), .val .null, .val .null, .val (.ref b1_b9), .val (.ref b2), .val (.ref b4_b2), .val (.int (1 : Int32)), .val (.ref b12_b2), .unset]) (by rw [hml]; rfl) (argsL := []) (rest := []) (lenOf pd_9 rfl) (hb hby at_151) (W := 0)
  obtain ⟨rfl, Nq17, e17⟩ := hQ17
  have N17 := Fr.app N16 Nq17
  have Ex18 := (Ex8.keep K12)
  obtain ⟨_, T19, L19, X19, hQ19, st19⟩ := own_callS X17 hx hZ hown (y := y_11) (w_64 hw) (w_65 hw) (w_2 hw) (w_66 hw) (rm12 l Z a0 hw [] b1_b9 T12.heap n0 z5 Ex18) e17 (Ls := #[.val (.int p1), .val (.int p2), .val (.int p3), .val (.int p4), .val .null, .val .null, .val (.ref b1_b9), .val (.ref b2), .val (.ref b4_b2), .val (.int (1 : Int32)), .val (.ref b12_b2), .unset]) (by rw [hml]; rfl) (argsL := [(.ref b1_b9), (.ref b1_b9)]) (rest := []) (lenOf pd_11 rfl) (hb hby at_156) (W := 0)
  obtain ⟨rfl, Nq19, e19⟩ := hQ19
  have N19 := Fr.app N17 Nq19
  refine ⟨T19, _, _, _, (some (.int (1 : Int32))), X19, nofun, by decide, by decide, ?_, fun fs hr => ?_⟩
  · show Q0 n0 _ T19.heap _
    rw [e19]
    exact ⟨rfl, N19⟩
  · show Steps p.tables e below (s₁.setTop (mkF m 0 #[.val (.int p1), .val (.int p2), .val (.int p3), .val (.int p4), .unset, .unset, .unset, .unset, .unset, .unset, .unset, .unset] [])) _
    refine XS.iloadN X0.here hx rfl (hb hby at_0) rfl ?_
    refine XS.iconst X0.here hx rfl (hb hby at_1) ?_
    refine XS.iand X0.here hx rfl (hb hby at_2) rfl ?_
    refine XS.ifNo X0.here hx rfl (hb hby at_3) rfl ((if0 _ _).trans (feq (cc1 : ¬ ((p4 &&& (4 : Int32)) = (0 : Int32)))).1) ?_
    refine XS.aconstNull X0.here hx rfl (hb hby at_6) ?_
    refine XS.goto X0.here hx rfl (pc0 := 7) (pc' := 14) rfl (hb hby at_7) (by decide) (by decide) ?_
    refine XS.astore X0.here hx rfl (hb hby at_14) rfl rfl (l' := #[.val (.int p1), .val (.int p2), .val (.int p3), .val (.int p4), .val .null, .unset, .unset, .unset, .unset, .unset, .unset, .unset]) rfl ?_
    refine XS.iloadN X0.here hx rfl (hb hby at_16) rfl ?_
    refine XS.iconst X0.here hx rfl (hb hby at_17) ?_
    refine XS.iand X0.here hx rfl (hb hby at_18) rfl ?_
    refine XS.ifNo X0.here hx rfl (hb hby at_19) rfl ((if0 _ _).trans (feq (cc2 : ¬ ((p4 &&& (1 : Int32)) = (0 : Int32)))).1) ?_
    refine XS.aconstNull X0.here hx rfl (hb hby at_22) ?_
    show Steps p.tables e below (s₁.setTop (mkF m 23 #[.val (.int p1), .val (.int p2), .val (.int p3), .val (.int p4), .val .null, .unset, .unset, .unset, .unset, .unset, .unset, .unset] [.null])) _
    refine XS.goto X0.here hx rfl (pc0 := 23) (pc' := 30) rfl (hb hby at_23) (by decide) (by decide) ?_
    refine XS.astore X0.here hx rfl (hb hby at_30) rfl rfl (l' := #[.val (.int p1), .val (.int p2), .val (.int p3), .val (.int p4), .val .null, .val .null, .unset, .unset, .unset, .unset, .unset, .unset]) rfl ?_
    refine XS.iloadN X0.here hx rfl (hb hby at_32) rfl ?_
    refine XS.iconst X0.here hx rfl (hb hby at_33) ?_
    refine XS.iand X0.here hx rfl (hb hby at_34) rfl ?_
    refine XS.ifYes X0.here hx rfl (pc0 := 35) (pc' := 42) rfl (hb hby at_35) rfl ((if0 _ _).trans (teq (cc3 : (p4 &&& (2 : Int32)) = (0 : Int32))).1) (by decide) (by decide) ?_
    refine XS.iloadN X0.here hx rfl (hb hby at_42) rfl ?_
    refine st1 _ ?_
    refine XS.astore X1.here hx rfl (hb hby at_46) rfl rfl (l' := #[.val (.int p1), .val (.int p2), .val (.int p3), .val (.int p4), .val .null, .val .null, .val (.ref b1_b9), .unset, .unset, .unset, .unset, .unset]) rfl ?_
    refine st2 _ ?_
    refine XS.dup X2.here hx rfl (hb hby at_51) rfl rfl ?_
    refine XS.aload X2.here hx rfl (hb hby at_52) rfl rfl ?_
    show Steps p.tables e below (T2.setTop (mkF m 54 #[.val (.int p1), .val (.int p2), .val (.int p3), .val (.int p4), .val .null, .val .null, .val (.ref b1_b9), .unset, .unset, .unset, .unset, .unset] [.null, (.ref b2), (.ref b2)])) _
    refine XS.aload X2.here hx rfl (hb hby at_54) rfl rfl ?_
    refine XS.aload X2.here hx rfl (hb hby at_56) rfl rfl ?_
    refine st3 _ ?_
    refine XS.astore X3.here hx rfl (hb hby at_61) rfl rfl (l' := #[.val (.int p1), .val (.int p2), .val (.int p3), .val (.int p4), .val .null, .val .null, .val (.ref b1_b9), .val (.ref b2), .unset, .unset, .unset, .unset]) rfl ?_
    refine XS.aload X3.here hx rfl (hb hby at_63) rfl rfl ?_
    refine st4 _ ?_
    refine XS.astore X4.here hx rfl (hb hby at_68) rfl rfl (l' := #[.val (.int p1), .val (.int p2), .val (.int p3), .val (.int p4), .val .null, .val .null, .val (.ref b1_b9), .val (.ref b2), .val (.ref b4_b2), .unset, .unset, .unset]) rfl ?_
    refine XS.aload X4.here hx rfl (hb hby at_70) rfl rfl ?_
    refine st5 _ ?_
    refine XS.aload X5.here hx rfl (hb hby at_75) rfl rfl ?_
    refine st6 _ ?_
    refine XS.ifNo X6.here hx rfl (hb hby at_80) rfl ((if0 _ _).trans (feq ((by decide : ¬ ((1 : Int32) = (0 : Int32))) : ¬ ((1 : Int32) = (0 : Int32)))).1) ?_
    show Steps p.tables e below (T6.setTop (mkF m 83 #[.val (.int p1), .val (.int p2), .val (.int p3), .val (.int p4), .val .null, .val .null, .val (.ref b1_b9), .val (.ref b2), .val (.ref b4_b2), .unset, .unset, .unset] [])) _
    refine XS.aload X6.here hx rfl (hb hby at_83) rfl rfl ?_
    refine st7 _ ?_
    refine XS.aload X7.here hx rfl (hb hby at_88) rfl rfl ?_
    refine st9 _ ?_
    refine XS.ifNo X9.here hx rfl (hb hby at_93) rfl ((if0 _ _).trans (feq ((by decide : ¬ ((1 : Int32) = (0 : Int32))) : ¬ ((1 : Int32) = (0 : Int32)))).1) ?_
    refine XS.aload X9.here hx rfl (hb hby at_96) rfl rfl ?_
    refine st10 _ ?_
    refine XS.aload X10.here hx rfl (hb hby at_101) rfl rfl ?_
    refine st11 _ ?_
    refine XS.ifNo X11.here hx rfl (hb hby at_106) rfl ((if0 _ _).trans (feq ((by decide : ¬ ((1 : Int32) = (0 : Int32))) : ¬ ((1 : Int32) = (0 : Int32)))).1) ?_
    refine XS.iconst X11.here hx rfl (hb hby at_109) ?_
    refine XS.goto X11.here hx rfl (pc0 := 110) (pc' := 114) rfl (hb hby at_110) (by decide) (by decide) ?_
    show Steps p.tables e below (T11.setTop (mkF m 114 #[.val (.int p1), .val (.int p2), .val (.int p3), .val (.int p4), .val .null, .val .null, .val (.ref b1_b9), .val (.ref b2), .val (.ref b4_b2), .unset, .unset, .unset] [(.int (1 : Int32))])) _
    refine XS.istore X11.here hx rfl (hb hby at_114) rfl (l' := #[.val (.int p1), .val (.int p2), .val (.int p3), .val (.int p4), .val .null, .val .null, .val (.ref b1_b9), .val (.ref b2), .val (.ref b4_b2), .val (.int (1 : Int32)), .unset, .unset]) rfl ?_
    refine XS.aload X11.here hx rfl (hb hby at_116) rfl rfl ?_
    refine st12 _ ?_
    refine XS.astore X12.here hx rfl (hb hby at_121) rfl rfl (l' := #[.val (.int p1), .val (.int p2), .val (.int p3), .val (.int p4), .val .null, .val .null, .val (.ref b1_b9), .val (.ref b2), .val (.ref b4_b2), .val (.int (1 : Int32)), .val (.ref b12_b2), .unset]) rfl ?_
    refine XS.aload X12.here hx rfl (hb hby at_123) rfl rfl ?_
    refine st13 _ ?_
    refine XS.aload X13.here hx rfl (hb hby at_128) rfl rfl ?_
    refine st14 _ ?_
    refine XS.ifNo X14.here hx rfl (hb hby at_133) rfl ((if0 _ _).trans (feq ((by decide : ¬ ((1 : Int32) = (0 : Int32))) : ¬ ((1 : Int32) = (0 : Int32)))).1) ?_
    refine XS.aload X14.here hx rfl (hb hby at_136) rfl rfl ?_
    refine st15 _ ?_
    refine XS.aload X15.here hx rfl (hb hby at_141) rfl rfl ?_
    show Steps p.tables e below (T15.setTop (mkF m 143 #[.val (.int p1), .val (.int p2), .val (.int p3), .val (.int p4), .val .null, .val .null, .val (.ref b1_b9), .val (.ref b2), .val (.ref b4_b2), .val (.int (1 : Int32)), .val (.ref b12_b2), .unset] [.null, .null])) _
    refine st16 _ ?_
    refine XS.ifNo X16.here hx rfl (hb hby at_146) rfl ((if0 _ _).trans (feq ((by decide : ¬ ((1 : Int32) = (0 : Int32))) : ¬ ((1 : Int32) = (0 : Int32)))).1) ?_
    refine XS.aload X16.here hx rfl (hb hby at_149) rfl rfl ?_
    refine st17 _ ?_
    refine XS.aload X17.here hx rfl (hb hby at_154) rfl rfl ?_
    refine st19 _ ?_
    refine XS.ifNo X19.here hx rfl (hb hby at_159) rfl ((if0 _ _).trans (feq ((by decide : ¬ ((1 : Int32) = (0 : Int32))) : ¬ ((1 : Int32) = (0 : Int32)))).1) ?_
    refine XS.iconst X19.here hx rfl (hb hby at_162) ?_
    refine XS.goto X19.here hx rfl (pc0 := 163) (pc' := 167) rfl (hb hby at_163) (by decide) (by decide) ?_
    refine XS.istore X19.here hx rfl (hb hby at_167) rfl (l' := #[.val (.int p1), .val (.int p2), .val (.int p3), .val (.int p4), .val .null, .val .null, .val (.ref b1_b9), .val (.ref b2), .val (.ref b4_b2), .val (.int (1 : Int32)), .val (.ref b12_b2), .val (.int (1 : Int32))]) rfl ?_
    refine XS.iload X19.here hx rfl (hb hby at_169) rfl ?_
    refine XS.ifNo X19.here hx rfl (hb hby at_171) rfl ((if0 _ _).trans (feq ((by decide : ¬ ((1 : Int32) = (0 : Int32))) : ¬ ((1 : Int32) = (0 : Int32)))).1) ?_
    show Steps p.tables e below (T19.setTop (mkF m 174 #[.val (.int p1), .val (.int p2), .val (.int p3), .val (.int p4), .val .null, .val .null, .val (.ref b1_b9), .val (.ref b2), .val (.ref b4_b2), .val (.int (1 : Int32)), .val (.ref b12_b2), .val (.int (1 : Int32))] [])) _
    refine XS.iload X19.here hx rfl (hb hby at_174) rfl ?_
    refine XS.ifNo X19.here hx rfl (hb hby at_176) rfl ((if0 _ _).trans (feq ((by decide : ¬ ((1 : Int32) = (0 : Int32))) : ¬ ((1 : Int32) = (0 : Int32)))).1) ?_
    refine XS.iconst X19.here hx rfl (hb hby at_179) ?_
    refine XS.goto X19.here hx rfl (pc0 := 180) (pc' := 184) rfl (hb hby at_180) (by decide) (by decide) ?_
    exact retN X19 hx (t := .boolean) hret (by simp) (hb hby at_184) hr
-- com/example/whenfree/whenfree/Dialog.<init>(Ljava/lang/String;Ljava/lang/String;Ljava/lang/String;)V
abbrev Rm31 : Room := { frames := 2, cells := 0, slots := 0, locals := 24 }
def Q31 (Z : State) (a1 : Addr) (h0 : Heap) (n0 : Nat) (v : Option Value) (h : Heap) (L : List Loc) : Prop := v = none ∧ Fr n0 L ∧ Keep h0 h [a1] ∧ Exa Z h a1 "com/example/whenfree/whenfree/Dialog" ∧ Fld Z h a1 "com/example/whenfree/whenfree/Dialog" "callId" "Ljava/lang/String;" .null ∧ Fld Z h a1 "com/example/whenfree/whenfree/Dialog" "uacTag" "Ljava/lang/String;" .null ∧ Fld Z h a1 "com/example/whenfree/whenfree/Dialog" "uasTag" "Ljava/lang/String;" .null
theorem ef31 (a1 : Addr) (m : MethodId) : entryFrame m #[(.ref a1), .null, .null, .null] 4 = mkF m 0 #[.val (.ref a1), .val .null, .val .null, .val .null] [] := by first | (simp [entryFrame, mkF, argsToLocals, Value.category]; done) | rfl
theorem rm31 (l : Launch) (Z : State) (a0 : Array Value) (hw : ∀ d ∈ tables_1, d.before a0 Z = true) (ws : List Jvm.Cond) (a1 : Addr) (h0 : Heap) (n0 : Nat) (Z0 : n0 ≤ h0.size) (F_callId_a1 : Fld Z h0 a1 "com/example/whenfree/whenfree/Dialog" "callId" "Ljava/lang/String;" .null) (E_a1 : Exa Z h0 a1 "com/example/whenfree/whenfree/Dialog") (g_a1 : n0 ≤ a1) (F_uacTag_a1 : Fld Z h0 a1 "com/example/whenfree/whenfree/Dialog" "uacTag" "Ljava/lang/String;" .null) (F_uasTag_a1 : Fld Z h0 a1 "com/example/whenfree/whenfree/Dialog" "uasTag" "Ljava/lang/String;" .null) :
    OwnMet l Z y_7 prog_10_method_1_code 4 none ws Rm31 #[(.ref a1), .null, .null, .null] h0 (Q31 Z a1 h0 n0) := by
  refine own_body (plainFor_of_name pn_4) (ef31 a1) ?_
  intro p e s m below meth c s₁ hx hby hml hown hnm hret hZ X0 e0
  have N0 := Fr.nil n0
  obtain ⟨_, T2, L2, X2, hQ2, st2⟩ := own_special X0 hx hZ hown (y := y_6) (a := a1) (w_40 hw) (w_41 hw) (w_43 hw) (w_44 hw) (rm7 l Z a0 hw [] a1 h0 n0 Z0) e0 (Ls := #[.val (.ref a1), .val .null, .val .null, .val .null]) (by rw [hml]; rfl) (argsL := []) (rest := []) (lenOf pd_6 rfl) (hb hby d8_1) (W := 0)
  obtain ⟨rfl, Nq2, e2⟩ := hQ2
  have N2 := Fr.app N0 Nq2
  obtain ⟨T3, h3, X3, e3, W3, st3⟩ := putF X2 hx hZ hown (host := "") (Or.inl (w_46 hw)) Via.refl e2 F_callId_a1 E_a1 (Or.inr ⟨(w_47 hw), rfl, hnm⟩) (w_35 hw) (ty := (.object "java/lang/String")) (by decide) rfl rfl (g := (mkF m 6 #[.val (.ref a1), .val .null, .val .null, .val .null] [.null, (.ref a1)])) rfl rfl (hb hby d8_6)
  have s0 := (Keep.of_wr W3).1
  have N3 := Fr.snoc X3 N2 g_a1
  have Fw3 : Fld Z h3 a1 "com/example/whenfree/whenfree/Dialog" "callId" "Ljava/lang/String;" .null := F_callId_a1.same W3
  have Ex4 := (E_a1.wr W3)
  have Fl5 := (F_uacTag_a1.other W3 (Or.inr (slot_ne (Or.inr (w_49 hw)) (Or.inr (w_47 hw)) (by decide) (t := (.object "java/lang/String")) (t' := (.object "java/lang/String")) (by decide) (by decide))))
  obtain ⟨T6, h6, X6, e6, W6, st6⟩ := putF X3 hx hZ hown (host := "") (Or.inl (w_48 hw)) Via.refl e3 Fl5 Ex4 (Or.inr ⟨(w_49 hw), rfl, hnm⟩) (w_35 hw) (ty := (.object "java/lang/String")) (by decide) rfl rfl (g := (mkF m 11 #[.val (.ref a1), .val .null, .val .null, .val .null] [.null, (.ref a1)])) rfl rfl (hb hby d8_11)
  have s1 := (Keep.of_wr W6).1
  have N6 := Fr.snoc X6 N3 g_a1
  have Fw6 : Fld Z h6 a1 "com/example/whenfree/whenfree/Dialog" "uacTag" "Ljava/lang/String;" .null := Fl5.same W6
  have Ex7 := (Ex4.wr W6)
  have Fl8 := ((F_uasTag_a1.other W3 (Or.inr (slot_ne (Or.inr (w_51 hw)) (Or.inr (w_47 hw)) (by decide) (t := (.object "java/lang/String")) (t' := (.object "java/lang/String")) (by decide) (by decide)))).other W6 (Or.inr (slot_ne (Or.inr (w_51 hw)) (Or.inr (w_49 hw)) (by decide) (t := (.object "java/lang/String")) (t' := (.object "java/lang/String")) (by decide) (by decide))))
  obtain ⟨T9, h9, X9, e9, W9, st9⟩ := putF X6 hx hZ hown (host := "") (Or.inl (w_50 hw)) Via.refl e6 Fl8 Ex7 (Or.inr ⟨(w_51 hw), rfl, hnm⟩) (w_35 hw) (ty := (.object "java/lang/String")) (by decide) rfl rfl (g := (mkF m 16 #[.val (.ref a1), .val .null, .val .null, .val .null] [.null, (.ref a1)])) rfl rfl (hb hby d8_16)
  have s2 := (Keep.of_wr W9).1
  have N9 := Fr.snoc X9 N6 g_a1
  have Fw9 : Fld Z h9 a1 "com/example/whenfree/whenfree/Dialog" "uasTag" "Ljava/lang/String;" .null := Fl8.same W9
  have Ex10 := (Ex7.wr W9)
  have Fl11 := ((Fw3.other W6 (Or.inr (slot_ne (Or.inr (w_47 hw)) (Or.inr (w_49 hw)) (by decide) (t := (.object "java/lang/String")) (t' := (.object "java/lang/String")) (by decide) (by decide)))).other W9 (Or.inr (slot_ne (Or.inr (w_47 hw)) (Or.inr (w_51 hw)) (by decide) (t := (.object "java/lang/String")) (t' := (.object "java/lang/String")) (by decide) (by decide))))
  have Fl12 := (Fw6.other W9 (Or.inr (slot_ne (Or.inr (w_49 hw)) (Or.inr (w_51 hw)) (by decide) (t := (.object "java/lang/String")) (t' := (.object "java/lang/String")) (by decide) (by decide))))
  have Kp0 : Keep h0 h3 [a1] := (Keep.refl h0 [a1]).wr W3 (Or.inl (List.mem_of_getElem? (i := 0) rfl))
  have Kp1 : Keep h0 h6 [a1] := Kp0.wr W6 (Or.inl (List.mem_of_getElem? (i := 0) rfl))
  have Kp2 : Keep h0 h9 [a1] := Kp1.wr W9 (Or.inl (List.mem_of_getElem? (i := 0) rfl))
  refine ⟨T9, _, _, _, none, X9, (fun _ => rfl), by decide, by decide, ?_, fun fs hr => ?_⟩
  · show Q31 Z a1 h0 n0 _ T9.heap _
    rw [e9]
    exact ⟨rfl, N9, Kp2, Ex10, Fl11, Fl12, Fw9⟩
  · show Steps p.tables e below (s₁.setTop (mkF m 0 #[.val (.ref a1), .val .null, .val .null, .val .null] [])) _
    refine XS.aloadN X0.here hx rfl (hb hby d8_0) rfl rfl ?_
    refine st2 _ ?_
    refine XS.aloadN X2.here hx rfl (hb hby d8_4) rfl rfl ?_
    refine XS.aloadN X2.here hx rfl (hb hby d8_5) rfl rfl ?_
    refine st3 _ ?_
    refine XS.aloadN X3.here hx rfl (hb hby d8_9) rfl rfl ?_
    refine XS.aloadN X3.here hx rfl (hb hby d8_10) rfl rfl ?_
    refine st6 _ ?_
    refine XS.aloadN X6.here hx rfl (hb hby d8_14) rfl rfl ?_
    refine XS.aloadN X6.here hx rfl (hb hby d8_15) rfl rfl ?_
    refine st9 _ ?_
    exact X9.returnOut hx hret (hb hby d8_19) hr
-- com/example/whenfree/whenfree/Dialog.reversed()Lcom/example/whenfree/whenfree/Dialog;
abbrev Rm32 : Room := { frames := 3, cells := 1, slots := 3, locals := 40 }
def Q32 (Z : State) (a1 : Addr) (h0 : Heap) (n0 : Nat) (v : Option Value) (h : Heap) (L : List Loc) : Prop := ∃ b2 : Addr, v = some (.ref b2) ∧ Fr n0 L ∧ Keep h0 h [] ∧ h0.size ≤ b2 ∧ Exa Z h b2 "com/example/whenfree/whenfree/Dialog" ∧ Fld Z h b2 "com/example/whenfree/whenfree/Dialog" "callId" "Ljava/lang/String;" .null ∧ Fld Z h b2 "com/example/whenfree/whenfree/Dialog" "uacTag" "Ljava/lang/String;" .null ∧ Fld Z h b2 "com/example/whenfree/whenfree/Dialog" "uasTag" "Ljava/lang/String;" .null
theorem ef32 (a1 : Addr) (m : MethodId) : entryFrame m #[(.ref a1)] 1 = mkF m 0 #[.val (.ref a1)] [] := by first | (simp [entryFrame, mkF, argsToLocals, Value.category]; done) | rfl
theorem rm32 (l : Launch) (Z : State) (a0 : Array Value) (hw : ∀ d ∈ tables_1, d.before a0 Z = true) (ws : List Jvm.Cond) (a1 : Addr) (h0 : Heap) (n0 : Nat) (Z0 : n0 ≤ h0.size) (F_callId_a1 : Fld Z h0 a1 "com/example/whenfree/whenfree/Dialog" "callId" "Ljava/lang/String;" .null) (F_uasTag_a1 : Fld Z h0 a1 "com/example/whenfree/whenfree/Dialog" "uasTag" "Ljava/lang/String;" .null) (F_uacTag_a1 : Fld Z h0 a1 "com/example/whenfree/whenfree/Dialog" "uacTag" "Ljava/lang/String;" .null) :
    OwnMet l Z y_8 prog_10_method_3_code 1 (some (.object "com/example/whenfree/whenfree/Dialog")) ws Rm32 #[(.ref a1)] h0 (Q32 Z a1 h0 n0) := by
  refine own_body (plainFor_of_name pn_4) (ef32 a1) ?_
  intro p e s m below meth c s₁ hx hby hml hown hnm hret hZ X0 e0
  have N0 := Fr.nil n0
  obtain ⟨T2, h2, X2, e2, E2, A2, D2, -, st2⟩ := newO X0 hx hZ hown (w_57 hw) (w_35 hw) (w_36 hw) e0 (g := (mkF m 0 #[.val (.ref a1)] [])) rfl (hb hby d10_0) (by decide) (by decide)
  obtain ⟨b2, g2⟩ : ∃ z, z = h0.size := ⟨_, rfl⟩
  rw [← g2] at A2 D2 st2
  have s0 := E2.1
  have Fn2_callId : Fld Z h2 b2 "com/example/whenfree/whenfree/Dialog" "callId" "Ljava/lang/String;" .null := D2 (Or.inr (w_47 hw)) (ty := (.object "java/lang/String")) (by decide)
  have Fn2_uacTag : Fld Z h2 b2 "com/example/whenfree/whenfree/Dialog" "uacTag" "Ljava/lang/String;" .null := D2 (Or.inr (w_49 hw)) (ty := (.object "java/lang/String")) (by decide)
  have Fn2_uasTag : Fld Z h2 b2 "com/example/whenfree/whenfree/Dialog" "uasTag" "Ljava/lang/String;" .null := D2 (Or.inr (w_51 hw)) (ty := (.object "java/lang/String")) (by decide)
  have Fl3 := (F_callId_a1.ext E2)
  obtain ⟨T4, X4, e4, st4⟩ := getF X2 hx hZ hown (host := "") (Or.inl (w_46 hw)) Via.refl e2 Fl3 (g := (mkF m 5 #[.val (.ref a1)] [(.ref a1), (.ref b2), (.ref b2)])) rfl rfl (hb hby d10_5)
  have Fl5 := (F_uasTag_a1.ext E2)
  obtain ⟨T6, X6, e6, st6⟩ := getF X4 hx hZ hown (host := "") (Or.inl (w_50 hw)) Via.refl e4 Fl5 (g := (mkF m 9 #[.val (.ref a1)] [(.ref a1), .null, (.ref b2), (.ref b2)])) rfl rfl (hb hby d10_9)
  have Fl7 := (F_uacTag_a1.ext E2)
  obtain ⟨T8, X8, e8, st8⟩ := getF X6 hx hZ hown (host := "") (Or.inl (w_48 hw)) Via.refl e6 Fl7 (g := (mkF m 13 #[.val (.ref a1)] [(.ref a1), .null, .null, (.ref b2), (.ref b2)])) rfl rfl (hb hby d10_13)
  have g_b2 : n0 ≤ b2 := Nat.le_trans Z0 (Nat.le_of_eq g2.symm)
  have z1 := Nat.le_trans Z0 s0
  obtain ⟨_, T9, L9, X9, hQ9, st9⟩ := own_special X8 hx hZ hown (y := y_7) (a := b2) (w_58 hw) (w_38 hw) (w_36 hw) (w_39 hw) (rm31 l Z a0 hw [] b2 h2 n0 z1 Fn2_callId A2 g_b2 Fn2_uacTag Fn2_uasTag) e8 (Ls := #[.val (.ref a1)]) (by rw [hml]; rfl) (argsL := [.null, .null, .null]) (rest := [(.ref b2)]) (lenOf pd_7 rfl) (hb hby d10_16) (W := 1)
  obtain ⟨rfl, Nq9, K9, o9_0, o9_1, o9_2, o9_3⟩ := hQ9
  have N9 := Fr.app N0 Nq9
  have s1 := K9.1
  have sz_b2 : h0.size ≤ b2 := (Nat.le_of_eq g2.symm)
  have Kp0 : Keep h0 h2 [] := (Keep.refl h0 []).ext E2
  have Kp1 : Keep h0 T9.heap [] := Kp0.trans K9 (allS (Or.inr sz_b2) all0)
  refine ⟨T9, _, _, _, (some (.ref b2)), X9, nofun, by decide, by decide, ?_, fun fs hr => ?_⟩
  · show Q32 Z a1 h0 n0 _ T9.heap _
    exact ⟨b2, rfl, N9, Kp1, sz_b2, o9_0, o9_1, o9_2, o9_3⟩
  · show Steps p.tables e below (s₁.setTop (mkF m 0 #[.val (.ref a1)] [])) _
    refine st2 _ ?_
    refine XS.dup X2.here hx rfl (hb hby d10_3) rfl rfl ?_
    refine XS.aloadN X2.here hx rfl (hb hby d10_4) rfl rfl ?_
    refine st4 _ ?_
    refine XS.aloadN X4.here hx rfl (hb hby d10_8) rfl rfl ?_
    refine st6 _ ?_
    refine XS.aloadN X6.here hx rfl (hb hby d10_12) rfl rfl ?_
    refine st8 _ ?_
    refine st9 _ ?_
    exact retOut X9 hx hret rfl (Or.inr (Or.inr (Or.inr (Or.inr ⟨rfl, rfl, rfl⟩)))) (hb hby d10_19) hr
theorem rm0_7 (l : Launch) (Z : State) (a0 : Array Value) (hw : ∀ d ∈ tables_1, d.before a0 Z = true) (ws : List Jvm.Cond) (p1 : Int32) (p2 : Int32) (p3 : Int32) (p4 : Int32) (cs : Int32) (h0 : Heap) (n0 : Nat) (Z0 : n0 ≤ h0.size) (S_cs : Sta Z Z.heap "java/lang/String" "COMPACT_STRINGS" "Z" (.int cs)) (c_cs : ¬ (cs = (0 : Int32))) (Od0 : Old Z n0 h0) (cc1 : ¬ ((p4 &&& (4 : Int32)) = (0 : Int32))) (cc2 : ¬ ((p4 &&& (1 : Int32)) = (0 : Int32))) (cc3 : ¬ ((p4 &&& (2 : Int32)) = (0 : Int32))) :
    OwnMet l Z x code maxLocals ret ws room_1 #[(.int p1), (.int p2), (.int p3), (.int p4)] h0 (Q0 n0) := by
  refine own_body (plainFor_of_name pn_2) (ef0 p1 p2 p3 p4) ?_
  intro p e s m below meth c s₁ hx hby hml hown hnm hret hZ X0 e0
  have N0 := Fr.nil n0
  obtain ⟨T1, h1, X1, e1, E1, A1, D1, -, st1⟩ := newO X0 hx hZ hown (w_34 hw) (w_35 hw) (w_36 hw) e0 (g := (mkF m 48 #[.val (.int p1), .val (.int p2), .val (.int p3), .val (.int p4), .val .null, .val .null, .val .null, .unset, .unset, .unset, .unset, .unset] [])) rfl (hb hby at_48) (by decide) (by decide)
  obtain ⟨b1, g1⟩ : ∃ z, z = h0.size := ⟨_, rfl⟩
  rw [← g1] at A1 D1 st1
  have s0 := E1.1
  have Fn1_callId : Fld Z h1 b1 "com/example/whenfree/whenfree/Dialog" "callId" "Ljava/lang/String;" .null := D1 (Or.inr (w_47 hw)) (ty := (.object "java/lang/String")) (by decide)
  have Fn1_uacTag : Fld Z h1 b1 "com/example/whenfree/whenfree/Dialog" "uacTag" "Ljava/lang/String;" .null := D1 (Or.inr (w_49 hw)) (ty := (.object "java/lang/String")) (by decide)
  have Fn1_uasTag : Fld Z h1 b1 "com/example/whenfree/whenfree/Dialog" "uasTag" "Ljava/lang/String;" .null := D1 (Or.inr (w_51 hw)) (ty := (.object "java/lang/String")) (by decide)
  have g_b1 : n0 ≤ b1 := Nat.le_trans Z0 (Nat.le_of_eq g1.symm)
  have z1 := Nat.le_trans Z0 s0
  obtain ⟨_, T2, L2, X2, hQ2, st2⟩ := own_special X1 hx hZ hown (y := y_7) (a := b1) (w_37 hw) (w_38 hw) (w_36 hw) (w_39 hw) (rm31 l Z a0 hw [] b1 h1 n0 z1 Fn1_callId A1 g_b1 Fn1_uacTag Fn1_uasTag) e1 (Ls := #[.val (.int p1), .val (.int p2), .val (.int p3), .val (.int p4), .val .null, .val .null, .val .null, .unset, .unset, .unset, .unset, .unset]) (by rw [hml]; rfl) (argsL := [.null, .null, .null]) (rest := [(.ref b1)]) (lenOf pd_7 rfl) (hb hby at_58) (W := 1)
  obtain ⟨rfl, Nq2, K2, o2_0, o2_1, o2_2, o2_3⟩ := hQ2
  have N2 := Fr.app N0 Nq2
  have s1 := K2.1
  have z2 := Nat.le_trans Z0 (Nat.le_trans s0 s1)
  obtain ⟨_, T3, L3, X3, hQ3, st3⟩ := own_virtual X2 hx hZ hown (y := y_8) (z := y_8) o2_0 (w_52 hw) (w_53 hw) (notFace_of_selects (args := #[]) (mvT hZ (w_55 hw))) (w_55 hw) (w_54 hw) (w_36 hw) (w_56 hw) (rm32 l Z a0 hw [] b1 T2.heap n0 z2 o2_1 o2_3 o2_2) rfl (Ls := #[.val (.int p1), .val (.int p2), .val (.int p3), .val (.int p4), .val .null, .val .null, .val .null, .val (.ref b1), .unset, .unset, .unset, .unset]) (by rw [hml]; rfl) (argsL := []) (rest := []) (lenOf pd_8 rfl) (hb hby at_65) (W := 0)
  obtain ⟨b3_b2, rfl, Nq3, K3, o3_0, o3_1, o3_2, o3_3, o3_4⟩ := hQ3
  have N3 := Fr.app N2 Nq3
  have s2 := K3.1
  have z3 := Nat.le_trans Z0 (Nat.le_trans (Nat.le_trans s0 s1) s2)
  obtain ⟨_, T4, L4, X4, hQ4, st4⟩ := own_virtual X3 hx hZ hown (y := y_9) (z := y_9) o3_1 (w_59 hw) (w_60 hw) (notFace_of_selects (args := #[]) (mvT hZ (w_62 hw))) (w_62 hw) (w_61 hw) (w_36 hw) (w_63 hw) (rm26 l Z a0 hw [] b3_b2 T3.heap n0 z3 o3_2) rfl (Ls := #[.val (.int p1), .val (.int p2), .val (.int p3), .val (.int p4), .val .null, .val .null, .val .null, .val (.ref b1), .val (.ref b3_b2), .unset, .unset, .unset]) (by rw [hml]; rfl) (argsL := []) (rest := []) (lenOf pd_9 rfl) (hb hby at_72) (W := 0)
  obtain ⟨rfl, Nq4, e4⟩ := hQ4
  have N4 := Fr.app N3 Nq4
  obtain ⟨_, T5, L5, X5, hQ5, st5⟩ := own_callS X4 hx hZ hown (y := y_11) (w_64 hw) (w_65 hw) (w_2 hw) (w_66 hw) (rm19 l Z a0 hw []  T3.heap n0 z3) e4 (Ls := #[.val (.int p1), .val (.int p2), .val (.int p3), .val (.int p4), .val .null, .val .null, .val .null, .val (.ref b1), .val (.ref b3_b2), .unset, .unset, .unset]) (by rw [hml]; rfl) (argsL := [.null, .null]) (rest := []) (lenOf pd_11 rfl) (hb hby at_77) (W := 0)
  obtain ⟨rfl, Nq5, e5⟩ := hQ5
  have N5 := Fr.app N4 Nq5
  obtain ⟨_, T6, L6, X6, hQ6, st6⟩ := own_virtual X5 hx hZ hown (y := y_12) (z := y_12) o3_1 (w_72 hw) (w_73 hw) (notFace_of_selects (args := #[]) (mvT hZ (w_75 hw))) (w_75 hw) (w_74 hw) (w_36 hw) (w_76 hw) (rm18 l Z a0 hw [] b3_b2 T3.heap n0 z3 o3_3) e5 (Ls := #[.val (.int p1), .val (.int p2), .val (.int p3), .val (.int p4), .val .null, .val .null, .val .null, .val (.ref b1), .val (.ref b3_b2), .unset, .unset, .unset]) (by rw [hml]; rfl) (argsL := []) (rest := []) (lenOf pd_9 rfl) (hb hby at_85) (W := 0)
  obtain ⟨rfl, Nq6, e6⟩ := hQ6
  have N6 := Fr.app N5 Nq6
  obtain ⟨_, T7, L7, X7, hQ7, st7⟩ := own_callS X6 hx hZ hown (y := y_11) (w_64 hw) (w_65 hw) (w_2 hw) (w_66 hw) (rm19 l Z a0 hw []  T3.heap n0 z3) e6 (Ls := #[.val (.int p1), .val (.int p2), .val (.int p3), .val (.int p4), .val .null, .val .null, .val .null, .val (.ref b1), .val (.ref b3_b2), .unset, .unset, .unset]) (by rw [hml]; rfl) (argsL := [.null, .null]) (rest := []) (lenOf pd_11 rfl) (hb hby at_90) (W := 0)
  obtain ⟨rfl, Nq7, e7⟩ := hQ7
  have N7 := Fr.app N6 Nq7
  obtain ⟨_, T8, L8, X8, hQ8, st8⟩ := own_virtual X7 hx hZ hown (y := y_13) (z := y_13) o3_1 (w_77 hw) (w_78 hw) (notFace_of_selects (args := #[]) (mvT hZ (w_80 hw))) (w_80 hw) (w_79 hw) (w_36 hw) (w_81 hw) (rm21 l Z a0 hw [] b3_b2 T3.heap n0 z3 o3_4) e7 (Ls := #[.val (.int p1), .val (.int p2), .val (.int p3), .val (.int p4), .val .null, .val .null, .val .null, .val (.ref b1), .val (.ref b3_b2), .unset, .unset, .unset]) (by rw [hml]; rfl) (argsL := []) (rest := []) (lenOf pd_9 rfl) (hb hby at_98) (W := 0)
  obtain ⟨rfl, Nq8, e8⟩ := hQ8
  have N8 := Fr.app N7 Nq8
  obtain ⟨_, T9, L9, X9, hQ9, st9⟩ := own_callS X8 hx hZ hown (y := y_11) (w_64 hw) (w_65 hw) (w_2 hw) (w_66 hw) (rm19 l Z a0 hw []  T3.heap n0 z3) e8 (Ls := #[.val (.int p1), .val (.int p2), .val (.int p3), .val (.int p4), .val .null, .val .null, .val .null, .val (.ref b1), .val (.ref b3_b2), .unset, .unset, .unset]) (by rw [hml]; rfl) (argsL := [.null, .null]) (rest := []) (lenOf pd_11 rfl) (hb hby at_103) (W := 0)
  obtain ⟨rfl, Nq9, e9⟩ := hQ9
  have N9 := Fr.app N8 Nq9
  obtain ⟨_, T10, L10, X10, hQ10, st10⟩ := own_virtual X9 hx hZ hown (y := y_8) (z := y_8) o3_1 (w_52 hw) (w_53 hw) (notFace_of_selects (args := #[]) (mvT hZ (w_55 hw))) (w_55 hw) (w_54 hw) (w_36 hw) (w_56 hw) (rm32 l Z a0 hw [] b3_b2 T3.heap n0 z3 o3_2 o3_4 o3_3) e9 (Ls := #[.val (.int p1), .val (.int p2), .val (.int p3), .val (.int p4), .val .null, .val .null, .val .null, .val (.ref b1), .val (.ref b3_b2), .val (.int (1 : Int32)), .unset, .unset]) (by rw [hml]; rfl) (argsL := []) (rest := []) (lenOf pd_8 rfl) (hb hby at_118) (W := 0)
  obtain ⟨b10_b2, rfl, Nq10, K10, o10_0, o10_1, o10_2, o10_3, o10_4⟩ := hQ10
  have N10 := Fr.app N9 Nq10
  have s3 := K10.1
  have z4 := Nat.le_trans Z0 (Nat.le_trans (Nat.le_trans (Nat.le_trans s0 s1) s2) s3)
  obtain ⟨_, T11, L11, X11, hQ11, st11⟩ := own_virtual X10 hx hZ hown (y := y_9) (z := y_9) o10_1 (w_59 hw) (w_60 hw) (notFace_of_selects (args := #[]) (mvT hZ (w_62 hw))) (w_62 hw) (w_61 hw) (w_36 hw) (w_63 hw) (rm26 l Z a0 hw [] b10_b2 T10.heap n0 z4 o10_2) rfl (Ls := #[.val (.int p1), .val (.int p2), .val (.int p3), .val (.int p4), .val .null, .val .null, .val .null, .val (.ref b1), .val (.ref b3_b2), .val (.int (1 : Int32)), .val (.ref b10_b2), .unset]) (by rw [hml]; rfl) (argsL := []) (rest := []) (lenOf pd_9 rfl) (hb hby at_125) (W := 0)
  obtain ⟨rfl, Nq11, e11⟩ := hQ11
  have N11 := Fr.app N10 Nq11
  obtain ⟨_, T12, L12, X12, hQ12, st12⟩ := own_callS X11 hx hZ hown (y := y_11) (w_64 hw) (w_65 hw) (w_2 hw) (w_66 hw) (rm19 l Z a0 hw []  T10.heap n0 z4) e11 (Ls := #[.val (.int p1), .val (.int p2), .val (.int p3), .val (.int p4), .val .null, .val .null, .val .null, .val (.ref b1), .val (.ref b3_b2), .val (.int (1 : Int32)), .val (.ref b10_b2), .unset]) (by rw [hml]; rfl) (argsL := [.null, .null]) (rest := []) (lenOf pd_11 rfl) (hb hby at_130) (W := 0)
  obtain ⟨rfl, Nq12, e12⟩ := hQ12
  have N12 := Fr.app N11 Nq12
  obtain ⟨_, T13, L13, X13, hQ13, st13⟩ := own_virtual X12 hx hZ hown (y := y_12) (z := y_12) o10_1 (w_72 hw) (w_73 hw) (notFace_of_selects (args := #[]) (mvT hZ (w_75 hw))) (w_75 hw) (w_74 hw) (w_36 hw) (w_76 hw) (rm18 l Z a0 hw [] b10_b2 T10.heap n0 z4 o10_3) e12 (Ls := #[.val (.int p1), .val (.int p2), .val (.int p3), .val (.int p4), .val .null, .val .null, .val .null, .val (.ref b1), .val (.ref b3_b2), .val (.int (1 : Int32)), .val (.ref b10_b2), .unset]) (by rw [hml]; rfl) (argsL := []) (rest := []) (lenOf pd_9 rfl) (hb hby at_138) (W := 0)
  obtain ⟨rfl, Nq13, e13⟩ := hQ13
  have N13 := Fr.app N12 Nq13
  obtain ⟨_, T14, L14, X14, hQ14, st14⟩ := own_callS X13 hx hZ hown (y := y_11) (w_64 hw) (w_65 hw) (w_2 hw) (w_66 hw) (rm19 l Z a0 hw []  T10.heap n0 z4) e13 (Ls := #[.val (.int p1), .val (.int p2), .val (.int p3), .val (.int p4), .val .null, .val .null, .val .null, .val (.ref b1), .val (.ref b3_b2), .val (.int (1 : Int32)), .val (.ref b10_b2), .unset]) (by rw [hml]; rfl) (argsL := [.null, .null]) (rest := []) (lenOf pd_11 rfl) (hb hby at_143) (W := 0)
  obtain ⟨rfl, Nq14, e14⟩ := hQ14
  have N14 := Fr.app N13 Nq14
  obtain ⟨_, T15, L15, X15, hQ15, st15⟩ := own_virtual X14 hx hZ hown (y := y_13) (z := y_13) o10_1 (w_77 hw) (w_78 hw) (notFace_of_selects (args := #[]) (mvT hZ (w_80 hw))) (w_80 hw) (w_79 hw) (w_36 hw) (w_81 hw) (rm21 l Z a0 hw [] b10_b2 T10.heap n0 z4 o10_4) e14 (Ls := #[.val (.int p1), .val (.int p2), .val (.int p3), .val (.int p4), .val .null, .val .null, .val .null, .val (.ref b1), .val (.ref b3_b2), .val (.int (1 : Int32)), .val (.ref b10_b2), .unset]) (by rw [hml]; rfl) (argsL := []) (rest := []) (lenOf pd_9 rfl) (hb hby at_151) (W := 0)
  obtain ⟨rfl, Nq15, e15⟩ := hQ15
  have N15 := Fr.app N14 Nq15
  obtain ⟨_, T16, L16, X16, hQ16, st16⟩ := own_callS X15 hx hZ hown (y := y_11) (w_64 hw) (w_65 hw) (w_2 hw) (w_66 hw) (rm19 l Z a0 hw []  T10.heap n0 z4) e15 (Ls := #[.val (.int p1), .val (.int p2), .val (.int p3), .val (.int p4), .val .null, .val .null, .val .null, .val (.ref b1), .val (.ref b3_b2), .val (.int (1 : Int32)), .val (.ref b10_b2), .unset]) (by rw [hml]; rfl) (argsL := [.null, .null]) (rest := []) (lenOf pd_11 rfl) (hb hby at_156) (W := 0)
  obtain ⟨rfl, Nq16, e16⟩ := hQ16
  have N16 := Fr.app N15 Nq16
  refine ⟨T16, _, _, _, (some (.int (1 : Int32))), X16, nofun, by decide, by decide, ?_, fun fs hr => ?_⟩
  · show Q0 n0 _ T16.heap _
    rw [e16]
    exact ⟨rfl, N16⟩
  · show Steps p.tables e below (s₁.setTop (mkF m 0 #[.val (.int p1), .val (.int p2), .val (.int p3), .val (.int p4), .unset, .unset, .unset, .unset, .unset, .unset, .unset, .unset] [])) _
    refine XS.iloadN X0.here hx rfl (hb hby at_0) rfl ?_
    refine XS.iconst X0.here hx rfl (hb hby at_1) ?_
    refine XS.iand X0.here hx rfl (hb hby at_2) rfl ?_
    refine XS.ifNo X0.here hx rfl (hb hby at_3) rfl ((if0 _ _).trans (feq (cc1 : ¬ ((p4 &&& (4 : Int32)) = (0 : Int32)))).1) ?_
    refine XS.aconstNull X0.here hx rfl (hb hby at_6) ?_
    refine XS.goto X0.here hx rfl (pc0 := 7) (pc' := 14) rfl (hb hby at_7) (by decide) (by decide) ?_
    refine XS.astore X0.here hx rfl (hb hby at_14) rfl rfl (l' := #[.val (.int p1), .val (.int p2), .val (.int p3), .val (.int p4), .val .null, .unset, .unset, .unset, .unset, .unset, .unset, .unset]) rfl ?_
    refine XS.iloadN X0.here hx rfl (hb hby at_16) rfl ?_
    refine XS.iconst X0.here hx rfl (hb hby at_17) ?_
    refine XS.iand X0.here hx rfl (hb hby at_18) rfl ?_
    refine XS.ifNo X0.here hx rfl (hb hby at_19) rfl ((if0 _ _).trans (feq (cc2 : ¬ ((p4 &&& (1 : Int32)) = (0 : Int32)))).1) ?_
    refine XS.aconstNull X0.here hx rfl (hb hby at_22) ?_
    show Steps p.tables e below (s₁.setTop (mkF m 23 #[.val (.int p1), .val (.int p2), .val (.int p3), .val (.int p4), .val .null, .unset, .unset, .unset, .unset, .unset, .unset, .unset] [.null])) _
    refine XS.goto X0.here hx rfl (pc0 := 23) (pc' := 30) rfl (hb hby at_23) (by decide) (by decide) ?_
    refine XS.astore X0.here hx rfl (hb hby at_30) rfl rfl (l' := #[.val (.int p1), .val (.int p2), .val (.int p3), .val (.int p4), .val .null, .val .null, .unset, .unset, .unset, .unset, .unset, .unset]) rfl ?_
    refine XS.iloadN X0.here hx rfl (hb hby at_32) rfl ?_
    refine XS.iconst X0.here hx rfl (hb hby at_33) ?_
    refine XS.iand X0.here hx rfl (hb hby at_34) rfl ?_
    refine XS.ifNo X0.here hx rfl (hb hby at_35) rfl ((if0 _ _).trans (feq (cc3 : ¬ ((p4 &&& (2 : Int32)) = (0 : Int32)))).1) ?_
    refine XS.aconstNull X0.here hx rfl (hb hby at_38) ?_
    refine XS.goto X0.here hx rfl (pc0 := 39) (pc' := 46) rfl (hb hby at_39) (by decide) (by decide) ?_
    refine XS.astore X0.here hx rfl (hb hby at_46) rfl rfl (l' := #[.val (.int p1), .val (.int p2), .val (.int p3), .val (.int p4), .val .null, .val .null, .val .null, .unset, .unset, .unset, .unset, .unset]) rfl ?_
    refine st1 _ ?_
    refine XS.dup X1.here hx rfl (hb hby at_51) rfl rfl ?_
    refine XS.aload X1.here hx rfl (hb hby at_52) rfl rfl ?_
    show Steps p.tables e below (T1.setTop (mkF m 54 #[.val (.int p1), .val (.int p2), .val (.int p3), .val (.int p4), .val .null, .val .null, .val .null, .unset, .unset, .unset, .unset, .unset] [.null, (.ref b1), (.ref b1)])) _
    refine XS.aload X1.here hx rfl (hb hby at_54) rfl rfl ?_
    refine XS.aload X1.here hx rfl (hb hby at_56) rfl rfl ?_
    refine st2 _ ?_
    refine XS.astore X2.here hx rfl (hb hby at_61) rfl rfl (l' := #[.val (.int p1), .val (.int p2), .val (.int p3), .val (.int p4), .val .null, .val .null, .val .null, .val (.ref b1), .unset, .unset, .unset, .unset]) rfl ?_
    refine XS.aload X2.here hx rfl (hb hby at_63) rfl rfl ?_
    refine st3 _ ?_
    refine XS.astore X3.here hx rfl (hb hby at_68) rfl rfl (l' := #[.val (.int p1), .val (.int p2), .val (.int p3), .val (.int p4), .val .null, .val .null, .val .null, .val (.ref b1), .val (.ref b3_b2), .unset, .unset, .unset]) rfl ?_
    refine XS.aload X3.here hx rfl (hb hby at_70) rfl rfl ?_
    refine st4 _ ?_
    refine XS.aload X4.here hx rfl (hb hby at_75) rfl rfl ?_
    refine st5 _ ?_
    refine XS.ifNo X5.here hx rfl (hb hby at_80) rfl ((if0 _ _).trans (feq ((by decide : ¬ ((1 : Int32) = (0 : Int32))) : ¬ ((1 : Int32) = (0 : Int32)))).1) ?_
    show Steps p.tables e below (T5.setTop (mkF m 83 #[.val (.int p1), .val (.int p2), .val (.int p3), .val (.int p4), .val .null, .val .null, .val .null, .val (.ref b1), .val (.ref b3_b2), .unset, .unset, .unset] [])) _
    refine XS.aload X5.here hx rfl (hb hby at_83) rfl rfl ?_
    refine st6 _ ?_
    refine XS.aload X6.here hx rfl (hb hby at_88) rfl rfl ?_
    refine st7 _ ?_
    refine XS.ifNo X7.here hx rfl (hb hby at_93) rfl ((if0 _ _).trans (feq ((by decide : ¬ ((1 : Int32) = (0 : Int32))) : ¬ ((1 : Int32) = (0 : Int32)))).1) ?_
    refine XS.aload X7.here hx rfl (hb hby at_96) rfl rfl ?_
    refine st8 _ ?_
    refine XS.aload X8.here hx rfl (hb hby at_101) rfl rfl ?_
    refine st9 _ ?_
    refine XS.ifNo X9.here hx rfl (hb hby at_106) rfl ((if0 _ _).trans (feq ((by decide : ¬ ((1 : Int32) = (0 : Int32))) : ¬ ((1 : Int32) = (0 : Int32)))).1) ?_
    refine XS.iconst X9.here hx rfl (hb hby at_109) ?_
    refine XS.goto X9.here hx rfl (pc0 := 110) (pc' := 114) rfl (hb hby at_110) (by decide) (by decide) ?_
    show Steps p.tables e below (T9.setTop (mkF m 114 #[.val (.int p1), .val (.int p2), .val (.int p3), .val (.int p4), .val .null, .val .null, .val .null, .val (.ref b1), .val (.ref b3_b2), .unset, .unset, .unset] [(.int (1 : Int32))])) _
    refine XS.istore X9.here hx rfl (hb hby at_114) rfl (l' := #[.val (.int p1), .val (.int p2), .val (.int p3), .val (.int p4), .val .null, .val .null, .val .null, .val (.ref b1), .val (.ref b3_b2), .val (.int (1 : Int32)), .unset, .unset]) rfl ?_
    refine XS.aload X9.here hx rfl (hb hby at_116) rfl rfl ?_
    refine st10 _ ?_
    refine XS.astore X10.here hx rfl (hb hby at_121) rfl rfl (l' := #[.val (.int p1), .val (.int p2), .val (.int p3), .val (.int p4), .val .null, .val .null, .val .null, .val (.ref b1), .val (.ref b3_b2), .val (.int (1 : Int32)), .val (.ref b10_b2), .unset]) rfl ?_
    refine XS.aload X10.here hx rfl (hb hby at_123) rfl rfl ?_
    refine st11 _ ?_
    refine XS.aload X11.here hx rfl (hb hby at_128) rfl rfl ?_
    refine st12 _ ?_
    refine XS.ifNo X12.here hx rfl (hb hby at_133) rfl ((if0 _ _).trans (feq ((by decide : ¬ ((1 : Int32) = (0 : Int32))) : ¬ ((1 : Int32) = (0 : Int32)))).1) ?_
    refine XS.aload X12.here hx rfl (hb hby at_136) rfl rfl ?_
    refine st13 _ ?_
    refine XS.aload X13.here hx rfl (hb hby at_141) rfl rfl ?_
    show Steps p.tables e below (T13.setTop (mkF m 143 #[.val (.int p1), .val (.int p2), .val (.int p3), .val (.int p4), .val .null, .val .null, .val .null, .val (.ref b1), .val (.ref b3_b2), .val (.int (1 : Int32)), .val (.ref b10_b2), .unset] [.null, .null])) _
    refine st14 _ ?_
    refine XS.ifNo X14.here hx rfl (hb hby at_146) rfl ((if0 _ _).trans (feq ((by decide : ¬ ((1 : Int32) = (0 : Int32))) : ¬ ((1 : Int32) = (0 : Int32)))).1) ?_
    refine XS.aload X14.here hx rfl (hb hby at_149) rfl rfl ?_
    refine st15 _ ?_
    refine XS.aload X15.here hx rfl (hb hby at_154) rfl rfl ?_
    refine st16 _ ?_
    refine XS.ifNo X16.here hx rfl (hb hby at_159) rfl ((if0 _ _).trans (feq ((by decide : ¬ ((1 : Int32) = (0 : Int32))) : ¬ ((1 : Int32) = (0 : Int32)))).1) ?_
    refine XS.iconst X16.here hx rfl (hb hby at_162) ?_
    refine XS.goto X16.here hx rfl (pc0 := 163) (pc' := 167) rfl (hb hby at_163) (by decide) (by decide) ?_
    refine XS.istore X16.here hx rfl (hb hby at_167) rfl (l' := #[.val (.int p1), .val (.int p2), .val (.int p3), .val (.int p4), .val .null, .val .null, .val .null, .val (.ref b1), .val (.ref b3_b2), .val (.int (1 : Int32)), .val (.ref b10_b2), .val (.int (1 : Int32))]) rfl ?_
    refine XS.iload X16.here hx rfl (hb hby at_169) rfl ?_
    refine XS.ifNo X16.here hx rfl (hb hby at_171) rfl ((if0 _ _).trans (feq ((by decide : ¬ ((1 : Int32) = (0 : Int32))) : ¬ ((1 : Int32) = (0 : Int32)))).1) ?_
    show Steps p.tables e below (T16.setTop (mkF m 174 #[.val (.int p1), .val (.int p2), .val (.int p3), .val (.int p4), .val .null, .val .null, .val .null, .val (.ref b1), .val (.ref b3_b2), .val (.int (1 : Int32)), .val (.ref b10_b2), .val (.int (1 : Int32))] [])) _
    refine XS.iload X16.here hx rfl (hb hby at_174) rfl ?_
    refine XS.ifNo X16.here hx rfl (hb hby at_176) rfl ((if0 _ _).trans (feq ((by decide : ¬ ((1 : Int32) = (0 : Int32))) : ¬ ((1 : Int32) = (0 : Int32)))).1) ?_
    refine XS.iconst X16.here hx rfl (hb hby at_179) ?_
    refine XS.goto X16.here hx rfl (pc0 := 180) (pc' := 184) rfl (hb hby at_180) (by decide) (by decide) ?_
    exact retN X16 hx (t := .boolean) hret (by simp) (hb hby at_184) hr
theorem rm0 (l : Launch) (Z : State) (a0 : Array Value) (hw : ∀ d ∈ tables_1, d.before a0 Z = true) (ws : List Jvm.Cond) (p1 : Int32) (p2 : Int32) (p3 : Int32) (p4 : Int32) (cs : Int32) (h0 : Heap) (n0 : Nat) (Z0 : n0 ≤ h0.size) (S_cs : Sta Z Z.heap "java/lang/String" "COMPACT_STRINGS" "Z" (.int cs)) (c_cs : ¬ (cs = (0 : Int32))) (Od0 : Old Z n0 h0) :
    OwnMet l Z x code maxLocals ret ws room_1 #[(.int p1), (.int p2), (.int p3), (.int p4)] h0 (Q0 n0) := by
  by_cases cc1 : (p4 &&& (4 : Int32)) = (0 : Int32)
  · by_cases cc2 : (p4 &&& (1 : Int32)) = (0 : Int32)
    · by_cases cc3 : (p4 &&& (2 : Int32)) = (0 : Int32)
      · exact rm0_0 l Z a0 hw ws p1 p2 p3 p4 cs h0 n0 Z0 S_cs c_cs Od0 cc1 cc2 cc3
      · exact rm0_1 l Z a0 hw ws p1 p2 p3 p4 cs h0 n0 Z0 S_cs c_cs Od0 cc1 cc2 cc3
    · by_cases cc3 : (p4 &&& (2 : Int32)) = (0 : Int32)
      · exact rm0_2 l Z a0 hw ws p1 p2 p3 p4 cs h0 n0 Z0 S_cs c_cs Od0 cc1 cc2 cc3
      · exact rm0_3 l Z a0 hw ws p1 p2 p3 p4 cs h0 n0 Z0 S_cs c_cs Od0 cc1 cc2 cc3
  · by_cases cc2 : (p4 &&& (1 : Int32)) = (0 : Int32)
    · by_cases cc3 : (p4 &&& (2 : Int32)) = (0 : Int32)
      · exact rm0_4 l Z a0 hw ws p1 p2 p3 p4 cs h0 n0 Z0 S_cs c_cs Od0 cc1 cc2 cc3
      · exact rm0_5 l Z a0 hw ws p1 p2 p3 p4 cs h0 n0 Z0 S_cs c_cs Od0 cc1 cc2 cc3
    · by_cases cc3 : (p4 &&& (2 : Int32)) = (0 : Int32)
      · exact rm0_6 l Z a0 hw ws p1 p2 p3 p4 cs h0 n0 Z0 S_cs c_cs Od0 cc1 cc2 cc3
      · exact rm0_7 l Z a0 hw ws p1 p2 p3 p4 cs h0 n0 Z0 S_cs c_cs Od0 cc1 cc2 cc3
theorem comes_1 {Post : Tables → Env → Array Value → State → Outcome → State → Prop} (hpost : ∀ tb e args s v u, (limb_1_1.after args s (.returned v) u = true ∧ limb_1_2.after args s (.returned v) u = true ∧ True) → FrameEnd s (.returned v) u (Jvm.fieldLocs frame_1_writes args s ++ Jvm.arrayLocs frame_1_arrays args s ++ Jvm.staticLocs frame_1_statics s) 32 192 → Post tb e args s (.returned v) u) :
    ArmFor flags0 classFile x code maxLocals ret World_1 tables_1 room_1 Calls_1 rest_1 Pre_1 Post := by
  intro l hfl _ _ p e ha hc hk s m args below hf hA hF happ hP
  obtain ⟨hcalls, hrest, hpre⟩ := hP
  obtain ⟨-, -, -, hnamed, -, -, -, hat⟩ := (Spec.applies_iff hf).mp happ
  obtain ⟨hg, hn⟩ := and_e (Cond.before_iff.mp (show (Jvm.Cond.and given_1 narrow_1).before args s = true from hpre))
  obtain ⟨hg0, hr0⟩ := and_e hg
  obtain ⟨hg1, hr1⟩ := and_e hr0
  obtain ⟨hg2, hr2⟩ := and_e hr1
  obtain ⟨hg3, hr3⟩ := and_e hr2
  obtain ⟨w0, w1, w2, w3, rfl⟩ : ∃ w0 w1 w2 w3 : Value, args = #[w0, w1, w2, w3] := by
    have hs : args.size = 4 := by simpa [Cond.value, given_1] using hg0
    obtain ⟨L⟩ := args
    match L, hs with
    | [w0, w1, w2, w3], _ => exact ⟨w0, w1, w2, w3, rfl⟩
  have hw := fun d (hd : d ∈ tables_1) => atoms_spec (ws := Jvm.Cond.code x code maxLocals ret :: tables_1) hat d (List.mem_cons_of_mem _ hd)
  have hfit : Fit s := fun {y c} hc i hi => by
    obtain ⟨ha, rfl⟩ := Array.getElem?_eq_some_iff.mp hc
    have q := List.all_eq_true.mp ((Array.all_eq_true_iff_forall_mem.mp hF) _ (Array.getElem_mem ha)) i (List.mem_range.mpr hi)
    simpa [Array.getElem?_eq_getElem hi] using q
  obtain ⟨hsets, hown0⟩ := atoms_of _ (rest_1_c_eq ▸ (show rest_1_c.before _ s = true from hrest))
  have hr0 := Cond.before_iff.mp hown0
  obtain ⟨p1, ei0⟩ := is_v hg1
  obtain rfl : w0 = (.int p1) := Option.some.inj ei0
  obtain ⟨p2, ei1⟩ := is_v hg2
  obtain rfl : w1 = (.int p2) := Option.some.inj ei1
  obtain ⟨p3, ei2⟩ := is_v hg3
  obtain rfl : w2 = (.int p3) := Option.some.inj ei2
  obtain ⟨p4, ei3⟩ := is_v hr3
  obtain rfl : w3 = (.int p4) := Option.some.inj ei3
  have n5 := not_v (Cond.before_iff.mp (hsets _ (List.mem_of_getElem? (i := 2) rfl)))
  obtain ⟨cs, ecs⟩ := is_v (Cond.before_iff.mp (hsets _ (List.mem_of_getElem? (i := 1) rfl)))
  have S_cs : Sta s s.heap "java/lang/String" "COMPACT_STRINGS" "Z" (.int cs) := Sta.start ecs (Or.inl (hsets _ (List.mem_of_getElem? (i := 0) rfl)))
  have c_cs : ¬ (cs = (0 : Int32)) := gotF (Cond.eq_ints ecs (Term.int_eval (0))) n5
  obtain ⟨n, o, h1, h2, h3, _, L, rfl, ⟨rfl, N⟩, hq⟩ := rm0 l s _ hw tables_1 p1 p2 p3 p4 cs s.heap s.heap.size (Nat.le_refl _) S_cs c_cs (Old.start s) p e ha hc hk s m _ below hf ((Spec.applies_iff_loose hf).mp happ).1 ⟨rfl, State.Warmed39.refl s, rfl⟩ trivial
  refine ⟨n, _, h1, h2, h3, hpost _ _ _ _ _ _ ⟨Cond.after_iff.mpr rfl, Cond.after_iff.mpr (eq_i res_at (Term.int_eval (1)) rfl), trivial⟩ ⟨hq.1, hq.2.1, (hq.2.2.sift fun y hy => Or.inr (N y hy)).mono (by decide) (by decide)⟩⟩
theorem main_1_1 : Claimed_1_1 := comes_1 fun _ _ _ _ _ _ h hF => ⟨h.1, hF⟩
theorem main_1_2 : Claimed_1_2 := comes_1 fun _ _ _ _ _ _ h hF => ⟨h.2.1, hF⟩
end Jvm.Pilot.@@N@@
namespace Jvm.Pilot.@@N@@
open Jvm Jvm.ClassFile Sem Op Lib Jvm.Free Jvm.Stand Jvm.Pilot.@@N@@.Jvm.D
/-! MADE BY PROGRAM (witnessworld.py) out of the Statement's table words and the real class files: 21 classes; the members and pool entries that the words name. The judged class is class 1, her method 1. -/
namespace start1
open Jvm.ClassFile
def u (s : String) : CpInfo := .utf8 (stringToUtf16 s)
/-- a pool by its gaps: so many unusable entries, then the entry; so many at the end -/
def gap : Nat → List CpInfo → List CpInfo
  | 0, r => r
  | n + 1, r => .unusable :: gap n r
def poolList (es : List (Nat × CpInfo)) (last : Nat) : List CpInfo := es.foldr (fun e r => gap e.1 (e.2 :: r)) (gap last [])
def pool (es : List (Nat × CpInfo)) (last : Nat) : Array CpInfo := ⟨poolList es last⟩
def fileOf (pool : Array CpInfo) (this : Nat) (attrs : Array Attribute := #[]) (ms : Array MethodInfo := #[]) (fl : Nat := 33) (sup : Nat := 0) (ifs : Array Nat := #[]) (fds : Array FieldInfo := #[]) : ClassFile where
  minorVersion := 0
  majorVersion := 65
  constantPool := pool
  accessFlags := fl
  thisClass := this
  superClass := sup
  interfaces := ifs
  fields := fds
  methods := ms
  attributes := attrs
def plain (name : String) (sup : Option ClassId) : Class where
  name := name
  kind := .ordinary
  loader := none
  accessFlags := 33
  super := sup
  interfaces := #[]
  cf := none
  fields := #[]
  methods := #[]
  instanceTypes := #[]
  staticTypes := #[]
  resolved := #[]
  callSites := []
  init := .initialized
  statics := none
  mirror := none

def pool0 : Array CpInfo := pool [(5, u "<init>"), (0, u "()V"), (1, .class_ 10), (1, u "java/lang/Object")] 113

def k0c0 : Code := { maxStack := 0, maxLocals := 1, code := object_method_1_code, exceptionTable := #[], attributes := #[] }
def k0m0 : Method := { name := "<init>", desc := "()V", sig := { parameters := [], returnType := none }, accessFlags := 1, code := some k0c0 }
/-- java/lang/Object -/
def k0 : Class := { plain "java/lang/Object" none with
  accessFlags := 33
  interfaces := #[]
  cf := some (fileOf pool0 8 #[] #[{ accessFlags := 1, nameIndex := 5, descriptorIndex := 6, attributes := #[] }] 33 0 #[] #[])
  fields := #[]
  methods := #[k0m0]
  instanceTypes := #[]
  staticTypes := #[]
  resolved := Array.replicate 124 none
  statics := none }

def pool1 : Array CpInfo := pool [(2, .class_ 4), (1, u "java/lang/Object"), (0, u "<init>"), (0, u "()V"), (0, .methodref 8 9), (0, .class_ 10), (0, .nameAndType 11 12), (0, u "com/example/whenfree/whenfree/DialogReversedPinLaw"), (0, u "draw"), (0, u "(I)Ljava/lang/String;"), (0, .class_ 14), (0, u "com/example/whenfree/whenfree/Dialog"), (0, .methodref 13 16), (0, .nameAndType 5 17), (0, u "(Ljava/lang/String;Ljava/lang/String;Ljava/lang/String;)V"), (0, .methodref 13 19), (0, .nameAndType 20 21), (0, u "reversed"), (0, u "()Lcom/example/whenfree/whenfree/Dialog;"), (0, .methodref 13 23), (0, .nameAndType 24 25), (0, u "callId"), (0, u "()Ljava/lang/String;"), (0, .methodref 8 27), (0, .nameAndType 28 29), (0, u "same"), (0, u "(Ljava/lang/String;Ljava/lang/String;)Z"), (0, .methodref 13 31), (0, .nameAndType 32 25), (0, u "uacTag"), (0, .methodref 13 34), (0, .nameAndType 35 25), (0, u "uasTag"), (0, .class_ 37), (0, u "java/lang/String"), (0, .methodref 36 39), (0, .nameAndType 5 40), (0, u "([C)V"), (0, .methodref 36 42), (0, .nameAndType 43 44), (0, u "equals"), (0, u "(Ljava/lang/Object;)Z"), (2, u "law"), (0, u "(IIII)Z")] 3

def k1m0 : Method := { name := "<init>", desc := "()V", sig := { parameters := [], returnType := none }, accessFlags := 1, code := none }
def k1c1 : Code := { maxStack := 5, maxLocals := 12, code := code, exceptionTable := #[], attributes := #[] }
def k1m1 : Method := { name := "law", desc := "(IIII)Z", sig := { parameters := [.int, .int, .int, .int], returnType := some .boolean }, accessFlags := 9, code := some k1c1 }
def k1c2 : Code := { maxStack := 4, maxLocals := 2, code := method_3_code, exceptionTable := #[], attributes := #[] }
def k1m2 : Method := { name := "draw", desc := "(I)Ljava/lang/String;", sig := { parameters := [.int], returnType := some (.object "java/lang/String") }, accessFlags := 10, code := some k1c2 }
def k1c3 : Code := { maxStack := 2, maxLocals := 2, code := method_4_code, exceptionTable := #[], attributes := #[] }
def k1m3 : Method := { name := "same", desc := "(Ljava/lang/String;Ljava/lang/String;)Z", sig := { parameters := [(.object "java/lang/String"), (.object "java/lang/String")], returnType := some .boolean }, accessFlags := 10, code := some k1c3 }
/-- com/example/whenfree/whenfree/DialogReversedPinLaw -/
def k1 : Class := { plain "com/example/whenfree/whenfree/DialogReversedPinLaw" (some 0) with
  accessFlags := 49
  interfaces := #[]
  cf := some (fileOf pool1 8 #[] #[{ accessFlags := 1, nameIndex := 5, descriptorIndex := 6, attributes := #[] }, { accessFlags := 9, nameIndex := 47, descriptorIndex := 48, attributes := #[] }, { accessFlags := 10, nameIndex := 11, descriptorIndex := 12, attributes := #[] }, { accessFlags := 10, nameIndex := 28, descriptorIndex := 29, attributes := #[] }] 49 2 #[] #[])
  fields := #[]
  methods := #[k1m0, k1m1, k1m2, k1m3]
  instanceTypes := #[]
  staticTypes := #[]
  resolved := Array.replicate 52 none
  statics := none }

def pool2 : Array CpInfo := pool [(1, .class_ 2), (0, u "java/io/Serializable"), (0, .class_ 4), (0, u "java/lang/Object")] 2

/-- java/io/Serializable -/
def k2 : Class := { plain "java/io/Serializable" (some 0) with
  accessFlags := 1537
  interfaces := #[]
  cf := some (fileOf pool2 1 #[] #[] 1537 3 #[] #[])
  fields := #[]
  methods := #[]
  instanceTypes := #[]
  staticTypes := #[]
  resolved := Array.replicate 7 none
  statics := none }

def pool3 : Array CpInfo := pool [(1, .class_ 2), (0, u "java/lang/Comparable"), (0, .class_ 4), (0, u "java/lang/Object")] 7

/-- java/lang/Comparable -/
def k3 : Class := { plain "java/lang/Comparable" (some 0) with
  accessFlags := 1537
  interfaces := #[]
  cf := some (fileOf pool3 1 #[] #[] 1537 3 #[] #[])
  fields := #[]
  methods := #[]
  instanceTypes := #[]
  staticTypes := #[]
  resolved := Array.replicate 12 none
  statics := none }

def pool4 : Array CpInfo := pool [(2, .class_ 4), (1, u "java/lang/CharSequence"), (42, .class_ 48), (0, u "java/lang/CharSequence$1CodePointIterator"), (10, .class_ 60), (0, u "java/lang/CharSequence$1CharIterator"), (5, .class_ 67), (0, u "java/lang/Object")] 63

/-- java/lang/CharSequence -/
def k4 : Class := { plain "java/lang/CharSequence" (some 0) with
  accessFlags := 1537
  interfaces := #[]
  cf := some (fileOf pool4 2 #[.nestMembers #[47, 59]] #[] 1537 66 #[] #[])
  fields := #[]
  methods := #[]
  instanceTypes := #[]
  staticTypes := #[]
  resolved := Array.replicate 131 none
  statics := none }

def pool5 : Array CpInfo := pool [(1, .class_ 2), (0, u "java/lang/constant/Constable"), (0, .class_ 4), (0, u "java/lang/Object")] 6

/-- java/lang/constant/Constable -/
def k5 : Class := { plain "java/lang/constant/Constable" (some 0) with
  accessFlags := 1537
  interfaces := #[]
  cf := some (fileOf pool5 1 #[] #[] 1537 3 #[] #[])
  fields := #[]
  methods := #[]
  instanceTypes := #[]
  staticTypes := #[]
  resolved := Array.replicate 11 none
  statics := none }

def pool6 : Array CpInfo := pool [(1, .class_ 2), (0, u "java/lang/constant/ConstantDesc"), (0, .class_ 4), (0, u "java/lang/Object")] 32

/-- java/lang/constant/ConstantDesc -/
def k6 : Class := { plain "java/lang/constant/ConstantDesc" (some 0) with
  accessFlags := 1537
  interfaces := #[]
  cf := some (fileOf pool6 1 #[] #[] 1537 3 #[] #[])
  fields := #[]
  methods := #[]
  instanceTypes := #[]
  staticTypes := #[]
  resolved := Array.replicate 37 none
  statics := none }

def pool7 : Array CpInfo := pool [(1, .methodref 2 3), (0, .class_ 4), (0, .nameAndType 5 6), (0, u "java/lang/Object"), (0, u "<init>"), (0, u "()V"), (2, .fieldref 10 11), (0, .class_ 12), (0, .nameAndType 13 14), (0, u "java/lang/String"), (0, u "value"), (0, u "[B"), (0, .fieldref 10 16), (0, .nameAndType 17 18), (0, u "coder"), (0, u "B"), (2, u "hash"), (0, u "I"), (2, u "hashIsZero"), (0, u "Z"), (0, .methodref 10 28), (0, .nameAndType 5 29), (0, u "([CIILjava/lang/Void;)V"), (8, .fieldref 10 39), (0, .nameAndType 40 26), (0, u "COMPACT_STRINGS"), (1, .class_ 44), (1, u "java/lang/StringUTF16"), (0, u "compress"), (1, .methodref 42 48), (0, .nameAndType 49 50), (0, u "coderFromArrayLen"), (0, u "([BI)B"), (126, .methodref 42 178), (0, .nameAndType 45 179), (0, u "([CII)[B"), (363, u "equals"), (29, u "(Ljava/lang/Object;)Z"), (1, .class_ 576), (0, u "java/lang/CharSequence"), (22, u "CASE_INSENSITIVE_ORDER"), (0, u "Ljava/util/Comparator;"), (409, u "([C)V"), (90, u "serialPersistentFields"), (0, u "[Ljava/io/ObjectStreamField;"), (0, .class_ 1104), (0, u "java/lang/String$CaseInsensitiveComparator"), (1, .class_ 1107), (0, u "java/io/Serializable"), (0, .class_ 1109), (0, u "java/lang/Comparable"), (0, .class_ 1111), (0, u "java/lang/constant/Constable"), (0, .class_ 1113), (0, u "java/lang/constant/ConstantDesc"), (2, u "serialVersionUID"), (0, u "J"), (3, u "REPL"), (0, u "C"), (2, u "LATIN1"), (1, u "UTF16")] 323

def k7m0 : Method := { name := "<init>", desc := "()V", sig := { parameters := [], returnType := none }, accessFlags := 1, code := none }
def k7c1 : Code := { maxStack := 5, maxLocals := 2, code := jdk_42_method_3_code, exceptionTable := #[], attributes := #[] }
def k7m1 : Method := { name := "<init>", desc := "([C)V", sig := { parameters := [(.array .char)], returnType := none }, accessFlags := 1, code := some k7c1 }
def k7c2 : Code := { maxStack := 2, maxLocals := 3, code := jdk_42_method_66_code, exceptionTable := #[], attributes := #[] }
def k7m2 : Method := { name := "equals", desc := "(Ljava/lang/Object;)Z", sig := { parameters := [(.object "java/lang/Object")], returnType := some .boolean }, accessFlags := 1, code := some k7c2 }
def k7c3 : Code := { maxStack := 4, maxLocals := 6, code := jdk_42_method_149_code, exceptionTable := #[], attributes := #[] }
def k7m3 : Method := { name := "<init>", desc := "([CIILjava/lang/Void;)V", sig := { parameters := [(.array .char), .int, .int, (.object "java/lang/Void")], returnType := none }, accessFlags := 2, code := some k7c3 }
/-- java/lang/String -/
def k7 : Class := { plain "java/lang/String" (some 0) with
  accessFlags := 49
  interfaces := #[2, 3, 4, 5, 6]
  cf := some (fileOf pool7 10 #[.nestMembers #[1103]] #[{ accessFlags := 1, nameIndex := 5, descriptorIndex := 6, attributes := #[] }, { accessFlags := 1, nameIndex := 5, descriptorIndex := 1010, attributes := #[] }, { accessFlags := 1, nameIndex := 543, descriptorIndex := 573, attributes := #[] }, { accessFlags := 2, nameIndex := 5, descriptorIndex := 29, attributes := #[] }] 49 2 #[1106, 1108, 575, 1110, 1112] #[{ accessFlags := 18, nameIndex := 13, descriptorIndex := 14, attributes := #[] }, { accessFlags := 18, nameIndex := 17, descriptorIndex := 18, attributes := #[] }, { accessFlags := 2, nameIndex := 21, descriptorIndex := 22, attributes := #[] }, { accessFlags := 2, nameIndex := 25, descriptorIndex := 26, attributes := #[] }, { accessFlags := 26, nameIndex := 1116, descriptorIndex := 1117, attributes := #[] }, { accessFlags := 24, nameIndex := 40, descriptorIndex := 26, attributes := #[] }, { accessFlags := 26, nameIndex := 1101, descriptorIndex := 1102, attributes := #[] }, { accessFlags := 26, nameIndex := 1121, descriptorIndex := 1122, attributes := #[] }, { accessFlags := 25, nameIndex := 599, descriptorIndex := 600, attributes := #[] }, { accessFlags := 24, nameIndex := 1125, descriptorIndex := 18, attributes := #[] }, { accessFlags := 24, nameIndex := 1127, descriptorIndex := 18, attributes := #[] }])
  fields := #[{ name := "value", type := (.array .byte), accessFlags := 18, slot := 0, constantValue := 0 }, { name := "coder", type := .byte, accessFlags := 18, slot := 1, constantValue := 0 }, { name := "hash", type := .int, accessFlags := 2, slot := 2, constantValue := 0 }, { name := "hashIsZero", type := .boolean, accessFlags := 2, slot := 3, constantValue := 0 }, { name := "serialVersionUID", type := .long, accessFlags := 26, slot := 0, constantValue := 0 }, { name := "COMPACT_STRINGS", type := .boolean, accessFlags := 24, slot := 1, constantValue := 0 }, { name := "serialPersistentFields", type := (.array (.object "java/io/ObjectStreamField")), accessFlags := 26, slot := 2, constantValue := 0 }, { name := "REPL", type := .char, accessFlags := 26, slot := 3, constantValue := 0 }, { name := "CASE_INSENSITIVE_ORDER", type := (.object "java/util/Comparator"), accessFlags := 25, slot := 4, constantValue := 0 }, { name := "LATIN1", type := .byte, accessFlags := 24, slot := 5, constantValue := 0 }, { name := "UTF16", type := .byte, accessFlags := 24, slot := 6, constantValue := 0 }]
  methods := #[k7m0, k7m1, k7m2, k7m3]
  instanceTypes := #[(.array .byte), .byte, .int, .boolean]
  staticTypes := #[.long, .boolean, (.array (.object "java/io/ObjectStreamField")), .char, (.object "java/util/Comparator"), .byte, .byte]
  resolved := Array.replicate 1451 none
  statics := some 0 }

def pool8 : Array CpInfo := pool [(6, .class_ 8), (1, u "java/lang/Object"), (0, u "<init>"), (0, u "()V"), (1, .class_ 14), (1, u "java/lang/StringUTF16"), (31, u "$assertionsDisabled"), (0, u "Z"), (13, u "HI_BYTE_SHIFT"), (0, u "I"), (2, u "LO_BYTE_SHIFT"), (49, .methodref 12 116), (0, .nameAndType 117 118), (0, u "compress"), (0, u "([CI[BII)I"), (3, u "([CII)[B"), (138, u "coderFromArrayLen"), (0, u "([BI)B"), (106, .class_ 371), (1, u "java/lang/StringUTF16$LinesSpliterator"), (58, u "MAX_LENGTH"), (196, .class_ 628), (0, u "java/lang/StringUTF16$CodePointsSpliterator"), (0, .class_ 630), (0, u "java/lang/StringUTF16$CharsSpliterator")] 4

def k8m0 : Method := { name := "<init>", desc := "()V", sig := { parameters := [], returnType := none }, accessFlags := 0, code := none }
def k8c1 : Code := { maxStack := 2, maxLocals := 2, code := jdk_52_method_15_code, exceptionTable := #[], attributes := #[] }
def k8m1 : Method := { name := "coderFromArrayLen", desc := "([BI)B", sig := { parameters := [(.array .byte), .int], returnType := some .byte }, accessFlags := 8, code := some k8c1 }
def k8c2 : Code := { maxStack := 5, maxLocals := 6, code := jdk_52_method_16_code, exceptionTable := #[], attributes := #[] }
def k8m2 : Method := { name := "compress", desc := "([CII)[B", sig := { parameters := [(.array .char), .int, .int], returnType := some (.array .byte) }, accessFlags := 9, code := some k8c2 }
def k8c3 : Code := { maxStack := 3, maxLocals := 7, code := jdk_52_method_21_code, exceptionTable := #[], attributes := #[] }
def k8m3 : Method := { name := "compress", desc := "([CI[BII)I", sig := { parameters := [(.array .char), .int, (.array .byte), .int, .int], returnType := some .int }, accessFlags := 9, code := some k8c3 }
/-- java/lang/StringUTF16 -/
def k8 : Class := { plain "java/lang/StringUTF16" (some 0) with
  accessFlags := 48
  interfaces := #[]
  cf := some (fileOf pool8 12 #[.nestMembers #[627, 629, 369]] #[{ accessFlags := 0, nameIndex := 9, descriptorIndex := 10, attributes := #[] }, { accessFlags := 8, nameIndex := 261, descriptorIndex := 262, attributes := #[] }, { accessFlags := 9, nameIndex := 117, descriptorIndex := 122, attributes := #[] }, { accessFlags := 9, nameIndex := 117, descriptorIndex := 118, attributes := #[] }] 48 6 #[] #[{ accessFlags := 26, nameIndex := 61, descriptorIndex := 62, attributes := #[] }, { accessFlags := 26, nameIndex := 65, descriptorIndex := 62, attributes := #[] }, { accessFlags := 24, nameIndex := 430, descriptorIndex := 62, attributes := #[] }, { accessFlags := 4120, nameIndex := 46, descriptorIndex := 47, attributes := #[] }])
  fields := #[{ name := "HI_BYTE_SHIFT", type := .int, accessFlags := 26, slot := 0, constantValue := 0 }, { name := "LO_BYTE_SHIFT", type := .int, accessFlags := 26, slot := 1, constantValue := 0 }, { name := "MAX_LENGTH", type := .int, accessFlags := 24, slot := 2, constantValue := 0 }, { name := "$assertionsDisabled", type := .boolean, accessFlags := 4120, slot := 3, constantValue := 0 }]
  methods := #[k8m0, k8m1, k8m2, k8m3]
  instanceTypes := #[]
  staticTypes := #[.int, .int, .int, .boolean]
  resolved := Array.replicate 635 none
  statics := none }

def pool9 : Array CpInfo := pool [(1, .methodref 2 3), (0, .class_ 4), (0, .nameAndType 5 6), (0, u "java/lang/Object"), (0, u "<init>"), (0, u "()V"), (0, .class_ 8), (0, u "java/lang/Record")] 13

def k9c0 : Code := { maxStack := 1, maxLocals := 1, code := jdk_30_method_1_code, exceptionTable := #[], attributes := #[] }
def k9m0 : Method := { name := "<init>", desc := "()V", sig := { parameters := [], returnType := none }, accessFlags := 4, code := some k9c0 }
/-- java/lang/Record -/
def k9 : Class := { plain "java/lang/Record" (some 0) with
  accessFlags := 1057
  interfaces := #[]
  cf := some (fileOf pool9 7 #[] #[{ accessFlags := 4, nameIndex := 5, descriptorIndex := 6, attributes := #[] }] 1057 2 #[] #[])
  fields := #[]
  methods := #[k9m0]
  instanceTypes := #[]
  staticTypes := #[]
  resolved := Array.replicate 22 none
  statics := none }

def pool10 : Array CpInfo := pool [(1, .methodref 2 3), (0, .class_ 4), (0, .nameAndType 5 6), (0, u "java/lang/Record"), (0, u "<init>"), (0, u "()V"), (0, .fieldref 8 9), (0, .class_ 10), (0, .nameAndType 11 12), (0, u "com/example/whenfree/whenfree/Dialog"), (0, u "callId"), (0, u "Ljava/lang/String;"), (0, .fieldref 8 14), (0, .nameAndType 15 12), (0, u "uacTag"), (0, .fieldref 8 17), (0, .nameAndType 18 12), (0, u "uasTag"), (4, u "()Ljava/lang/String;"), (12, .methodref 8 37), (0, .nameAndType 5 38), (0, u "(Ljava/lang/String;Ljava/lang/String;Ljava/lang/String;)V"), (17, u "reversed"), (0, u "()Lcom/example/whenfree/whenfree/Dialog;")] 24

def k10c0 : Code := { maxStack := 2, maxLocals := 4, code := prog_10_method_1_code, exceptionTable := #[], attributes := #[] }
def k10m0 : Method := { name := "<init>", desc := "(Ljava/lang/String;Ljava/lang/String;Ljava/lang/String;)V", sig := { parameters := [(.object "java/lang/String"), (.object "java/lang/String"), (.object "java/lang/String")], returnType := none }, accessFlags := 0, code := some k10c0 }
def k10c1 : Code := { maxStack := 5, maxLocals := 1, code := prog_10_method_3_code, exceptionTable := #[], attributes := #[] }
def k10m1 : Method := { name := "reversed", desc := "()Lcom/example/whenfree/whenfree/Dialog;", sig := { parameters := [], returnType := some (.object "com/example/whenfree/whenfree/Dialog") }, accessFlags := 0, code := some k10c1 }
def k10c2 : Code := { maxStack := 1, maxLocals := 1, code := prog_10_method_7_code, exceptionTable := #[], attributes := #[] }
def k10m2 : Method := { name := "callId", desc := "()Ljava/lang/String;", sig := { parameters := [], returnType := some (.object "java/lang/String") }, accessFlags := 1, code := some k10c2 }
def k10c3 : Code := { maxStack := 1, maxLocals := 1, code := prog_10_method_8_code, exceptionTable := #[], attributes := #[] }
def k10m3 : Method := { name := "uacTag", desc := "()Ljava/lang/String;", sig := { parameters := [], returnType := some (.object "java/lang/String") }, accessFlags := 1, code := some k10c3 }
def k10c4 : Code := { maxStack := 1, maxLocals := 1, code := prog_10_method_9_code, exceptionTable := #[], attributes := #[] }
def k10m4 : Method := { name := "uasTag", desc := "()Ljava/lang/String;", sig := { parameters := [], returnType := some (.object "java/lang/String") }, accessFlags := 1, code := some k10c4 }
/-- com/example/whenfree/whenfree/Dialog -/
def k10 : Class := { plain "com/example/whenfree/whenfree/Dialog" (some 9) with
  accessFlags := 48
  interfaces := #[]
  cf := some (fileOf pool10 8 #[] #[{ accessFlags := 0, nameIndex := 5, descriptorIndex := 38, attributes := #[] }, { accessFlags := 0, nameIndex := 56, descriptorIndex := 57, attributes := #[] }, { accessFlags := 1, nameIndex := 11, descriptorIndex := 23, attributes := #[] }, { accessFlags := 1, nameIndex := 15, descriptorIndex := 23, attributes := #[] }, { accessFlags := 1, nameIndex := 18, descriptorIndex := 23, attributes := #[] }] 48 2 #[] #[{ accessFlags := 18, nameIndex := 11, descriptorIndex := 12, attributes := #[] }, { accessFlags := 18, nameIndex := 15, descriptorIndex := 12, attributes := #[] }, { accessFlags := 18, nameIndex := 18, descriptorIndex := 12, attributes := #[] }])
  fields := #[{ name := "callId", type := (.object "java/lang/String"), accessFlags := 18, slot := 0, constantValue := 0 }, { name := "uacTag", type := (.object "java/lang/String"), accessFlags := 18, slot := 1, constantValue := 0 }, { name := "uasTag", type := (.object "java/lang/String"), accessFlags := 18, slot := 2, constantValue := 0 }]
  methods := #[k10m0, k10m1, k10m2, k10m3, k10m4]
  instanceTypes := #[(.object "java/lang/String"), (.object "java/lang/String"), (.object "java/lang/String")]
  staticTypes := #[]
  resolved := Array.replicate 82 none
  statics := none }

def pool11 : Array CpInfo := pool [(4, .class_ 6), (1, u "java/lang/Object"), (0, u "<init>"), (0, u "()V"), (5, .class_ 16), (1, u "java/lang/StringLatin1"), (104, u "$assertionsDisabled"), (0, u "Z"), (98, .class_ 223), (1, u "java/lang/StringLatin1$LinesSpliterator"), (166, .class_ 391), (0, u "java/lang/StringLatin1$CharsSpliterator")] 3

def k11m0 : Method := { name := "<init>", desc := "()V", sig := { parameters := [], returnType := none }, accessFlags := 0, code := none }
/-- java/lang/StringLatin1 -/
def k11 : Class := { plain "java/lang/StringLatin1" (some 0) with
  accessFlags := 48
  interfaces := #[]
  cf := some (fileOf pool11 14 #[.nestMembers #[390, 221]] #[{ accessFlags := 0, nameIndex := 7, descriptorIndex := 8, attributes := #[] }] 48 4 #[] #[{ accessFlags := 4120, nameIndex := 121, descriptorIndex := 122, attributes := #[] }])
  fields := #[{ name := "$assertionsDisabled", type := .boolean, accessFlags := 4120, slot := 0, constantValue := 0 }]
  methods := #[k11m0]
  instanceTypes := #[]
  staticTypes := #[.boolean]
  resolved := Array.replicate 395 none
  statics := none }

def pool12 : Array CpInfo := pool [(2, .class_ 4), (1, u "java/lang/Object"), (0, u "<init>"), (0, u "()V"), (17, .class_ 26), (1, u "jdk/internal/util/Preconditions"), (28, .class_ 56), (0, u "jdk/internal/util/Preconditions$4"), (57, .class_ 115), (0, u "jdk/internal/util/Preconditions$1"), (7, u "SIOOBE_FORMATTER"), (0, u "Ljava/util/function/BiFunction;"), (0, .class_ 126), (0, u "jdk/internal/util/Preconditions$2"), (3, u "AIOOBE_FORMATTER"), (0, .class_ 132), (0, u "jdk/internal/util/Preconditions$3"), (3, u "IOOBE_FORMATTER")] 57

def k12m0 : Method := { name := "<init>", desc := "()V", sig := { parameters := [], returnType := none }, accessFlags := 1, code := none }
/-- jdk/internal/util/Preconditions -/
def k12 : Class := { plain "jdk/internal/util/Preconditions" (some 0) with
  accessFlags := 33
  interfaces := #[]
  cf := some (fileOf pool12 24 #[.nestMembers #[55, 131, 125, 114]] #[{ accessFlags := 1, nameIndex := 5, descriptorIndex := 6, attributes := #[] }] 33 2 #[] #[{ accessFlags := 25, nameIndex := 123, descriptorIndex := 124, attributes := #[] }, { accessFlags := 25, nameIndex := 130, descriptorIndex := 124, attributes := #[] }, { accessFlags := 25, nameIndex := 136, descriptorIndex := 124, attributes := #[] }])
  fields := #[{ name := "SIOOBE_FORMATTER", type := (.object "java/util/function/BiFunction"), accessFlags := 25, slot := 0, constantValue := 0 }, { name := "AIOOBE_FORMATTER", type := (.object "java/util/function/BiFunction"), accessFlags := 25, slot := 1, constantValue := 0 }, { name := "IOOBE_FORMATTER", type := (.object "java/util/function/BiFunction"), accessFlags := 25, slot := 2, constantValue := 0 }]
  methods := #[k12m0]
  instanceTypes := #[]
  staticTypes := #[(.object "java/util/function/BiFunction"), (.object "java/util/function/BiFunction"), (.object "java/util/function/BiFunction")]
  resolved := Array.replicate 194 none
  statics := some 1 }

def pool13 : Array CpInfo := pool [(9, u "<init>"), (6, .class_ 18), (1, u "java/lang/Object"), (0, u "()V"), (1, .class_ 23), (1, u "jdk/internal/util/ArraysSupport"), (0, u "LOG2_ARRAY_LONG_INDEX_SCALE"), (0, u "I"), (2, u "U"), (0, u "Ljdk/internal/misc/Unsafe;"), (8, u "BIG_ENDIAN"), (0, u "Z"), (8, u "LOG2_BYTE_BIT_SIZE"), (4, u "LOG2_ARRAY_INT_INDEX_SCALE"), (54, u "JLA"), (0, u "Ljdk/internal/access/JavaLangAccess;"), (11, u "LOG2_ARRAY_BOOLEAN_INDEX_SCALE"), (9, u "LOG2_ARRAY_BYTE_INDEX_SCALE"), (5, u "LOG2_ARRAY_CHAR_INDEX_SCALE"), (5, u "LOG2_ARRAY_SHORT_INDEX_SCALE"), (18, u "LOG2_ARRAY_FLOAT_INDEX_SCALE"), (24, u "LOG2_ARRAY_DOUBLE_INDEX_SCALE"), (89, u "T_BOOLEAN"), (2, u "T_CHAR"), (1, u "T_FLOAT"), (1, u "T_DOUBLE"), (1, u "T_BYTE"), (1, u "T_SHORT"), (1, u "T_INT"), (1, u "T_LONG"), (1, u "SOFT_MAX_ARRAY_LENGTH")] 83

def k13m0 : Method := { name := "<init>", desc := "()V", sig := { parameters := [], returnType := none }, accessFlags := 2, code := none }
/-- jdk/internal/util/ArraysSupport -/
def k13 : Class := { plain "jdk/internal/util/ArraysSupport" (some 0) with
  accessFlags := 33
  interfaces := #[]
  cf := some (fileOf pool13 21 #[] #[{ accessFlags := 2, nameIndex := 9, descriptorIndex := 19, attributes := #[] }] 33 16 #[] #[{ accessFlags := 24, nameIndex := 28, descriptorIndex := 29, attributes := #[] }, { accessFlags := 26, nameIndex := 38, descriptorIndex := 39, attributes := #[] }, { accessFlags := 25, nameIndex := 121, descriptorIndex := 25, attributes := #[] }, { accessFlags := 25, nameIndex := 131, descriptorIndex := 25, attributes := #[] }, { accessFlags := 25, nameIndex := 137, descriptorIndex := 25, attributes := #[] }, { accessFlags := 25, nameIndex := 143, descriptorIndex := 25, attributes := #[] }, { accessFlags := 25, nameIndex := 53, descriptorIndex := 25, attributes := #[] }, { accessFlags := 25, nameIndex := 24, descriptorIndex := 25, attributes := #[] }, { accessFlags := 25, nameIndex := 162, descriptorIndex := 25, attributes := #[] }, { accessFlags := 25, nameIndex := 187, descriptorIndex := 25, attributes := #[] }, { accessFlags := 26, nameIndex := 48, descriptorIndex := 25, attributes := #[] }, { accessFlags := 25, nameIndex := 277, descriptorIndex := 25, attributes := #[] }, { accessFlags := 25, nameIndex := 280, descriptorIndex := 25, attributes := #[] }, { accessFlags := 25, nameIndex := 282, descriptorIndex := 25, attributes := #[] }, { accessFlags := 25, nameIndex := 284, descriptorIndex := 25, attributes := #[] }, { accessFlags := 25, nameIndex := 286, descriptorIndex := 25, attributes := #[] }, { accessFlags := 25, nameIndex := 288, descriptorIndex := 25, attributes := #[] }, { accessFlags := 25, nameIndex := 290, descriptorIndex := 25, attributes := #[] }, { accessFlags := 25, nameIndex := 292, descriptorIndex := 25, attributes := #[] }, { accessFlags := 26, nameIndex := 108, descriptorIndex := 109, attributes := #[] }, { accessFlags := 25, nameIndex := 294, descriptorIndex := 25, attributes := #[] }])
  fields := #[{ name := "U", type := (.object "jdk/internal/misc/Unsafe"), accessFlags := 24, slot := 0, constantValue := 0 }, { name := "BIG_ENDIAN", type := .boolean, accessFlags := 26, slot := 1, constantValue := 0 }, { name := "LOG2_ARRAY_BOOLEAN_INDEX_SCALE", type := .int, accessFlags := 25, slot := 2, constantValue := 0 }, { name := "LOG2_ARRAY_BYTE_INDEX_SCALE", type := .int, accessFlags := 25, slot := 3, constantValue := 0 }, { name := "LOG2_ARRAY_CHAR_INDEX_SCALE", type := .int, accessFlags := 25, slot := 4, constantValue := 0 }, { name := "LOG2_ARRAY_SHORT_INDEX_SCALE", type := .int, accessFlags := 25, slot := 5, constantValue := 0 }, { name := "LOG2_ARRAY_INT_INDEX_SCALE", type := .int, accessFlags := 25, slot := 6, constantValue := 0 }, { name := "LOG2_ARRAY_LONG_INDEX_SCALE", type := .int, accessFlags := 25, slot := 7, constantValue := 0 }, { name := "LOG2_ARRAY_FLOAT_INDEX_SCALE", type := .int, accessFlags := 25, slot := 8, constantValue := 0 }, { name := "LOG2_ARRAY_DOUBLE_INDEX_SCALE", type := .int, accessFlags := 25, slot := 9, constantValue := 0 }, { name := "LOG2_BYTE_BIT_SIZE", type := .int, accessFlags := 26, slot := 10, constantValue := 0 }, { name := "T_BOOLEAN", type := .int, accessFlags := 25, slot := 11, constantValue := 0 }, { name := "T_CHAR", type := .int, accessFlags := 25, slot := 12, constantValue := 0 }, { name := "T_FLOAT", type := .int, accessFlags := 25, slot := 13, constantValue := 0 }, { name := "T_DOUBLE", type := .int, accessFlags := 25, slot := 14, constantValue := 0 }, { name := "T_BYTE", type := .int, accessFlags := 25, slot := 15, constantValue := 0 }, { name := "T_SHORT", type := .int, accessFlags := 25, slot := 16, constantValue := 0 }, { name := "T_INT", type := .int, accessFlags := 25, slot := 17, constantValue := 0 }, { name := "T_LONG", type := .int, accessFlags := 25, slot := 18, constantValue := 0 }, { name := "JLA", type := (.object "jdk/internal/access/JavaLangAccess"), accessFlags := 26, slot := 19, constantValue := 0 }, { name := "SOFT_MAX_ARRAY_LENGTH", type := .int, accessFlags := 25, slot := 20, constantValue := 0 }]
  methods := #[k13m0]
  instanceTypes := #[]
  staticTypes := #[(.object "jdk/internal/misc/Unsafe"), .boolean, .int, .int, .int, .int, .int, .int, .int, .int, .int, .int, .int, .int, .int, .int, .int, .int, .int, (.object "jdk/internal/access/JavaLangAccess"), .int]
  resolved := Array.replicate 378 none
  statics := none }

def pool14 : Array CpInfo := pool [(1, u "java/lang/Cloneable"), (0, .class_ 1), (0, u "java/lang/Object"), (0, .class_ 3)] 3

/-- java/lang/Cloneable -/
def k14 : Class := { plain "java/lang/Cloneable" (some 0) with
  accessFlags := 1537
  interfaces := #[]
  cf := some (fileOf pool14 2 #[] #[] 1537 4 #[] #[])
  fields := #[]
  methods := #[]
  instanceTypes := #[]
  staticTypes := #[]
  resolved := Array.replicate 8 none
  statics := none }

/-- the primitive byte -/
def k15 : Class := { plain "byte" none with kind := .primitive 'B', accessFlags := 0x411 }
/-- [B -/
def k16 : Class := { plain "[B" (some 0) with kind := .array 15 .byte, interfaces := #[14, 2], accessFlags := 1041 }

/-- the primitive char -/
def k17 : Class := { plain "char" none with kind := .primitive 'C', accessFlags := 0x411 }
/-- [C -/
def k18 : Class := { plain "[C" (some 0) with kind := .array 17 .char, interfaces := #[14, 2], accessFlags := 1041 }

/-- the primitive int -/
def k19 : Class := { plain "int" none with kind := .primitive 'I', accessFlags := 0x411 }
/-- [I -/
def k20 : Class := { plain "[I" (some 0) with kind := .array 19 .int, interfaces := #[14, 2], accessFlags := 1041 }

def heap : Heap := #[{ cls := 7, slots := #[.long 0, .int 1, .null, .int 0, .null, .int 0, .int 0], vm := .statics 7 },
  { cls := 12, slots := #[.null, .null, .null], vm := .statics 12 }]
def classes : Array Class := #[k0, k1, k2, k3, k4, k5, k6, k7, k8, k9, k10, k11, k12, k13, k14, k15, k16, k17, k18, k19, k20]
def interned : List (Array UInt16 × Addr) := []
def slotsUsed : Nat := 10
def theMethod : MethodId := ⟨1, 1⟩
def args0 : Array Value := #[.int 5, .int 6, .int 7, .int 8]
def aboutOver (below : List Frame) : State where
  vm := { classes := classes, interned := interned.toArray }
  heap := heap
  slotsUsed := slotsUsed
  threads := #[{ frames := .invoking theMethod args0 :: below }]
def below0 : List Frame := [.native { method := ⟨0, 0⟩, args := #[] }]
def about1 : State := aboutOver below0
def p0 : Program := .bare "" "" ""
def e0 : Env := launch0.env 0 0 0
theorem w_frames : about1.frames = Frame.invoking theMethod args0 :: below0 := rfl
set_option maxRecDepth 65536 in
theorem w_args : argsFit about1.vm theMethod args0 = true := by decide +kernel
set_option maxRecDepth 65536 in
theorem w_heap : heapFits about1 = true := by decide +kernel
set_option maxRecDepth 65536 in
theorem w_runnable : about1.curStatus? = some .runnable := by decide +kernel
set_option maxRecDepth 65536 in
theorem w_alone : about1.alone = true := by decide +kernel
set_option maxRecDepth 65536 in
theorem w_named : about1.methodNamed? x = some theMethod := by decide +kernel
set_option maxRecDepth 65536 in
theorem w_hears : about1.hears theMethod below0 = true := by decide +kernel
set_option maxRecDepth 65536 in
theorem w_ripe : about1.ripe theMethod args0 below0 = true := by decide +kernel
theorem w_running : about1.status = .running := rfl
set_option maxRecDepth 65536 in
theorem w_room : about1.hasRoom e0.platform room_1 = true :=
  launch0.hasRoom_least _ room_1 (by decide +kernel) (by decide +kernel) (by decide +kernel) (by decide +kernel) (by decide +kernel) (by decide +kernel)
theorem allAtoms_all (ts : List Jvm.Cond) (a : Array Jvm.Value) (st : Jvm.State) : (allAtoms ts).before a st = ts.all (fun c => c.before a st) := by
  induction ts with
  | nil => rfl
  | cons c t ih =>
    show (Jvm.Cond.and c (allAtoms t)).before a st = _
    rw [Jvm.Cond.before_and, ih, List.all_cons]
def words1 : List Jvm.Cond := Jvm.Cond.code x code maxLocals ret :: tables_1
/-- a 'code' word, met by the world's own term for the bytes: nothing is compared byte by byte -/
theorem code_word {y : MethodName} {bytes : ByteArray} {mx : Nat} {rt : Option FieldType} {a : Array Value} {s : State} {m : MethodId} {meth : Method} {c : Code} (h1 : s.methodNamed? y = some m) (h2 : s.vm.method? m = some meth) (h3 : meth.code = some c) (h4 : c.code = bytes)
    (h5 : (c.maxLocals == mx && c.exceptionTable.isEmpty && decide (c.maxStack ≤ mostOperands) && decide (meth.sig.returnType = rt) && !meth.locks && decide (parseMethodDescriptor y.desc = some meth.sig)) = true) : (Jvm.Cond.code y bytes mx rt).before a s = true := by
  simp only [Bool.and_eq_true, beq_iff_eq, Bool.not_eq_true', decide_eq_true_eq] at h5
  obtain ⟨⟨⟨⟨⟨g1, g2⟩, g3⟩, g4⟩, g5⟩, g6⟩ := h5
  simp [Cond.before, Cond.holds, Cond.value, h1, h2, h3, h4, g1, g2, g3, g4, g5, g6]
def isCode : Jvm.Cond → Bool
  | .code _ _ _ _ => true
  | _ => false
theorem all_split {L : List Jvm.Cond} {P : Jvm.Cond → Bool} (h1 : L.all (fun c => isCode c || P c) = true) (h2 : ∀ c ∈ L.filter isCode, P c = true) : L.all P = true := by
  refine List.all_eq_true.mpr fun c hc => ?_
  have h := List.all_eq_true.mp h1 c hc
  rcases Bool.eq_false_or_eq_true (isCode c) with hi | hi
  · exact h2 c (List.mem_filter.mpr ⟨hc, hi⟩)
  · simpa [hi] using h
set_option maxRecDepth 65536 in
theorem w_c0 : (Jvm.Cond.code x code maxLocals ret).before args0 about1 = true := code_word (m := ⟨1, 1⟩) (meth := k1m1) (c := k1c1) (by decide +kernel) rfl rfl rfl (by decide +kernel)
set_option maxRecDepth 65536 in
theorem w_c1 : (Jvm.Cond.code ({ cls := "com/example/whenfree/whenfree/DialogReversedPinLaw", name := "draw", desc := "(I)Ljava/lang/String;" } : Jvm.MethodName) method_3_code (2 : Nat) (Option.some (Jvm.ClassFile.FieldType.object "java/lang/String"))).before args0 about1 = true := code_word (m := ⟨1, 2⟩) (meth := k1m2) (c := k1c2) (by decide +kernel) rfl rfl rfl (by decide +kernel)
set_option maxRecDepth 65536 in
theorem w_c2 : (Jvm.Cond.code ({ cls := "java/lang/String", name := "<init>", desc := "([C)V" } : Jvm.MethodName) jdk_42_method_3_code (2 : Nat) (Option.none : Option Jvm.ClassFile.FieldType)).before args0 about1 = true := code_word (m := ⟨7, 1⟩) (meth := k7m1) (c := k7c1) (by decide +kernel) rfl rfl rfl (by decide +kernel)
set_option maxRecDepth 65536 in
theorem w_c3 : (Jvm.Cond.code ({ cls := "java/lang/String", name := "<init>", desc := "([CIILjava/lang/Void;)V" } : Jvm.MethodName) jdk_42_method_149_code (6 : Nat) (Option.none : Option Jvm.ClassFile.FieldType)).before args0 about1 = true := code_word (m := ⟨7, 3⟩) (meth := k7m3) (c := k7c3) (by decide +kernel) rfl rfl rfl (by decide +kernel)
set_option maxRecDepth 65536 in
theorem w_c4 : (Jvm.Cond.code ({ cls := "java/lang/Object", name := "<init>", desc := "()V" } : Jvm.MethodName) object_method_1_code (1 : Nat) (Option.none : Option Jvm.ClassFile.FieldType)).before args0 about1 = true := code_word (m := ⟨0, 0⟩) (meth := k0m0) (c := k0c0) (by decide +kernel) rfl rfl rfl (by decide +kernel)
set_option maxRecDepth 65536 in
theorem w_c5 : (Jvm.Cond.code ({ cls := "java/lang/StringUTF16", name := "compress", desc := "([CII)[B" } : Jvm.MethodName) jdk_52_method_16_code (6 : Nat) (Option.some (Jvm.ClassFile.FieldType.array Jvm.ClassFile.FieldType.byte))).before args0 about1 = true := code_word (m := ⟨8, 2⟩) (meth := k8m2) (c := k8c2) (by decide +kernel) rfl rfl rfl (by decide +kernel)
set_option maxRecDepth 65536 in
theorem w_c6 : (Jvm.Cond.code ({ cls := "java/lang/StringUTF16", name := "compress", desc := "([CI[BII)I" } : Jvm.MethodName) jdk_52_method_21_code (7 : Nat) (Option.some Jvm.ClassFile.FieldType.int)).before args0 about1 = true := code_word (m := ⟨8, 3⟩) (meth := k8m3) (c := k8c3) (by decide +kernel) rfl rfl rfl (by decide +kernel)
set_option maxRecDepth 65536 in
theorem w_c7 : (Jvm.Cond.code ({ cls := "java/lang/StringUTF16", name := "coderFromArrayLen", desc := "([BI)B" } : Jvm.MethodName) jdk_52_method_15_code (2 : Nat) (Option.some Jvm.ClassFile.FieldType.byte)).before args0 about1 = true := code_word (m := ⟨8, 1⟩) (meth := k8m1) (c := k8c1) (by decide +kernel) rfl rfl rfl (by decide +kernel)
set_option maxRecDepth 65536 in
theorem w_c8 : (Jvm.Cond.code ({ cls := "com/example/whenfree/whenfree/Dialog", name := "<init>", desc := "(Ljava/lang/String;Ljava/lang/String;Ljava/lang/String;)V" } : Jvm.MethodName) prog_10_method_1_code (4 : Nat) (Option.none : Option Jvm.ClassFile.FieldType)).before args0 about1 = true := code_word (m := ⟨10, 0⟩) (meth := k10m0) (c := k10c0) (by decide +kernel) rfl rfl rfl (by decide +kernel)
set_option maxRecDepth 65536 in
theorem w_c9 : (Jvm.Cond.code ({ cls := "java/lang/Record", name := "<init>", desc := "()V" } : Jvm.MethodName) jdk_30_method_1_code (1 : Nat) (Option.none : Option Jvm.ClassFile.FieldType)).before args0 about1 = true := code_word (m := ⟨9, 0⟩) (meth := k9m0) (c := k9c0) (by decide +kernel) rfl rfl rfl (by decide +kernel)
set_option maxRecDepth 65536 in
theorem w_c10 : (Jvm.Cond.code ({ cls := "com/example/whenfree/whenfree/Dialog", name := "reversed", desc := "()Lcom/example/whenfree/whenfree/Dialog;" } : Jvm.MethodName) prog_10_method_3_code (1 : Nat) (Option.some (Jvm.ClassFile.FieldType.object "com/example/whenfree/whenfree/Dialog"))).before args0 about1 = true := code_word (m := ⟨10, 1⟩) (meth := k10m1) (c := k10c1) (by decide +kernel) rfl rfl rfl (by decide +kernel)
set_option maxRecDepth 65536 in
theorem w_c11 : (Jvm.Cond.code ({ cls := "com/example/whenfree/whenfree/Dialog", name := "callId", desc := "()Ljava/lang/String;" } : Jvm.MethodName) prog_10_method_7_code (1 : Nat) (Option.some (Jvm.ClassFile.FieldType.object "java/lang/String"))).before args0 about1 = true := code_word (m := ⟨10, 2⟩) (meth := k10m2) (c := k10c2) (by decide +kernel) rfl rfl rfl (by decide +kernel)
set_option maxRecDepth 65536 in
theorem w_c12 : (Jvm.Cond.code ({ cls := "com/example/whenfree/whenfree/DialogReversedPinLaw", name := "same", desc := "(Ljava/lang/String;Ljava/lang/String;)Z" } : Jvm.MethodName) method_4_code (2 : Nat) (Option.some Jvm.ClassFile.FieldType.boolean)).before args0 about1 = true := code_word (m := ⟨1, 3⟩) (meth := k1m3) (c := k1c3) (by decide +kernel) rfl rfl rfl (by decide +kernel)
set_option maxRecDepth 65536 in
theorem w_c13 : (Jvm.Cond.code ({ cls := "java/lang/String", name := "equals", desc := "(Ljava/lang/Object;)Z" } : Jvm.MethodName) jdk_42_method_66_code (3 : Nat) (Option.some Jvm.ClassFile.FieldType.boolean)).before args0 about1 = true := code_word (m := ⟨7, 2⟩) (meth := k7m2) (c := k7c2) (by decide +kernel) rfl rfl rfl (by decide +kernel)
set_option maxRecDepth 65536 in
theorem w_c14 : (Jvm.Cond.code ({ cls := "com/example/whenfree/whenfree/Dialog", name := "uacTag", desc := "()Ljava/lang/String;" } : Jvm.MethodName) prog_10_method_8_code (1 : Nat) (Option.some (Jvm.ClassFile.FieldType.object "java/lang/String"))).before args0 about1 = true := code_word (m := ⟨10, 3⟩) (meth := k10m3) (c := k10c3) (by decide +kernel) rfl rfl rfl (by decide +kernel)
set_option maxRecDepth 65536 in
theorem w_c15 : (Jvm.Cond.code ({ cls := "com/example/whenfree/whenfree/Dialog", name := "uasTag", desc := "()Ljava/lang/String;" } : Jvm.MethodName) prog_10_method_9_code (1 : Nat) (Option.some (Jvm.ClassFile.FieldType.object "java/lang/String"))).before args0 about1 = true := code_word (m := ⟨10, 4⟩) (meth := k10m4) (c := k10c4) (by decide +kernel) rfl rfl rfl (by decide +kernel)
def codes1 : List Jvm.Cond := [Jvm.Cond.code x code maxLocals ret, Jvm.Cond.code ({ cls := "com/example/whenfree/whenfree/DialogReversedPinLaw", name := "draw", desc := "(I)Ljava/lang/String;" } : Jvm.MethodName) method_3_code (2 : Nat) (Option.some (Jvm.ClassFile.FieldType.object "java/lang/String")), Jvm.Cond.code ({ cls := "java/lang/String", name := "<init>", desc := "([C)V" } : Jvm.MethodName) jdk_42_method_3_code (2 : Nat) (Option.none : Option Jvm.ClassFile.FieldType), Jvm.Cond.code ({ cls := "java/lang/String", name := "<init>", desc := "([CIILjava/lang/Void;)V" } : Jvm.MethodName) jdk_42_method_149_code (6 : Nat) (Option.none : Option Jvm.ClassFile.FieldType), Jvm.Cond.code ({ cls := "java/lang/Object", name := "<init>", desc := "()V" } : Jvm.MethodName) object_method_1_code (1 : Nat) (Option.none : Option Jvm.ClassFile.FieldType), Jvm.Cond.code ({ cls := "java/lang/StringUTF16", name := "compress", desc := "([CII)[B" } : Jvm.MethodName) jdk_52_method_16_code (6 : Nat) (Option.some (Jvm.ClassFile.FieldType.array Jvm.ClassFile.FieldType.byte)), Jvm.Cond.code ({ cls := "java/lang/StringUTF16", name := "compress", desc := "([CI[BII)I" } : Jvm.MethodName) jdk_52_method_21_code (7 : Nat) (Option.some Jvm.ClassFile.FieldType.int), Jvm.Cond.code ({ cls := "java/lang/StringUTF16", name := "coderFromArrayLen", desc := "([BI)B" } : Jvm.MethodName) jdk_52_method_15_code (2 : Nat) (Option.some Jvm.ClassFile.FieldType.byte), Jvm.Cond.code ({ cls := "com/example/whenfree/whenfree/Dialog", name := "<init>", desc := "(Ljava/lang/String;Ljava/lang/String;Ljava/lang/String;)V" } : Jvm.MethodName) prog_10_method_1_code (4 : Nat) (Option.none : Option Jvm.ClassFile.FieldType), Jvm.Cond.code ({ cls := "java/lang/Record", name := "<init>", desc := "()V" } : Jvm.MethodName) jdk_30_method_1_code (1 : Nat) (Option.none : Option Jvm.ClassFile.FieldType), Jvm.Cond.code ({ cls := "com/example/whenfree/whenfree/Dialog", name := "reversed", desc := "()Lcom/example/whenfree/whenfree/Dialog;" } : Jvm.MethodName) prog_10_method_3_code (1 : Nat) (Option.some (Jvm.ClassFile.FieldType.object "com/example/whenfree/whenfree/Dialog")), Jvm.Cond.code ({ cls := "com/example/whenfree/whenfree/Dialog", name := "callId", desc := "()Ljava/lang/String;" } : Jvm.MethodName) prog_10_method_7_code (1 : Nat) (Option.some (Jvm.ClassFile.FieldType.object "java/lang/String")), Jvm.Cond.code ({ cls := "com/example/whenfree/whenfree/DialogReversedPinLaw", name := "same", desc := "(Ljava/lang/String;Ljava/lang/String;)Z" } : Jvm.MethodName) method_4_code (2 : Nat) (Option.some Jvm.ClassFile.FieldType.boolean), Jvm.Cond.code ({ cls := "java/lang/String", name := "equals", desc := "(Ljava/lang/Object;)Z" } : Jvm.MethodName) jdk_42_method_66_code (3 : Nat) (Option.some Jvm.ClassFile.FieldType.boolean), Jvm.Cond.code ({ cls := "com/example/whenfree/whenfree/Dialog", name := "uacTag", desc := "()Ljava/lang/String;" } : Jvm.MethodName) prog_10_method_8_code (1 : Nat) (Option.some (Jvm.ClassFile.FieldType.object "java/lang/String")), Jvm.Cond.code ({ cls := "com/example/whenfree/whenfree/Dialog", name := "uasTag", desc := "()Ljava/lang/String;" } : Jvm.MethodName) prog_10_method_9_code (1 : Nat) (Option.some (Jvm.ClassFile.FieldType.object "java/lang/String"))]
set_option maxRecDepth 65536 in
theorem codes_eq : words1.filter isCode = codes1 := rfl
theorem w_codes : ∀ c ∈ words1.filter isCode, c.before args0 about1 = true := by
  rw [codes_eq]
  intro c hc
  simp only [codes1, List.mem_cons, List.not_mem_nil, or_false] at hc
  rcases hc with rfl | rfl | rfl | rfl | rfl | rfl | rfl | rfl | rfl | rfl | rfl | rfl | rfl | rfl | rfl | rfl
  · exact w_c0
  · exact w_c1
  · exact w_c2
  · exact w_c3
  · exact w_c4
  · exact w_c5
  · exact w_c6
  · exact w_c7
  · exact w_c8
  · exact w_c9
  · exact w_c10
  · exact w_c11
  · exact w_c12
  · exact w_c13
  · exact w_c14
  · exact w_c15
set_option maxRecDepth 65536 in
theorem w_t1 : (words1.take 24).all (fun c => isCode c || c.before args0 about1) = true := by decide +kernel
set_option maxRecDepth 65536 in
theorem w_t2 : ((words1.drop 24).take 24).all (fun c => isCode c || c.before args0 about1) = true := by decide +kernel
set_option maxRecDepth 65536 in
theorem w_t3 : (((words1.drop 24).drop 24).take 24).all (fun c => isCode c || c.before args0 about1) = true := by decide +kernel
set_option maxRecDepth 65536 in
theorem w_t4 : (((words1.drop 24).drop 24).drop 24).all (fun c => isCode c || c.before args0 about1) = true := by decide +kernel
theorem w_tables : (allAtoms (Jvm.Cond.code x code maxLocals ret :: tables_1)).before args0 about1 = true := by
  rw [allAtoms_all]
  show words1.all (fun c => c.before args0 about1) = true
  refine all_split ?_ w_codes
  rw [← List.take_append_drop 24 words1, List.all_append, w_t1, ← List.take_append_drop 24 (words1.drop 24), List.all_append, w_t2, ← List.take_append_drop 24 ((words1.drop 24).drop 24), List.all_append, w_t3, w_t4]
  rfl
set_option maxRecDepth 65536 in
theorem w_rest : rest_1_c.before args0 about1 = true := by decide +kernel
set_option maxRecDepth 65536 in
theorem w_case : (Jvm.Cond.and given_1 narrow_1).before args0 about1 = true := by decide +kernel
theorem w_applies : (headSpec (Jvm.Cond.code x code maxLocals ret :: tables_1) room_1).applies x e0.platform about1 = true :=
  (Spec.applies_iff w_frames).mpr ⟨w_running, w_runnable, w_alone, w_named, w_hears, w_ripe, w_room, w_tables⟩
theorem atStart : AtStart classFile x code maxLocals ret World_1 tables_1 room_1 Calls_1 rest_1 Pre_1 launch0 p0 e0 about1 theMethod args0 below0 :=
  ⟨lists_1, trivial, launch0.admits_env _ _ _, launch0.least_env, fairChoices_fair.cas, fairChoices_fair.clock, w_frames, w_args, w_heap, w_applies, trivial, w_rest, w_case⟩
end start1
theorem witness_1 : WitnessClaimed_1 := ⟨start1.p0, start1.e0, start1.about1, start1.theMethod, start1.args0, start1.below0, start1.atStart⟩
end Jvm.Pilot.@@N@@
