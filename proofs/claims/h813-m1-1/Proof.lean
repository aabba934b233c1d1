import JvmDerived
import JvmDerived.Pilot.@@N@@Statement
import JvmDerived.Pilot.@@N@@Code
set_option linter.unusedVariables false
set_option linter.unusedSimpArgs false
set_option maxRecDepth 65536
set_option maxHeartbeats 40000000
namespace Jvm.RoadKit
open Sem ClassFile Op Lib Jvm.Stand Jvm.Free Jvm.LawKit
section New
variable {p : Program} {l : Launch} {e : Env} {R : Room} {s : State} {m : MethodId} {args : Array Value} {below : List Frame} {meth : Method} {c : Code} {T : State} {locs : List Loc} {cells slots : Nat}
theorem retI (X : Stand p l e R s m args below meth c T locs cells slots) (hx : p.tables.exec = Jvm.exec) {pc : Nat} {Ls : Array Slot} {z : Int32} {rest : List Value} (hret : meth.sig.returnType = some .int) (hd : decode c.code pc = .ok (.ireturn, 1)) {fs : List Frame}
    (hl : ∀ (f : JFrame) (acts : List Action), f.method = m → f.locked = none → f.entered = [] → (doReturn e (T.setTop f) acts (some (.int z))).1 = T.setFrames fs) : Steps p.tables e below (T.setTop (mkF m pc Ls (.int z :: rest))) (T.setFrames fs) := by
  have hm' : T.vm.method? m = some meth := X.method'
  have hn : narrow .int (.int z) = .int z := rfl
  show Steps p.tables e below (T.setTop { method := m, pc := pc, locals := Ls, stack := _ :: rest, locked := none }) _
  jvm_step X.here [X.here.top, hx, hd, hm', hret, hn]
  first | (intro acts; rw [hl _ acts rfl rfl rfl]) | rw [hl _ _ rfl rfl rfl]
  exact Steps.refl _
end New
/-- a body's contract, written short -/
abbrev OwnMet (l : Launch) (Z : State) (y : MethodName) (bytes : ByteArray) (maxL : Nat) (ret : Option FieldType) (ws : List Cond) (rm : Room) (as' : Array Value) (h0 : Heap) (Q : Option Value → Heap → List Loc → Prop) : Prop :=
  MetFree l y (head1 (Cond.code y bytes maxL ret :: ws) rm) (fun a U => a = as' ∧ Z.Warmed39 U.vm ∧ U.heap = h0) (fun _ _ _ _ _ => True) (fun _ U o U' => ∃ v L, o = .returned v ∧ Q v U'.heap L ∧ FrameEnd U o U' L rm.cells rm.slots)
theorem own_body {l : Launch} {Z : State} {y : MethodName} {bytes : ByteArray} {maxL : Nat} {ret : Option FieldType} {ws : List Cond} {rm : Room} {as' : Array Value} {h0 : Heap} {Q : Option Value → Heap → List Loc → Prop} {L0 : Array Slot} (hp : plainFor y = true) (hef : ∀ m, entryFrame m as' maxL = mkF m 0 L0 [])
    (k : ∀ (p : Program) (e : Env) (s : State) (m : MethodId) (below : List Frame) (meth : Method) (c : Code) (s₁ : State), p.tables.exec = Jvm.exec → c.code = bytes → c.maxLocals = maxL → s.vm.findClass y.cls = some m.cls → meth.name = y.name → meth.sig.returnType = ret → Z.Warmed39 s.vm → Stand p l e rm s m as' below meth c s₁ [] 0 0 → s₁.heap = h0 →
      ∃ (T : State) (L : List Loc) (ce sl : Nat) (v : Option Value), Stand p l e rm s m as' below meth c T L ce sl ∧ (ret = none → v = none) ∧ ce ≤ rm.cells ∧ sl ≤ rm.slots ∧ Q v T.heap L ∧
        ∀ fs, (∀ (f : JFrame) (acts : List Action), f.method = m → f.locked = none → f.entered = [] → (doReturn e (T.setTop f) acts v).1 = T.setFrames fs) → Steps p.tables e below (s₁.setTop (mkF m 0 L0 [])) (T.setFrames fs)) :
    OwnMet l Z y bytes maxL ret ws rm as' h0 Q := by
  refine MetFree.of_bodySF hp hisR ?_
  intro p e s m args below meth c s₁ Bd hml hP hK
  obtain ⟨hargs, hZ, hh⟩ := hP
  subst hargs
  obtain ⟨T, L, ce, sl, v, X, hv, hc, hs, hq, st⟩ := k p e s m below meth c s₁ Bd.exec Bd.bytes hml (findClass_of_methodNamed Bd.named) (name_of_methodNamed Bd.named Bd.method).1 Bd.returns hZ (Stand.of_body Bd) (by rw [← hh, Bd.state]; rfl)
  obtain ⟨fs, hr, hrun, hended, hW, hsame⟩ := X.leave (v := v) (fun h => hv (Bd.returns ▸ h))
  exact ⟨_, _, castTop (hef m) (st fs hr), hrun, hended, v, L, rfl, hq, ⟨_, rfl⟩, hW, hsame.mono hc hs⟩
section Calls
variable {p : Program} {l : Launch} {e : Env} {R : Room} {s : State} {m : MethodId} {args : Array Value} {below : List Frame} {meth : Method} {c : Code} {T : State} {locs : List Loc} {cells slots : Nat} {Z : State} {a0 : Array Value} {h : Heap}
  {own : String} {index : Nat} {y z : MethodName} {bytes : ByteArray} {maxL : Nat} {ret : Option FieldType} {rm : Room} {as' : Array Value} {Q : Option Value → Heap → List Loc → Prop} {pc : Nat} {Ls : Array Slot} {argsL rest : List Value} {W : Nat}
/-- what a call leaves -/
abbrev OwnCame (p : Program) (l : Launch) (e : Env) (R : Room) (s : State) (m : MethodId) (args : Array Value) (below : List Frame) (meth : Method) (c : Code) (T : State) (locs : List Loc) (cells slots : Nat) (rm : Room) (Q : Option Value → Heap → List Loc → Prop) (pc pc' : Nat) (Ls : Array Slot) (st rest : List Value) : Prop :=
  ∃ (v : Option Value) (T' : State) (L : List Loc), Stand p l e R s m args below meth c T' (locs ++ L) (cells + rm.cells) (slots + rm.slots) ∧ Q v T'.heap L ∧
    ∀ target, Steps p.tables e below (T'.setTop (mkF m pc' Ls (v.toList ++ rest))) target → Steps p.tables e below (T.setTop (mkF m pc Ls st)) target
theorem own_callS (X : Stand p l e R s m args below meth c T locs cells slots) (hx : p.tables.exec = Jvm.exec) (hZ : Z.Warmed39 s.vm) (hown : s.vm.findClass own = some m.cls)
    (w1 : (Cond.methodLink own index y).before a0 Z = true) (w2 : (Cond.static y).before a0 Z = true) (w3 : (Cond.initialized y.cls).before a0 Z = true) (w4 : (Cond.code y bytes maxL ret).before a0 Z = true)
    (hM : OwnMet l Z y bytes maxL ret [] rm as' h Q) (eT : T.heap = h) (hsize : Ls.size = c.maxLocals) (hlen : ∀ sig, parseMethodDescriptor y.desc = some sig → argsL.length = sig.parameters.length) (hd : decode c.code pc = .ok (.invokestatic index, 3))
    (has : argsL.toArray = as' := by rfl) (hW : (rest.map fun v => v.category).sum ≤ W := by exact Nat.le_of_eq rfl) (hf : rm.frames + 1 ≤ R.frames := by decide) (hl : W + (maxL + 11) + rm.locals ≤ R.locals := by decide) (hc : cells + rm.cells ≤ R.cells := by decide) (hs : slots + rm.slots ≤ R.slots := by decide) (hy : y.cls ≠ "java/lang/invoke/MethodHandle" ∧ y.cls ≠ "java/lang/invoke/VarHandle" := by decide) :
    OwnCame p l e R s m args below meth c T locs cells slots rm Q pc (pc + 3) Ls (argsL.reverse ++ rest) rest := by
  obtain ⟨v, vm1, ⟨T', L', c', n'⟩, -, XB, ⟨L, hQ, l1, y1, z1⟩, st⟩ := Jvm.LawKit.callS X hx (y := y) hown (mvT hZ w1) (mvT hZ w2) (mvT hZ w3) (mvT hZ w4) hy (backOf (W := W) hM hZ w4 w3 hf hl) (g := mkF m pc Ls (argsL.reverse ++ rest)) rfl hsize (argsL := argsL) (rest := rest) hlen rfl (by show 2 * 0 + _ ≤ _; omega) hd (fun _ _ => ⟨has, eT, hc, hs⟩)
  dsimp only at XB l1 y1 z1 st hQ
  subst l1 y1 z1
  exact ⟨v, T', L, XB, hQ, st⟩
theorem own_special (X : Stand p l e R s m args below meth c T locs cells slots) (hx : p.tables.exec = Jvm.exec) (hZ : Z.Warmed39 s.vm) (hown : s.vm.findClass own = some m.cls) {a : Addr}
    (w1 : (Cond.methodLink own index y).before a0 Z = true) (w2 : (Cond.instanceMethod y).before a0 Z = true) (w3 : (Cond.initialized y.cls).before a0 Z = true) (w4 : (Cond.code y bytes maxL none).before a0 Z = true)
    (hM : OwnMet l Z y bytes maxL none [] rm as' h Q) (eT : T.heap = h) (hsize : Ls.size = c.maxLocals) (hlen : ∀ sig, parseMethodDescriptor y.desc = some sig → argsL.length = sig.parameters.length) (hd : decode c.code pc = .ok (.invokespecial index, 3))
    (has : (.ref a :: argsL).toArray = as' := by rfl) (hW : (rest.map fun v => v.category).sum ≤ W := by exact Nat.le_of_eq rfl) (hf : rm.frames + 1 ≤ R.frames := by decide) (hl : W + (maxL + 11) + rm.locals ≤ R.locals := by decide) (hc : cells + rm.cells ≤ R.cells := by decide) (hs : slots + rm.slots ≤ R.slots := by decide) (hy : y.cls ≠ "java/lang/invoke/MethodHandle" ∧ y.cls ≠ "java/lang/invoke/VarHandle" := by decide) (hy1 : y.name = "<init>" := by rfl) :
    OwnCame p l e R s m args below meth c T locs cells slots rm Q pc (pc + 3) Ls (argsL.reverse ++ .ref a :: rest) rest := by
  obtain ⟨v, vm1, ⟨T', L', c', n'⟩, -, XB, ⟨L, hQ, l1, y1, z1⟩, st⟩ := X.specialBack hx (y := y) hy1 hown (mvT hZ w1) (mvT hZ w2) (mvT hZ w4) hy (backOf (W := W) hM hZ w4 w3 hf hl) (g := mkF m pc Ls (argsL.reverse ++ .ref a :: rest)) rfl hsize (Steps.refl _) (a := a) (argsL := argsL) (rest := rest) hlen rfl (by show 2 * 0 + _ ≤ _; omega) hd (fun _ _ => ⟨has, eT, hc, hs⟩)
  dsimp only at XB l1 y1 z1 st hQ
  subst l1 y1 z1
  exact ⟨v, T', L, XB, hQ, fun t k => st.trans k⟩
theorem own_virtual (X : Stand p l e R s m args below meth c T locs cells slots) (hx : p.tables.exec = Jvm.exec) (hZ : Z.Warmed39 s.vm) (hown : s.vm.findClass own = some m.cls) {a : Addr} {C : String} (E : Exa Z h a C)
    (w1 : (Cond.methodLink own index y).before a0 Z = true) (w2 : (Cond.declares y).before a0 Z = true) (nf : NotFace s y) (w5 : (Cond.selects C y z).before a0 Z = true) (w6 : (Cond.instanceMethod z).before a0 Z = true) (w3 : (Cond.initialized z.cls).before a0 Z = true) (w4 : (Cond.code z bytes maxL ret).before a0 Z = true)
    (hM : OwnMet l Z z bytes maxL ret [] rm as' h Q) (eT : T.heap = h) (hsize : Ls.size = c.maxLocals) (hlen : ∀ sig, parseMethodDescriptor y.desc = some sig → argsL.length = sig.parameters.length) (hd : decode c.code pc = .ok (.invokevirtual index, 3))
    (has : (.ref a :: argsL).toArray = as' := by rfl) (hW : (rest.map fun v => v.category).sum ≤ W := by exact Nat.le_of_eq rfl) (hf : rm.frames + 1 ≤ R.frames := by decide) (hl : W + (maxL + 11) + rm.locals ≤ R.locals := by decide) (hc : cells + rm.cells ≤ R.cells := by decide) (hs : slots + rm.slots ≤ R.slots := by decide) (hy : y.cls ≠ "java/lang/invoke/MethodHandle" ∧ y.cls ≠ "java/lang/invoke/VarHandle" := by decide) :
    OwnCame p l e R s m args below meth c T locs cells slots rm Q pc (pc + 3) Ls (argsL.reverse ++ .ref a :: rest) rest := by
  obtain ⟨cB, kB, i1, -, i3⟩ := isOf hZ eT E
  obtain ⟨v, vm1, ⟨T', L', c', n'⟩, -, XB, ⟨L, hQ, l1, y1, z1⟩, st⟩ := X.virtualBack hx (y := y) (z := z) hown (mvT hZ w1) (mvT hZ w2) nf (mvT hZ w5) (mvT hZ w6) hy (backOf (W := W) hM hZ w4 w3 hf hl) i1 i3 (g := mkF m pc Ls (argsL.reverse ++ .ref a :: rest)) rfl hsize (Steps.refl _) (argsL := argsL) (rest := rest) hlen rfl (by show 2 * 0 + _ ≤ _; omega) hd (fun _ _ => ⟨has, eT, hc, hs⟩)
  dsimp only at XB l1 y1 z1 st hQ
  subst l1 y1 z1
  exact ⟨v, T', L, XB, hQ, fun t k => st.trans k⟩
theorem own_virtualUp (X : Stand p l e R s m args below meth c T locs cells slots) (hx : p.tables.exec = Jvm.exec) (hZ : Z.Warmed39 s.vm) (hown : s.vm.findClass own = some m.cls) {a : Addr} {C owner : String} (E : Exa Z h a C)
    (w1 : (Cond.methodLink own index y).before a0 Z = true) (w7 : (Cond.sameMethod y.cls owner y.name y.desc).before a0 Z = true) (w2 : (Cond.declares ⟨owner, y.name, y.desc⟩).before a0 Z = true) (w5 : (Cond.selects C y z).before a0 Z = true) (w6 : (Cond.instanceMethod z).before a0 Z = true) (w3 : (Cond.initialized z.cls).before a0 Z = true) (w4 : (Cond.code z bytes maxL ret).before a0 Z = true)
    (hM : OwnMet l Z z bytes maxL ret [] rm as' h Q) (eT : T.heap = h) (hsize : Ls.size = c.maxLocals) (hlen : ∀ sig, parseMethodDescriptor y.desc = some sig → argsL.length = sig.parameters.length) (hd : decode c.code pc = .ok (.invokevirtual index, 3))
    (has : (.ref a :: argsL).toArray = as' := by rfl) (hW : (rest.map fun v => v.category).sum ≤ W := by exact Nat.le_of_eq rfl) (hf : rm.frames + 1 ≤ R.frames := by decide) (hl : W + (maxL + 11) + rm.locals ≤ R.locals := by decide) (hc : cells + rm.cells ≤ R.cells := by decide) (hs : slots + rm.slots ≤ R.slots := by decide) (hy : owner ≠ "java/lang/invoke/MethodHandle" ∧ owner ≠ "java/lang/invoke/VarHandle" := by decide) :
    OwnCame p l e R s m args below meth c T locs cells slots rm Q pc (pc + 3) Ls (argsL.reverse ++ .ref a :: rest) rest := by
  obtain ⟨cB, kB, i1, -, i3⟩ := isOf hZ eT E
  obtain ⟨v, vm1, ⟨T', L', c', n'⟩, -, XB, ⟨L, hQ, l1, y1, z1⟩, st⟩ := X.virtualBackUp hx (x := y) (y := z) (owner := owner) hown (mvT hZ w1) (mvT hZ w7) (mvT hZ w2) hy (mvT hZ w5) (mvT hZ w6) (backOf (W := W) hM hZ w4 w3 hf hl) i1 i3 (g := mkF m pc Ls (argsL.reverse ++ .ref a :: rest)) rfl hsize (Steps.refl _) (argsL := argsL) (rest := rest) hlen rfl (by show 2 * 0 + _ ≤ _; omega) hd (fun _ _ => ⟨has, eT, hc, hs⟩)
  dsimp only at XB l1 y1 z1 st hQ
  subst l1 y1 z1
  exact ⟨v, T', L, XB, hQ, fun t k => st.trans k⟩
theorem own_private (X : Stand p l e R s m args below meth c T locs cells slots) (hx : p.tables.exec = Jvm.exec) (hZ : Z.Warmed39 s.vm) (hown : s.vm.findClass own = some m.cls) {a : Addr} {C : String} (E : Exa Z h a C)
    (w1 : (Cond.methodLink own index y).before a0 Z = true) (w2 : (Cond.instanceMethod y).before a0 Z = true) (w5 : (Cond.selects y.cls y y).before args s = true) (w6 : (Cond.privateMethod y).before a0 Z = true) (w3 : (Cond.initialized y.cls).before a0 Z = true) (w4 : (Cond.code y bytes maxL ret).before a0 Z = true)
    (hM : OwnMet l Z y bytes maxL ret [] rm as' h Q) (eT : T.heap = h) (hsize : Ls.size = c.maxLocals) (hlen : ∀ sig, parseMethodDescriptor y.desc = some sig → argsL.length = sig.parameters.length) (hd : decode c.code pc = .ok (.invokevirtual index, 3))
    (has : (.ref a :: argsL).toArray = as' := by rfl) (hW : (rest.map fun v => v.category).sum ≤ W := by exact Nat.le_of_eq rfl) (hf : rm.frames + 1 ≤ R.frames := by decide) (hl : W + (maxL + 11) + rm.locals ≤ R.locals := by decide) (hc : cells + rm.cells ≤ R.cells := by decide) (hs : slots + rm.slots ≤ R.slots := by decide) (hy : y.cls ≠ "java/lang/invoke/MethodHandle" ∧ y.cls ≠ "java/lang/invoke/VarHandle" := by decide) :
    OwnCame p l e R s m args below meth c T locs cells slots rm Q pc (pc + 3) Ls (argsL.reverse ++ .ref a :: rest) rest := by
  obtain ⟨cq, q1, q2⟩ := E.cell
  obtain ⟨v, vm1, ⟨T', L', c', n'⟩, -, XB, ⟨L, hQ, l1, y1, z1⟩, st⟩ := X.privateBack hx (y := y) hown (mvT hZ w1) (mvT hZ w2) w5 (Cond.privateMethod_at (mvP hZ w6 (args := #[]))) (mvT hZ w4) hy (backOf (W := W) hM hZ w4 w3 hf hl) (g := mkF m pc Ls (argsL.reverse ++ .ref a :: rest)) rfl hsize (Steps.refl _) (a := a) (by rw [eT]; exact q1) q2 (argsL := argsL) (rest := rest) hlen rfl (by show 2 * 0 + _ ≤ _; omega) hd (fun _ _ => ⟨has, eT, hc, hs⟩)
  dsimp only at XB l1 y1 z1 st hQ
  subst l1 y1 z1
  exact ⟨v, T', L, XB, hQ, fun t k => st.trans k⟩
theorem own_iface (X : Stand p l e R s m args below meth c T locs cells slots) (hx : p.tables.exec = Jvm.exec) (hZ : Z.Warmed39 s.vm) (hown : s.vm.findClass own = some m.cls) {a : Addr} {C : String} {count : Nat} (E : Exa Z h a C)
    (w1 : (Cond.methodLink own index y).before a0 Z = true) (w2 : (Cond.declares y).before a0 Z = true) (w7 : (Cond.interfaceMethod y.cls y.cls y.name y.desc).before a0 Z = true) (w5 : (Cond.selects C y z).before a0 Z = true) (w6 : (Cond.instanceMethod z).before a0 Z = true) (w8 : (Cond.publicMethod z).before a0 Z = true) (w9 : (Cond.unhidden C y.name y.desc).before a0 Z = true) (wc : (Cond.castable C y.cls).before a0 Z = true) (w3 : (Cond.initialized z.cls).before a0 Z = true) (w4 : (Cond.code z bytes maxL ret).before a0 Z = true)
    (hM : OwnMet l Z z bytes maxL ret [] rm as' h Q) (eT : T.heap = h) (hsize : Ls.size = c.maxLocals) (hlen : ∀ sig, parseMethodDescriptor y.desc = some sig → argsL.length = sig.parameters.length) (hd : decode c.code pc = .ok (.invokeinterface index count, 5))
    (has : (.ref a :: argsL).toArray = as' := by rfl) (hW : (rest.map fun v => v.category).sum ≤ W := by exact Nat.le_of_eq rfl) (hf : rm.frames + 1 ≤ R.frames := by decide) (hl : W + (maxL + 11) + rm.locals ≤ R.locals := by decide) (hc : cells + rm.cells ≤ R.cells := by decide) (hs : slots + rm.slots ≤ R.slots := by decide) (hy : y.cls ≠ "java/lang/invoke/MethodHandle" ∧ y.cls ≠ "java/lang/invoke/VarHandle" := by decide) :
    OwnCame p l e R s m args below meth c T locs cells slots rm Q pc (pc + 5) Ls (argsL.reverse ++ .ref a :: rest) rest := by
  obtain ⟨cB, kB, i1, i2, i3⟩ := isOf hZ eT E
  obtain ⟨v, vm1, ⟨T', L', c', n'⟩, -, XB, ⟨L, hQ, l1, y1, z1⟩, st⟩ := X.interfaceBack hx (xi := y) (y := z) hown (mvT hZ w1) (mvT hZ w2) (mvT hZ w7 (by simp [Cond.onTables, Cond.keepsFace, Cond.keeps, Cond.steady, Cond.faceAtom, hy.1, hy.2])) (mvT hZ w5) (mvT hZ w6) (mvT hZ w8) (mvT hZ w9) (mvT hZ wc) hy (backOf (W := W) hM hZ w4 w3 hf hl) i1 i2 i3 (g := mkF m pc Ls (argsL.reverse ++ .ref a :: rest)) rfl hsize (Steps.refl _) (argsL := argsL) (rest := rest) hlen rfl (by show 2 * 0 + _ ≤ _; omega) hd (fun _ _ => ⟨has, eT, hc, hs⟩)
  dsimp only at XB l1 y1 z1 st hQ
  subst l1 y1 z1
  exact ⟨v, T', L, XB, hQ, fun t k => st.trans k⟩
theorem own_specialNest (X : Stand p l e R s m args below meth c T locs cells slots) (hx : p.tables.exec = Jvm.exec) (hZ : Z.Warmed39 s.vm) (hown : s.vm.findClass own = some m.cls) {a : Addr} {host : String}
    (w1 : (Cond.methodLinkNest own index y host).before args s = true) (w2 : (Cond.instanceMethod y).before a0 Z = true) (w3 : (Cond.initialized y.cls).before a0 Z = true) (w4 : (Cond.code y bytes maxL none).before a0 Z = true)
    (hM : OwnMet l Z y bytes maxL none [] rm as' h Q) (eT : T.heap = h) (hsize : Ls.size = c.maxLocals) (hlen : ∀ sig, parseMethodDescriptor y.desc = some sig → argsL.length = sig.parameters.length) (hd : decode c.code pc = .ok (.invokespecial index, 3))
    (has : (.ref a :: argsL).toArray = as' := by rfl) (hW : (rest.map fun v => v.category).sum ≤ W := by exact Nat.le_of_eq rfl) (hf : rm.frames + 1 ≤ R.frames := by decide) (hl : W + (maxL + 11) + rm.locals ≤ R.locals := by decide) (hc : cells + rm.cells ≤ R.cells := by decide) (hs : slots + rm.slots ≤ R.slots := by decide) (hy : y.cls ≠ "java/lang/invoke/MethodHandle" ∧ y.cls ≠ "java/lang/invoke/VarHandle" := by decide) (hy1 : y.name = "<init>" := by rfl) :
    OwnCame p l e R s m args below meth c T locs cells slots rm Q pc (pc + 3) Ls (argsL.reverse ++ .ref a :: rest) rest := by
  obtain ⟨v, vm1, ⟨T', L', c', n'⟩, -, XB, ⟨L, hQ, l1, y1, z1⟩, st⟩ := X.specialBackNest hx (y := y) hy1 hown w1 (mvT hZ w2) (mvT hZ w4) hy (backOf (W := W) hM hZ w4 w3 hf hl) (g := mkF m pc Ls (argsL.reverse ++ .ref a :: rest)) rfl hsize (Steps.refl _) (a := a) (argsL := argsL) (rest := rest) hlen rfl (by show 2 * 0 + _ ≤ _; omega) hd (fun _ _ => ⟨has, eT, hc, hs⟩)
  dsimp only at XB l1 y1 z1 st hQ
  subst l1 y1 z1
  exact ⟨v, T', L, XB, hQ, fun t k => st.trans k⟩
end Calls
theorem own_narR {v : Value} (h : v.isRef = true) {t : FieldType} (ht : t.isReference = true := by rfl) : narrow t v = v := by
  rcases ref_cases h with rfl | ⟨a, rfl⟩ <;> cases t <;> first | rfl | cases ht
theorem own_fitR {v : Value} (h : v.isRef = true) {t : FieldType} (ht : t.isReference = true := by rfl) : fits t v = true := by
  rcases ref_cases h with rfl | ⟨a, rfl⟩ <;> cases t <;> first | rfl | cases ht
theorem own_catR {v : Value} (h : v.isRef = true) : v.category = 1 := by rcases ref_cases h with rfl | ⟨a, rfl⟩ <;> rfl
theorem own_arv_of_arh {Z : State} {h : Heap} {a : Addr} {k : ClassId} {ty : FieldType} {z : Int32} {vs : List Value} {dv : Value} (F : Arh Z h a k ty z [] vs dv) : Arv Z h a k ty z vs dv := by
  obtain ⟨c, A, q, S, N, H, G⟩ := F
  exact ⟨c, A, q, S, N, H, G⟩
theorem own_getD_all (j : Nat) (d : Value) : ∀ n, (List.replicate n d).getD j d = d := by
  intro n
  simp only [List.getD_eq_getElem?_getD, List.getElem?_replicate]
  split <;> rfl
theorem own_c_nar_char (x : Int32) : ((nar .char x).toInt - x.toInt) % 65536 = 0 ∧ 0 ≤ (nar .char x).toInt ∧ (nar .char x).toInt < 65536 := c_i2c x
theorem own_c_nar_byte (x : Int32) : ((nar .byte x).toInt - x.toInt) % 256 = 0 ∧ -128 ≤ (nar .byte x).toInt ∧ (nar .byte x).toInt < 128 := c_i2b x
theorem own_mask (x m : Int32) (k : Nat) (hk : k ≤ 31) (hm : m.toBitVec.toNat = 2 ^ k - 1) (P : Int) (hP : ((2 ^ k : Nat) : Int) = P) : (x &&& m).toInt = x.toInt % P := by rw [← hP]; exact c_mask x m k hk hm
theorem own_maskL (x m : Int64) (k : Nat) (hk : k ≤ 63) (hm : m.toBitVec.toNat = 2 ^ k - 1) (P : Int) (hP : ((2 ^ k : Nat) : Int) = P) : (x &&& m).toInt = x.toInt % P := by rw [← hP]; exact c_maskL x m k hk hm
theorem own_ushr (x q : Int32) (k : Nat) (hk : q.toBitVec.toNat % 32 = k) (h0 : 0 < k) (P : Int) (hP : ((2 ^ k : Nat) : Int) = P) : ((x.toUInt32 >>> (q &&& 31).toUInt32).toInt32).toInt = (x.toInt % 4294967296) / P := by rw [← hP]; exact c_iushr x q k hk h0
theorem own_shr (x q : Int32) (k : Nat) (hk : q.toBitVec.toNat % 32 = k) (P : Int) (hP : ((2 ^ k : Nat) : Int) = P) : (x >>> (q &&& 31)).toInt = x.toInt / P := by rw [← hP]; exact c_ishr x q k hk
theorem own_irem_eq (x y : Int32) : x - (x / y) * y = x % y := by
  have h : (x - (x / y) * y).toInt = (x % y).toInt := by
    rw [Int32.toInt_sub, Int32.toInt_mul, Int32.toInt_mod, Int32.toInt_div, Int.bmod_mul_bmod, Int.sub_bmod_bmod]
    have hx := x.le_toInt; have hx' := x.toInt_lt
    have e : x.toInt - x.toInt.tdiv y.toInt * y.toInt = x.toInt.tmod y.toInt := by rw [Int.tmod_def, Int.mul_comm]
    rw [e]
    have h4 : (x.toInt.tmod y.toInt) ≤ 2147483647 := by
      by_cases hp : 0 ≤ x.toInt
      · have := Int.natAbs_tmod x.toInt y.toInt; have := Nat.mod_le x.toInt.natAbs y.toInt.natAbs; omega
      · have := Int.tmod_nonneg (a := -x.toInt) y.toInt (by omega); rw [Int.neg_tmod] at this; omega
    have h5 : -2147483648 ≤ (x.toInt.tmod y.toInt) := by
      have := Int.natAbs_tmod x.toInt y.toInt; have := Nat.mod_le x.toInt.natAbs y.toInt.natAbs; omega
    exact Int.bmod_eq_of_le (by omega) (by omega)
  exact Int32.toInt_inj.mp h
theorem own_irem (x y : Int32) (d : Int) (hy : y.toInt = d) : (0 ≤ x.toInt → (x - (x / y) * y).toInt = x.toInt % d) ∧ (x.toInt < 0 → (x - (x / y) * y).toInt = -((-x.toInt) % d)) := by rw [own_irem_eq]; exact c_irem x y d hy
end Jvm.RoadKit
namespace Jvm.Pilot.@@N@@
open Jvm Jvm.ClassFile Sem Op Lib Jvm.Free Jvm.Stand Jvm.LawKit Jvm.RoadKit Bundle Jvm.Pilot.@@N@@.Jvm.D
def Q0 (n0 : Nat) (v : Option Value) (h : Heap) (L : List Loc) : Prop := v = some (.int 1) ∧ Fr n0 L
theorem own_eqI {args : Array Value} {first s : State} {o : Option Outcome} {idx : List Nat} {t : Term} {n : Int32} (h : (Jvm.Cond.eq t (.int n)).value args first o s idx = some true) : t.eval args first o idx s = some (.int n) := by
  simp only [Jvm.Cond.value, Term.eval] at h
  cases ht : t.eval args first o idx s with
  | none => simp [ht] at h
  | some x => cases x <;> simp [ht] at h ⊢; exact h
theorem own_eqR {args : Array Value} {first s : State} {o : Option Outcome} {idx : List Nat} {t u : Term} {a : Addr} (h : (Jvm.Cond.eq t u).value args first o s idx = some true) (hu : u.eval args first o idx s = some (.ref a)) : t.eval args first o idx s = some (.ref a) := by
  simp only [Jvm.Cond.value, hu] at h
  cases ht : t.eval args first o idx s with
  | none => simp [ht] at h
  | some x => cases x <;> simp [ht] at h ⊢; exact h
theorem own_len {args : Array Value} {s : State} {t : Term} {n : Int32} {a : Addr} {c : Cell} {ty : FieldType} (h : (Term.length t).eval args s none [] s = some (.int n)) (ev : t.eval args s none [] s = some (.ref a)) (A : Arr s s.heap a c ty) : c.slots.size < 2 ^ 31 ∧ c.slots.size.toInt32 = n := by
  have e := Arr.fin (Vm.Alike.refl _) A
  by_cases q : c.slots.size < 2 ^ 31
  · have := (len_f ev e q).symm.trans h
    exact ⟨q, by simpa using this⟩
  · simp [Term.eval, ev, e, q] at h
theorem w_0 {a0 : Array Value} {Z : State} (hw : ∀ d ∈ tables_1, d.before a0 Z = true) : Jvm.Cond.before (Jvm.Cond.constant "com/example/informal_search/informalsearch/ranking/FeedbackExpandsPinLaw" (7 : Nat) (2147483647 : Int32)) a0 Z = true := hw _ (List.mem_of_getElem? (i := 0) rfl)
theorem w_1 {a0 : Array Value} {Z : State} (hw : ∀ d ∈ tables_1, d.before a0 Z = true) : Jvm.Cond.before (Jvm.Cond.constantDouble "com/example/informal_search/informalsearch/ranking/FeedbackExpandsPinLaw" (8 : Nat) (4616189618054758400 : UInt64)) a0 Z = true := hw _ (List.mem_of_getElem? (i := 1) rfl)
theorem w_2 {a0 : Array Value} {Z : State} (hw : ∀ d ∈ tables_1, d.before a0 Z = true) : Jvm.Cond.before (Jvm.Cond.classLink "com/example/informal_search/informalsearch/ranking/FeedbackExpandsPinLaw" (10 : Nat) "com/example/informal_search/informalsearch/ranking/Feedback") a0 Z = true := hw _ (List.mem_of_getElem? (i := 2) rfl)
theorem w_3 {a0 : Array Value} {Z : State} (hw : ∀ d ∈ tables_1, d.before a0 Z = true) : Jvm.Cond.before (Jvm.Cond.instantiable "com/example/informal_search/informalsearch/ranking/Feedback" (3 : Nat)) a0 Z = true := hw _ (List.mem_of_getElem? (i := 3) rfl)
theorem w_4 {a0 : Array Value} {Z : State} (hw : ∀ d ∈ tables_1, d.before a0 Z = true) : Jvm.Cond.before (Jvm.Cond.initialized "com/example/informal_search/informalsearch/ranking/Feedback") a0 Z = true := hw _ (List.mem_of_getElem? (i := 4) rfl)
theorem w_17 {a0 : Array Value} {Z : State} (hw : ∀ d ∈ tables_1, d.before a0 Z = true) : Jvm.Cond.before (Jvm.Cond.laysFinal "com/example/informal_search/informalsearch/ranking/Feedback" "com/example/informal_search/informalsearch/ranking/Feedback" "weight" "D") a0 Z = true := hw _ (List.mem_of_getElem? (i := 17) rfl)
theorem w_19 {a0 : Array Value} {Z : State} (hw : ∀ d ∈ tables_1, d.before a0 Z = true) : Jvm.Cond.before (Jvm.Cond.laysFinal "com/example/informal_search/informalsearch/ranking/Feedback" "com/example/informal_search/informalsearch/ranking/Feedback" "entities" "I") a0 Z = true := hw _ (List.mem_of_getElem? (i := 19) rfl)
theorem w_21 {a0 : Array Value} {Z : State} (hw : ∀ d ∈ tables_1, d.before a0 Z = true) : Jvm.Cond.before (Jvm.Cond.laysFinal "com/example/informal_search/informalsearch/ranking/Feedback" "com/example/informal_search/informalsearch/ranking/Feedback" "terms" "I") a0 Z = true := hw _ (List.mem_of_getElem? (i := 21) rfl)
theorem d1_0 : decode prog_62_method_1_code 0 = .ok (.aload_n 0, 1) := by decide +kernel
theorem d1_1 : decode prog_62_method_1_code 1 = .ok (.invokespecial 1, 3) := by decide +kernel
theorem d2_0 : decode jdk_30_method_1_code 0 = .ok (.aload_n 0, 1) := by decide +kernel
theorem d2_1 : decode jdk_30_method_1_code 1 = .ok (.invokespecial 1, 3) := by decide +kernel
theorem w_13 {a0 : Array Value} {Z : State} (hw : ∀ d ∈ tables_1, d.before a0 Z = true) : Jvm.Cond.before (Jvm.Cond.methodLink "java/lang/Record" (1 : Nat) ({ cls := "java/lang/Object", name := "<init>", desc := "()V" } : Jvm.MethodName)) a0 Z = true := hw _ (List.mem_of_getElem? (i := 13) rfl)
theorem w_14 {a0 : Array Value} {Z : State} (hw : ∀ d ∈ tables_1, d.before a0 Z = true) : Jvm.Cond.before (Jvm.Cond.instanceMethod ({ cls := "java/lang/Object", name := "<init>", desc := "()V" } : Jvm.MethodName)) a0 Z = true := hw _ (List.mem_of_getElem? (i := 14) rfl)
theorem w_15 {a0 : Array Value} {Z : State} (hw : ∀ d ∈ tables_1, d.before a0 Z = true) : Jvm.Cond.before (Jvm.Cond.code ({ cls := "java/lang/Object", name := "<init>", desc := "()V" } : Jvm.MethodName) object_method_1_code (1 : Nat) (Option.none : Option Jvm.ClassFile.FieldType)) a0 Z = true := hw _ (List.mem_of_getElem? (i := 15) rfl)
theorem d2_4 : decode jdk_30_method_1_code 4 = .ok (.return_, 1) := by decide +kernel
abbrev y_0 : MethodName := ⟨"java/lang/Record", "<init>", "()V"⟩
theorem pn_0 : plainName "java/lang/Record" = true := by first | (simp [plainName, overriddenIn]; done) | decide +kernel
-- java/lang/Record.<init>()V
abbrev Rm1 : Room := { frames := 1, cells := 0, slots := 0, locals := 12 }
def Q1 (Z : State) (a1 : Addr) (h0 : Heap) (n0 : Nat) (v : Option Value) (h : Heap) (L : List Loc) : Prop := v = none ∧ Fr n0 L ∧ h = h0
theorem ef1 (a1 : Addr) (m : MethodId) : entryFrame m #[(.ref a1)] 1 = mkF m 0 #[.val (.ref a1)] [] := by first | (simp [entryFrame, mkF, argsToLocals, Value.category]; done) | rfl
theorem rm1 (l : Launch) (Z : State) (a0 : Array Value) (hw : ∀ d ∈ tables_1, d.before a0 Z = true) (ws : List Jvm.Cond) (a1 : Addr) (h0 : Heap) (n0 : Nat) (Z0 : n0 ≤ h0.size) :
    OwnMet l Z y_0 jdk_30_method_1_code 1 none ws Rm1 #[(.ref a1)] h0 (Q1 Z a1 h0 n0) := by
  refine own_body (plainFor_of_name pn_0) (ef1 a1) ?_
  intro p e s m below meth c s₁ hx hby hml hown hnm hret hZ X0 e0
  have N0 := Fr.nil n0
  obtain ⟨T2, X2, e2, st2⟩ := initO X0 hx hZ hown (w_13 hw) (w_14 hw) (w_15 hw) e0 (g := (mkF m 1 #[.val (.ref a1)] [(.ref a1)])) rfl (by rw [hml]; rfl) rfl (hb hby d2_1) (by decide) (W := 0) (by show 2 * 0 + _ ≤ _; exact Nat.le_of_eq rfl) (by decide)
  refine ⟨T2, _, _, _, none, X2, (fun _ => rfl), by decide, by decide, ?_, fun fs hr => ?_⟩
  · show Q1 Z a1 h0 n0 _ T2.heap _
    rw [e2]
    exact ⟨rfl, N0, rfl⟩
  · show Steps p.tables e below (s₁.setTop (mkF m 0 #[.val (.ref a1)] [])) _
    refine XS.aloadN X0.here hx rfl (hb hby d2_0) rfl rfl ?_
    refine st2 _ ?_
    exact X2.returnOut hx hret (hb hby d2_4) hr
theorem pd_0 : parseMethodDescriptor "()V" = some ⟨[], none⟩ := by decide +kernel
theorem w_11 {a0 : Array Value} {Z : State} (hw : ∀ d ∈ tables_1, d.before a0 Z = true) : Jvm.Cond.before (Jvm.Cond.initialized "java/lang/Record") a0 Z = true := hw _ (List.mem_of_getElem? (i := 11) rfl)
theorem w_12 {a0 : Array Value} {Z : State} (hw : ∀ d ∈ tables_1, d.before a0 Z = true) : Jvm.Cond.before (Jvm.Cond.code ({ cls := "java/lang/Record", name := "<init>", desc := "()V" } : Jvm.MethodName) jdk_30_method_1_code (1 : Nat) (Option.none : Option Jvm.ClassFile.FieldType)) a0 Z = true := hw _ (List.mem_of_getElem? (i := 12) rfl)
theorem w_8 {a0 : Array Value} {Z : State} (hw : ∀ d ∈ tables_1, d.before a0 Z = true) : Jvm.Cond.before (Jvm.Cond.methodLink "com/example/informal_search/informalsearch/ranking/Feedback" (1 : Nat) ({ cls := "java/lang/Record", name := "<init>", desc := "()V" } : Jvm.MethodName)) a0 Z = true := hw _ (List.mem_of_getElem? (i := 8) rfl)
theorem w_9 {a0 : Array Value} {Z : State} (hw : ∀ d ∈ tables_1, d.before a0 Z = true) : Jvm.Cond.before (Jvm.Cond.instanceMethod ({ cls := "java/lang/Record", name := "<init>", desc := "()V" } : Jvm.MethodName)) a0 Z = true := hw _ (List.mem_of_getElem? (i := 9) rfl)
theorem d1_4 : decode prog_62_method_1_code 4 = .ok (.dload_n 1, 1) := by decide +kernel
theorem d1_5 : decode prog_62_method_1_code 5 = .ok (.dconst 0, 1) := by decide +kernel
theorem d1_6 : decode prog_62_method_1_code 6 = .ok (.dcmp .l, 1) := by decide +kernel
theorem d1_7 : decode prog_62_method_1_code 7 = .ok (.ifCond .lt 9, 3) := by decide +kernel
theorem d1_10 : decode prog_62_method_1_code 10 = .ok (.dload_n 1, 1) := by decide +kernel
theorem d1_11 : decode prog_62_method_1_code 11 = .ok (.dconst 1, 1) := by decide +kernel
theorem d1_12 : decode prog_62_method_1_code 12 = .ok (.dcmp .g, 1) := by decide +kernel
theorem d1_13 : decode prog_62_method_1_code 13 = .ok (.ifCond .le 17, 3) := by decide +kernel
theorem d1_30 : decode prog_62_method_1_code 30 = .ok (.iload_n 3, 1) := by decide +kernel
theorem d1_31 : decode prog_62_method_1_code 31 = .ok (.ifCond .lt 8, 3) := by decide +kernel
theorem d1_34 : decode prog_62_method_1_code 34 = .ok (.iload 4, 2) := by decide +kernel
theorem d1_36 : decode prog_62_method_1_code 36 = .ok (.ifCond .ge 19, 3) := by decide +kernel
theorem d1_55 : decode prog_62_method_1_code 55 = .ok (.aload_n 0, 1) := by decide +kernel
theorem d1_56 : decode prog_62_method_1_code 56 = .ok (.dload_n 1, 1) := by decide +kernel
theorem d1_57 : decode prog_62_method_1_code 57 = .ok (.putfield 19, 3) := by decide +kernel
theorem w_16 {a0 : Array Value} {Z : State} (hw : ∀ d ∈ tables_1, d.before a0 Z = true) : Jvm.Cond.before (Jvm.Cond.fieldLink "com/example/informal_search/informalsearch/ranking/Feedback" (19 : Nat) "com/example/informal_search/informalsearch/ranking/Feedback" "weight" "D") a0 Z = true := hw _ (List.mem_of_getElem? (i := 16) rfl)
theorem d1_60 : decode prog_62_method_1_code 60 = .ok (.aload_n 0, 1) := by decide +kernel
theorem d1_61 : decode prog_62_method_1_code 61 = .ok (.iload_n 3, 1) := by decide +kernel
theorem d1_62 : decode prog_62_method_1_code 62 = .ok (.putfield 25, 3) := by decide +kernel
theorem w_18 {a0 : Array Value} {Z : State} (hw : ∀ d ∈ tables_1, d.before a0 Z = true) : Jvm.Cond.before (Jvm.Cond.fieldLink "com/example/informal_search/informalsearch/ranking/Feedback" (25 : Nat) "com/example/informal_search/informalsearch/ranking/Feedback" "entities" "I") a0 Z = true := hw _ (List.mem_of_getElem? (i := 18) rfl)
theorem d1_65 : decode prog_62_method_1_code 65 = .ok (.aload_n 0, 1) := by decide +kernel
theorem d1_66 : decode prog_62_method_1_code 66 = .ok (.iload 4, 2) := by decide +kernel
theorem d1_68 : decode prog_62_method_1_code 68 = .ok (.putfield 29, 3) := by decide +kernel
theorem w_20 {a0 : Array Value} {Z : State} (hw : ∀ d ∈ tables_1, d.before a0 Z = true) : Jvm.Cond.before (Jvm.Cond.fieldLink "com/example/informal_search/informalsearch/ranking/Feedback" (29 : Nat) "com/example/informal_search/informalsearch/ranking/Feedback" "terms" "I") a0 Z = true := hw _ (List.mem_of_getElem? (i := 20) rfl)
theorem d1_71 : decode prog_62_method_1_code 71 = .ok (.return_, 1) := by decide +kernel
abbrev y_1 : MethodName := ⟨"com/example/informal_search/informalsearch/ranking/Feedback", "<init>", "(DII)V"⟩
theorem pn_1 : plainName "com/example/informal_search/informalsearch/ranking/Feedback" = true := by first | (simp [plainName, overriddenIn]; done) | decide +kernel
-- com/example/informal_search/informalsearch/ranking/Feedback.<init>(DII)V
abbrev Rm2 : Room := { frames := 2, cells := 0, slots := 0, locals := 24 }
def Q2 (Z : State) (a1 : Addr) (p2 : Int32) (p3 : Int32) (h0 : Heap) (n0 : Nat) (v : Option Value) (h : Heap) (L : List Loc) : Prop := v = none ∧ Fr n0 L ∧ Keep h0 h [a1] ∧ Exa Z h a1 "com/example/informal_search/informalsearch/ranking/Feedback" ∧ Fld Z h a1 "com/example/informal_search/informalsearch/ranking/Feedback" "entities" "I" (.int p2) ∧ Fld Z h a1 "com/example/informal_search/informalsearch/ranking/Feedback" "terms" "I" (.int p3) ∧ Fld Z h a1 "com/example/informal_search/informalsearch/ranking/Feedback" "weight" "D" (.double (0 : UInt64))
theorem ef2 (a1 : Addr) (p2 : Int32) (p3 : Int32) (m : MethodId) : entryFrame m #[(.ref a1), (.double (0 : UInt64)), (.int p2), (.int p3)] 5 = mkF m 0 #[.val (.ref a1), .val (.double (0 : UInt64)), .second, .val (.int p2), .val (.int p3)] [] := by first | (simp [entryFrame, mkF, argsToLocals, Value.category]; done) | rfl
theorem rm2 (l : Launch) (Z : State) (a0 : Array Value) (hw : ∀ d ∈ tables_1, d.before a0 Z = true) (ws : List Jvm.Cond) (a1 : Addr) (p2 : Int32) (p3 : Int32) (h0 : Heap) (n0 : Nat) (Z0 : n0 ≤ h0.size) (c5 : ¬ (p2 < (0 : Int32))) (c6 : ¬ (p3 < (0 : Int32))) (F_weight_a1 : Fld Z h0 a1 "com/example/informal_search/informalsearch/ranking/Feedback" "weight" "D" (.double (0 : UInt64))) (E_a1 : Exa Z h0 a1 "com/example/informal_search/informalsearch/ranking/Feedback") (g_a1 : n0 ≤ a1) (F_entities_a1 : Fld Z h0 a1 "com/example/informal_search/informalsearch/ranking/Feedback" "entities" "I" (.int (0 : Int32))) (F_terms_a1 : Fld Z h0 a1 "com/example/informal_search/informalsearch/ranking/Feedback" "terms" "I" (.int (0 : Int32))) :
    OwnMet l Z y_1 prog_62_method_1_code 5 none ws Rm2 #[(.ref a1), (.double (0 : UInt64)), (.int p2), (.int p3)] h0 (Q2 Z a1 p2 p3 h0 n0) := by
  refine own_body (plainFor_of_name pn_1) (ef2 a1 p2 p3) ?_
  intro p e s m below meth c s₁ hx hby hml hown hnm hret hZ X0 e0
  have N0 := Fr.nil n0
  obtain ⟨_, T4, L4, X4, hQ4, st4⟩ := own_special X0 hx hZ hown (y := y_0) (a := a1) (w_8 hw) (w_9 hw) (w_11 hw) (w_12 hw) (rm1 l Z a0 hw [] a1 h0 n0 Z0) e0 (Ls := #[.val (.ref a1), .val (.double (0 : UInt64)), .second, .val (.int p2), .val (.int p3)]) (by rw [hml]; rfl) (argsL := []) (rest := []) (lenOf pd_0 rfl) (hb hby d1_1) (W := 0)
  obtain ⟨rfl, Nq4, e4⟩ := hQ4
  have N4 := Fr.app N0 Nq4
  obtain ⟨T7, h7, X7, e7, W7, st7⟩ := putF X4 hx hZ hown (host := "") (Or.inl (w_16 hw)) Via.refl e4 F_weight_a1 E_a1 (Or.inr ⟨(w_17 hw), rfl, hnm⟩) (w_3 hw) (ty := .double) (by decide) rfl rfl (g := (mkF m 57 #[.val (.ref a1), .val (.double (0 : UInt64)), .second, .val (.int p2), .val (.int p3)] [(.double (0 : UInt64)), (.ref a1)])) rfl rfl (hb hby d1_57)
  have s0 := (Keep.of_wr W7).1
  have N7 := Fr.snoc X7 N4 g_a1
  have Fw7 : Fld Z h7 a1 "com/example/informal_search/informalsearch/ranking/Feedback" "weight" "D" (.double (0 : UInt64)) := F_weight_a1.same W7
  have Ex8 := (E_a1.wr W7)
  have Fl9 := (F_entities_a1.other W7 (Or.inr (slot_ne (Or.inr (w_19 hw)) (Or.inr (w_17 hw)) (by decide) (t := .int) (t' := .double) (by decide) (by decide))))
  obtain ⟨T10, h10, X10, e10, W10, st10⟩ := putF X7 hx hZ hown (host := "") (Or.inl (w_18 hw)) Via.refl e7 Fl9 Ex8 (Or.inr ⟨(w_19 hw), rfl, hnm⟩) (w_3 hw) (ty := .int) (by decide) rfl rfl (g := (mkF m 62 #[.val (.ref a1), .val (.double (0 : UInt64)), .second, .val (.int p2), .val (.int p3)] [(.int p2), (.ref a1)])) rfl rfl (hb hby d1_62)
  have s1 := (Keep.of_wr W10).1
  have N10 := Fr.snoc X10 N7 g_a1
  have Fw10 : Fld Z h10 a1 "com/example/informal_search/informalsearch/ranking/Feedback" "entities" "I" (.int p2) := Fl9.same W10
  have Ex11 := (Ex8.wr W10)
  have Fl12 := ((F_terms_a1.other W7 (Or.inr (slot_ne (Or.inr (w_21 hw)) (Or.inr (w_17 hw)) (by decide) (t := .int) (t' := .double) (by decide) (by decide)))).other W10 (Or.inr (slot_ne (Or.inr (w_21 hw)) (Or.inr (w_19 hw)) (by decide) (t := .int) (t' := .int) (by decide) (by decide))))
  obtain ⟨T13, h13, X13, e13, W13, st13⟩ := putF X10 hx hZ hown (host := "") (Or.inl (w_20 hw)) Via.refl e10 Fl12 Ex11 (Or.inr ⟨(w_21 hw), rfl, hnm⟩) (w_3 hw) (ty := .int) (by decide) rfl rfl (g := (mkF m 68 #[.val (.ref a1), .val (.double (0 : UInt64)), .second, .val (.int p2), .val (.int p3)] [(.int p3), (.ref a1)])) rfl rfl (hb hby d1_68)
  have s2 := (Keep.of_wr W13).1
  have N13 := Fr.snoc X13 N10 g_a1
  have Fw13 : Fld Z h13 a1 "com/example/informal_search/informalsearch/ranking/Feedback" "terms" "I" (.int p3) := Fl12.same W13
  have Ex14 := (Ex11.wr W13)
  have Fl15 := (Fw10.other W13 (Or.inr (slot_ne (Or.inr (w_19 hw)) (Or.inr (w_21 hw)) (by decide) (t := .int) (t' := .int) (by decide) (by decide))))
  have Fl16 := ((Fw7.other W10 (Or.inr (slot_ne (Or.inr (w_17 hw)) (Or.inr (w_19 hw)) (by decide) (t := .double) (t' := .int) (by decide) (by decide)))).other W13 (Or.inr (slot_ne (Or.inr (w_17 hw)) (Or.inr (w_21 hw)) (by decide) (t := .double) (t' := .int) (by decide) (by decide))))
  have Kp0 : Keep h0 h7 [a1] := (Keep.refl h0 [a1]).wr W7 (Or.inl (List.mem_of_getElem? (i := 0) rfl))
  have Kp1 : Keep h0 h10 [a1] := Kp0.wr W10 (Or.inl (List.mem_of_getElem? (i := 0) rfl))
  have Kp2 : Keep h0 h13 [a1] := Kp1.wr W13 (Or.inl (List.mem_of_getElem? (i := 0) rfl))
  refine ⟨T13, _, _, _, none, X13, (fun _ => rfl), by decide, by decide, ?_, fun fs hr => ?_⟩
  · show Q2 Z a1 p2 p3 h0 n0 _ T13.heap _
    rw [e13]
    exact ⟨rfl, N13, Kp2, Ex14, Fl15, Fw13, Fl16⟩
  · show Steps p.tables e below (s₁.setTop (mkF m 0 #[.val (.ref a1), .val (.double (0 : UInt64)), .second, .val (.int p2), .val (.int p3)] [])) _
    refine XS.aloadN X0.here hx rfl (hb hby d1_0) rfl rfl ?_
    refine st4 _ ?_
    refine XS.dloadN X4.here hx rfl (hb hby d1_4) rfl ?_
    refine XS.dconst0 X4.here hx rfl (hb hby d1_5) rfl ?_
    refine XS.dcmpS X4.here hx rfl (hb hby d1_6) rfl (by decide +kernel : (cmpValue (FP.dcmp (0 : UInt64) (0 : UInt64)) .l) = (0 : Int32)) ?_
    refine XS.ifNo X4.here hx rfl (hb hby d1_7) rfl ((if0 _ _).trans (flt ((by decide : ¬ ((0 : Int32) < (0 : Int32))) : ¬ ((0 : Int32) < (0 : Int32)))).1) ?_
    refine XS.dloadN X4.here hx rfl (hb hby d1_10) rfl ?_
    refine XS.dconst1 X4.here hx rfl (hb hby d1_11) rfl ?_
    refine XS.dcmpS X4.here hx rfl (hb hby d1_12) rfl (by decide +kernel : (cmpValue (FP.dcmp (0 : UInt64) (4607182418800017408 : UInt64)) .g) = (-1 : Int32)) ?_
    refine XS.ifYes X4.here hx rfl (pc0 := 13) (pc' := 30) rfl (hb hby d1_13) rfl ((if0 _ _).trans (flt ((by decide : ¬ ((0 : Int32) < (-1 : Int32))) : ¬ ((0 : Int32) < (-1 : Int32)))).2.2.2) (by decide) (by decide) ?_
    refine XS.iloadN X4.here hx rfl (hb hby d1_30) rfl ?_
    refine XS.ifNo X4.here hx rfl (hb hby d1_31) rfl ((if0 _ _).trans (flt (c5 : ¬ (p2 < (0 : Int32)))).1) ?_
    show Steps p.tables e below (T4.setTop (mkF m 34 #[.val (.ref a1), .val (.double (0 : UInt64)), .second, .val (.int p2), .val (.int p3)] [])) _
    refine XS.iload X4.here hx rfl (hb hby d1_34) rfl ?_
    refine XS.ifYes X4.here hx rfl (pc0 := 36) (pc' := 55) rfl (hb hby d1_36) rfl ((if0 _ _).trans (flt (c6 : ¬ (p3 < (0 : Int32)))).2.1) (by decide) (by decide) ?_
    refine XS.aloadN X4.here hx rfl (hb hby d1_55) rfl rfl ?_
    refine XS.dloadN X4.here hx rfl (hb hby d1_56) rfl ?_
    refine st7 _ ?_
    refine XS.aloadN X7.here hx rfl (hb hby d1_60) rfl rfl ?_
    refine XS.iloadN X7.here hx rfl (hb hby d1_61) rfl ?_
    refine st10 _ ?_
    refine XS.aloadN X10.here hx rfl (hb hby d1_65) rfl rfl ?_
    refine XS.iload X10.here hx rfl (hb hby d1_66) rfl ?_
    refine st13 _ ?_
    exact X13.returnOut hx hret (hb hby d1_71) hr
theorem pd_1 : parseMethodDescriptor "(DII)V" = some ⟨[.double, .int, .int], none⟩ := by decide +kernel
theorem w_7 {a0 : Array Value} {Z : State} (hw : ∀ d ∈ tables_1, d.before a0 Z = true) : Jvm.Cond.before (Jvm.Cond.code ({ cls := "com/example/informal_search/informalsearch/ranking/Feedback", name := "<init>", desc := "(DII)V" } : Jvm.MethodName) prog_62_method_1_code (5 : Nat) (Option.none : Option Jvm.ClassFile.FieldType)) a0 Z = true := hw _ (List.mem_of_getElem? (i := 7) rfl)
theorem w_5 {a0 : Array Value} {Z : State} (hw : ∀ d ∈ tables_1, d.before a0 Z = true) : Jvm.Cond.before (Jvm.Cond.methodLink "com/example/informal_search/informalsearch/ranking/FeedbackExpandsPinLaw" (12 : Nat) ({ cls := "com/example/informal_search/informalsearch/ranking/Feedback", name := "<init>", desc := "(DII)V" } : Jvm.MethodName)) a0 Z = true := hw _ (List.mem_of_getElem? (i := 5) rfl)
theorem w_6 {a0 : Array Value} {Z : State} (hw : ∀ d ∈ tables_1, d.before a0 Z = true) : Jvm.Cond.before (Jvm.Cond.instanceMethod ({ cls := "com/example/informal_search/informalsearch/ranking/Feedback", name := "<init>", desc := "(DII)V" } : Jvm.MethodName)) a0 Z = true := hw _ (List.mem_of_getElem? (i := 6) rfl)
theorem d4_0 : decode prog_62_method_2_code 0 = .ok (.aload_n 0, 1) := by decide +kernel
theorem d4_1 : decode prog_62_method_2_code 1 = .ok (.getfield 19, 3) := by decide +kernel
theorem d4_4 : decode prog_62_method_2_code 4 = .ok (.dconst 0, 1) := by decide +kernel
theorem d4_5 : decode prog_62_method_2_code 5 = .ok (.dcmp .l, 1) := by decide +kernel
theorem d4_6 : decode prog_62_method_2_code 6 = .ok (.ifCond .le 21, 3) := by decide +kernel
theorem d4_27 : decode prog_62_method_2_code 27 = .ok (.iconst 0, 1) := by decide +kernel
theorem d4_28 : decode prog_62_method_2_code 28 = .ok (.ireturn, 1) := by decide +kernel
abbrev y_2 : MethodName := ⟨"com/example/informal_search/informalsearch/ranking/Feedback", "expands", "()Z"⟩
-- com/example/informal_search/informalsearch/ranking/Feedback.expands()Z
abbrev Rm3 : Room := { frames := 0, cells := 0, slots := 0, locals := 0 }
def Q3 (Z : State) (a1 : Addr) (h0 : Heap) (n0 : Nat) (v : Option Value) (h : Heap) (L : List Loc) : Prop := v = some (.int (0 : Int32)) ∧ Fr n0 L ∧ h = h0
theorem ef3 (a1 : Addr) (m : MethodId) : entryFrame m #[(.ref a1)] 1 = mkF m 0 #[.val (.ref a1)] [] := by first | (simp [entryFrame, mkF, argsToLocals, Value.category]; done) | rfl
theorem rm3 (l : Launch) (Z : State) (a0 : Array Value) (hw : ∀ d ∈ tables_1, d.before a0 Z = true) (ws : List Jvm.Cond) (a1 : Addr) (h0 : Heap) (n0 : Nat) (Z0 : n0 ≤ h0.size) (F_weight_a1 : Fld Z h0 a1 "com/example/informal_search/informalsearch/ranking/Feedback" "weight" "D" (.double (0 : UInt64))) :
    OwnMet l Z y_2 prog_62_method_2_code 1 (some .boolean) ws Rm3 #[(.ref a1)] h0 (Q3 Z a1 h0 n0) := by
  refine own_body (plainFor_of_name pn_1) (ef3 a1) ?_
  intro p e s m below meth c s₁ hx hby hml hown hnm hret hZ X0 e0
  have N0 := Fr.nil n0
  obtain ⟨T2, X2, e2, st2⟩ := getF X0 hx hZ hown (host := "") (Or.inl (w_16 hw)) Via.refl e0 F_weight_a1 (g := (mkF m 1 #[.val (.ref a1)] [(.ref a1)])) rfl rfl (hb hby d4_1)
  refine ⟨T2, _, _, _, (some (.int (0 : Int32))), X2, nofun, by decide, by decide, ?_, fun fs hr => ?_⟩
  · show Q3 Z a1 h0 n0 _ T2.heap _
    rw [e2]
    exact ⟨rfl, N0, rfl⟩
  · show Steps p.tables e below (s₁.setTop (mkF m 0 #[.val (.ref a1)] [])) _
    refine XS.aloadN X0.here hx rfl (hb hby d4_0) rfl rfl ?_
    refine st2 _ ?_
    refine XS.dconst0 X2.here hx rfl (hb hby d4_4) rfl ?_
    refine XS.dcmpS X2.here hx rfl (hb hby d4_5) rfl (by decide +kernel : (cmpValue (FP.dcmp (0 : UInt64) (0 : UInt64)) .l) = (0 : Int32)) ?_
    refine XS.ifYes X2.here hx rfl (pc0 := 6) (pc' := 27) rfl (hb hby d4_6) rfl ((if0 _ _).trans (flt ((by decide : ¬ ((0 : Int32) < (0 : Int32))) : ¬ ((0 : Int32) < (0 : Int32)))).2.2.2) (by decide) (by decide) ?_
    refine XS.iconst X2.here hx rfl (hb hby d4_27) ?_
    exact retN X2 hx (t := .boolean) hret (by simp) (hb hby d4_28) hr
theorem pd_2 : parseMethodDescriptor "()Z" = some ⟨[], some .boolean⟩ := by decide +kernel
theorem w_26 {a0 : Array Value} {Z : State} (hw : ∀ d ∈ tables_1, d.before a0 Z = true) : Jvm.Cond.before (Jvm.Cond.code ({ cls := "com/example/informal_search/informalsearch/ranking/Feedback", name := "expands", desc := "()Z" } : Jvm.MethodName) prog_62_method_2_code (1 : Nat) (Option.some Jvm.ClassFile.FieldType.boolean)) a0 Z = true := hw _ (List.mem_of_getElem? (i := 26) rfl)
theorem w_22 {a0 : Array Value} {Z : State} (hw : ∀ d ∈ tables_1, d.before a0 Z = true) : Jvm.Cond.before (Jvm.Cond.methodLink "com/example/informal_search/informalsearch/ranking/FeedbackExpandsPinLaw" (15 : Nat) ({ cls := "com/example/informal_search/informalsearch/ranking/Feedback", name := "expands", desc := "()Z" } : Jvm.MethodName)) a0 Z = true := hw _ (List.mem_of_getElem? (i := 22) rfl)
theorem w_25 {a0 : Array Value} {Z : State} (hw : ∀ d ∈ tables_1, d.before a0 Z = true) : Jvm.Cond.before (Jvm.Cond.selects "com/example/informal_search/informalsearch/ranking/Feedback" ({ cls := "com/example/informal_search/informalsearch/ranking/Feedback", name := "expands", desc := "()Z" } : Jvm.MethodName) ({ cls := "com/example/informal_search/informalsearch/ranking/Feedback", name := "expands", desc := "()Z" } : Jvm.MethodName)) a0 Z = true := hw _ (List.mem_of_getElem? (i := 25) rfl)
theorem w_23 {a0 : Array Value} {Z : State} (hw : ∀ d ∈ tables_1, d.before a0 Z = true) : Jvm.Cond.before (Jvm.Cond.declares ({ cls := "com/example/informal_search/informalsearch/ranking/Feedback", name := "expands", desc := "()Z" } : Jvm.MethodName)) a0 Z = true := hw _ (List.mem_of_getElem? (i := 23) rfl)
theorem w_24 {a0 : Array Value} {Z : State} (hw : ∀ d ∈ tables_1, d.before a0 Z = true) : Jvm.Cond.before (Jvm.Cond.instanceMethod ({ cls := "com/example/informal_search/informalsearch/ranking/Feedback", name := "expands", desc := "()Z" } : Jvm.MethodName)) a0 Z = true := hw _ (List.mem_of_getElem? (i := 24) rfl)
theorem ef0 (p1 : Int32) (p2 : Int32) (p3 : Int32) (m : MethodId) : entryFrame m #[(.int p1), (.int p2), (.int p3)] maxLocals = mkF m 0 #[.val (.int p1), .val (.int p2), .val (.int p3), .unset, .unset, .unset, .unset, .unset, .unset, .unset] [] := by first | (simp [entryFrame, mkF, argsToLocals, Value.category, maxLocals]; done) | rfl
theorem pn_2 : plainName "com/example/informal_search/informalsearch/ranking/FeedbackExpandsPinLaw" = true := by first | (simp [plainName, overriddenIn]; done) | decide +kernel
theorem rm0_0 (l : Launch) (Z : State) (a0 : Array Value) (hw : ∀ d ∈ tables_1, d.before a0 Z = true) (ws : List Jvm.Cond) (p1 : Int32) (p2 : Int32) (p3 : Int32) (h0 : Heap) (n0 : Nat) (Z0 : n0 ≤ h0.size) (Od0 : Old Z n0 h0) (hk : ((p1 &&& (2147483647 : Int32)) - ((p1 &&& (2147483647 : Int32)) / (5 : Int32)) * (5 : Int32)) = (0 : Int32)) :
    OwnMet l Z x code maxLocals ret ws room_1 #[(.int p1), (.int p2), (.int p3)] h0 (Q0 n0) := by
  refine own_body (plainFor_of_name pn_2) (ef0 p1 p2 p3) ?_
  intro p e s m below meth c s₁ hx hby hml hown hnm hret hZ X0 e0
  have N0 := Fr.nil n0
  obtain ⟨T1, h1, X1, e1, E1, A1, D1, -, st1⟩ := newO X0 hx hZ hown (w_2 hw) (w_3 hw) (w_4 hw) e0 (g := (mkF m 27 #[.val (.int p1), .val (.int p2), .val (.int p3), .val (.int (0 : Int32)), .val (.int (p2 &&& (2147483647 : Int32))), .val (.int (p3 &&& (2147483647 : Int32))), .val (.double (0 : UInt64)), .second, .unset, .unset] [])) rfl (hb hby at_27) (by decide) (by decide)
  obtain ⟨b1, g1⟩ : ∃ z, z = h0.size := ⟨_, rfl⟩
  rw [← g1] at A1 D1 st1
  have s0 := E1.1
  have Fn1_weight : Fld Z h1 b1 "com/example/informal_search/informalsearch/ranking/Feedback" "weight" "D" (.double (0 : UInt64)) := D1 (Or.inr (w_17 hw)) (ty := .double) (by decide)
  have Fn1_entities : Fld Z h1 b1 "com/example/informal_search/informalsearch/ranking/Feedback" "entities" "I" (.int (0 : Int32)) := D1 (Or.inr (w_19 hw)) (ty := .int) (by decide)
  have Fn1_terms : Fld Z h1 b1 "com/example/informal_search/informalsearch/ranking/Feedback" "terms" "I" (.int (0 : Int32)) := D1 (Or.inr (w_21 hw)) (ty := .int) (by decide)
  have cd2 : ¬ ((p2 &&& (2147483647 : Int32)) < (0 : Int32)) := (by rw [Int32.lt_iff_toInt_lt]; have := rng32 (p2 &&& (2147483647 : Int32)); have := rng32 p2; have := own_mask p2 (2147483647 : Int32) 31 (by decide) (by decide) 2147483648 (by decide); have : ((0 : Int32)).toInt = 0 := (by decide); omega)
  have cd3 : ¬ ((p3 &&& (2147483647 : Int32)) < (0 : Int32)) := (by rw [Int32.lt_iff_toInt_lt]; have := rng32 (p3 &&& (2147483647 : Int32)); have := rng32 p3; have := own_mask p3 (2147483647 : Int32) 31 (by decide) (by decide) 2147483648 (by decide); have : ((0 : Int32)).toInt = 0 := (by decide); omega)
  have g_b1 : n0 ≤ b1 := Nat.le_trans Z0 (Nat.le_of_eq g1.symm)
  have z1 := Nat.le_trans Z0 s0
  obtain ⟨_, T4, L4, X4, hQ4, st4⟩ := own_special X1 hx hZ hown (y := y_1) (a := b1) (w_5 hw) (w_6 hw) (w_4 hw) (w_7 hw) (rm2 l Z a0 hw [] b1 (p2 &&& (2147483647 : Int32)) (p3 &&& (2147483647 : Int32)) h1 n0 z1 cd2 cd3 Fn1_weight A1 g_b1 Fn1_entities Fn1_terms) e1 (Ls := #[.val (.int p1), .val (.int p2), .val (.int p3), .val (.int (0 : Int32)), .val (.int (p2 &&& (2147483647 : Int32))), .val (.int (p3 &&& (2147483647 : Int32))), .val (.double (0 : UInt64)), .second, .unset, .unset]) (by rw [hml]; rfl) (argsL := [(.double (0 : UInt64)), (.int (p2 &&& (2147483647 : Int32))), (.int (p3 &&& (2147483647 : Int32)))]) (rest := [(.ref b1)]) (lenOf pd_1 rfl) (hb hby at_37) (W := 1)
  obtain ⟨rfl, Nq4, K4, o4_0, o4_1, o4_2, o4_3⟩ := hQ4
  have N4 := Fr.app N0 Nq4
  have s1 := K4.1
  have z2 := Nat.le_trans Z0 (Nat.le_trans s0 s1)
  obtain ⟨_, T5, L5, X5, hQ5, st5⟩ := own_virtual X4 hx hZ hown (y := y_2) (z := y_2) o4_0 (w_22 hw) (w_23 hw) (notFace_of_selects (args := #[]) (mvT hZ (w_25 hw))) (w_25 hw) (w_24 hw) (w_4 hw) (w_26 hw) (rm3 l Z a0 hw [] b1 T4.heap n0 z2 o4_3) rfl (Ls := #[.val (.int p1), .val (.int p2), .val (.int p3), .val (.int (0 : Int32)), .val (.int (p2 &&& (2147483647 : Int32))), .val (.int (p3 &&& (2147483647 : Int32))), .val (.double (0 : UInt64)), .second, .val (.ref b1), .val (.int (0 : Int32))]) (by rw [hml]; rfl) (argsL := []) (rest := []) (lenOf pd_2 rfl) (hb hby at_65) (W := 0)
  obtain ⟨rfl, Nq5, e5⟩ := hQ5
  have N5 := Fr.app N4 Nq5
  refine ⟨T5, _, _, _, (some (.int (1 : Int32))), X5, nofun, by decide, by decide, ?_, fun fs hr => ?_⟩
  · show Q0 n0 _ T5.heap _
    rw [e5]
    exact ⟨rfl, N5⟩
  · show Steps p.tables e below (s₁.setTop (mkF m 0 #[.val (.int p1), .val (.int p2), .val (.int p3), .unset, .unset, .unset, .unset, .unset, .unset, .unset] [])) _
    refine XS.iloadN X0.here hx rfl (hb hby at_0) rfl ?_
    refine X0.ldcInt hx hown (mvT hZ (w_0 hw)) (g := (mkF m 1 #[.val (.int p1), .val (.int p2), .val (.int p3), .unset, .unset, .unset, .unset, .unset, .unset, .unset] [(.int p1)])) rfl (hb hby at_1) _ ?_
    refine XS.iand X0.here hx rfl (hb hby at_3) rfl ?_
    refine XS.iconst X0.here hx rfl (hb hby at_4) ?_
    refine XS.irem X0.here hx rfl (hb hby at_5) rfl (by decide : ¬ ((5 : Int32) = (0 : Int32))) ?_
    show Steps p.tables e below (s₁.setTop (mkF m 6 #[.val (.int p1), .val (.int p2), .val (.int p3), .unset, .unset, .unset, .unset, .unset, .unset, .unset] [(.int ((p1 &&& (2147483647 : Int32)) - ((p1 &&& (2147483647 : Int32)) / (5 : Int32)) * (5 : Int32)))])) _
    rw [hk]
    refine XS.istoreN X0.here hx rfl (hb hby at_6) rfl (l' := #[.val (.int p1), .val (.int p2), .val (.int p3), .val (.int (0 : Int32)), .unset, .unset, .unset, .unset, .unset, .unset]) rfl ?_
    refine XS.iloadN X0.here hx rfl (hb hby at_7) rfl ?_
    refine X0.ldcInt hx hown (mvT hZ (w_0 hw)) (g := (mkF m 8 #[.val (.int p1), .val (.int p2), .val (.int p3), .val (.int (0 : Int32)), .unset, .unset, .unset, .unset, .unset, .unset] [(.int p2)])) rfl (hb hby at_8) _ ?_
    refine XS.iand X0.here hx rfl (hb hby at_10) rfl ?_
    refine XS.istore X0.here hx rfl (hb hby at_11) rfl (l' := #[.val (.int p1), .val (.int p2), .val (.int p3), .val (.int (0 : Int32)), .val (.int (p2 &&& (2147483647 : Int32))), .unset, .unset, .unset, .unset, .unset]) rfl ?_
    refine XS.iloadN X0.here hx rfl (hb hby at_13) rfl ?_
    refine X0.ldcInt hx hown (mvT hZ (w_0 hw)) (g := (mkF m 14 #[.val (.int p1), .val (.int p2), .val (.int p3), .val (.int (0 : Int32)), .val (.int (p2 &&& (2147483647 : Int32))), .unset, .unset, .unset, .unset, .unset] [(.int p3)])) rfl (hb hby at_14) _ ?_
    refine XS.iand X0.here hx rfl (hb hby at_16) rfl ?_
    refine XS.istore X0.here hx rfl (hb hby at_17) rfl (l' := #[.val (.int p1), .val (.int p2), .val (.int p3), .val (.int (0 : Int32)), .val (.int (p2 &&& (2147483647 : Int32))), .val (.int (p3 &&& (2147483647 : Int32))), .unset, .unset, .unset, .unset]) rfl ?_
    refine XS.iloadN X0.here hx rfl (hb hby at_19) rfl ?_
    refine XS.i2dS X0.here hx rfl (hb hby at_20) rfl (by decide +kernel : (FP.i2d (0 : Int32)) = (0 : UInt64)) ?_
    show Steps p.tables e below (s₁.setTop (mkF m 21 #[.val (.int p1), .val (.int p2), .val (.int p3), .val (.int (0 : Int32)), .val (.int (p2 &&& (2147483647 : Int32))), .val (.int (p3 &&& (2147483647 : Int32))), .unset, .unset, .unset, .unset] [(.double (0 : UInt64))])) _
    refine X0.ldc2DoubleC hx hown (mvT hZ (w_1 hw)) (g := (mkF m 21 #[.val (.int p1), .val (.int p2), .val (.int p3), .val (.int (0 : Int32)), .val (.int (p2 &&& (2147483647 : Int32))), .val (.int (p3 &&& (2147483647 : Int32))), .unset, .unset, .unset, .unset] [(.double (0 : UInt64))])) rfl (hb hby at_21) _ ?_
    refine XS.ddivS X0.here hx rfl (hb hby at_24) rfl (by decide +kernel) (by decide +kernel : (FP.ddiv (0 : UInt64) (4616189618054758400 : UInt64)) = (0 : UInt64)) ?_
    refine XS.dstore X0.here hx rfl (hb hby at_25) rfl (l' := #[.val (.int p1), .val (.int p2), .val (.int p3), .val (.int (0 : Int32)), .val (.int (p2 &&& (2147483647 : Int32))), .val (.int (p3 &&& (2147483647 : Int32))), .val (.double (0 : UInt64)), .second, .unset, .unset]) rfl ?_
    refine st1 _ ?_
    refine XS.dup X1.here hx rfl (hb hby at_30) rfl rfl ?_
    refine XS.dload X1.here hx rfl (hb hby at_31) rfl ?_
    refine XS.iload X1.here hx rfl (hb hby at_33) rfl ?_
    refine XS.iload X1.here hx rfl (hb hby at_35) rfl ?_
    refine st4 _ ?_
    refine XS.astore X4.here hx rfl (hb hby at_40) rfl rfl (l' := #[.val (.int p1), .val (.int p2), .val (.int p3), .val (.int (0 : Int32)), .val (.int (p2 &&& (2147483647 : Int32))), .val (.int (p3 &&& (2147483647 : Int32))), .val (.double (0 : UInt64)), .second, .val (.ref b1), .unset]) rfl ?_
    refine XS.iloadN X4.here hx rfl (hb hby at_42) rfl ?_
    refine XS.ifYes X4.here hx rfl (pc0 := 43) (pc' := 60) rfl (hb hby at_43) rfl ((if0 _ _).trans (teq ((by decide : (0 : Int32) = (0 : Int32)) : (0 : Int32) = (0 : Int32))).1) (by decide) (by decide) ?_
    show Steps p.tables e below (T4.setTop (mkF m 60 #[.val (.int p1), .val (.int p2), .val (.int p3), .val (.int (0 : Int32)), .val (.int (p2 &&& (2147483647 : Int32))), .val (.int (p3 &&& (2147483647 : Int32))), .val (.double (0 : UInt64)), .second, .val (.ref b1), .unset] [])) _
    refine XS.iconst X4.here hx rfl (hb hby at_60) ?_
    refine XS.istore X4.here hx rfl (hb hby at_61) rfl (l' := #[.val (.int p1), .val (.int p2), .val (.int p3), .val (.int (0 : Int32)), .val (.int (p2 &&& (2147483647 : Int32))), .val (.int (p3 &&& (2147483647 : Int32))), .val (.double (0 : UInt64)), .second, .val (.ref b1), .val (.int (0 : Int32))]) rfl ?_
    refine XS.aload X4.here hx rfl (hb hby at_63) rfl rfl ?_
    refine st5 _ ?_
    refine XS.iload X5.here hx rfl (hb hby at_68) rfl ?_
    refine XS.icmpNo X5.here hx rfl (hb hby at_70) rfl (teq ((by decide : (0 : Int32) = (0 : Int32)) : (0 : Int32) = (0 : Int32))).2 ?_
    refine XS.iconst X5.here hx rfl (hb hby at_73) ?_
    refine XS.goto X5.here hx rfl (pc0 := 74) (pc' := 78) rfl (hb hby at_74) (by decide) (by decide) ?_
    exact retN X5 hx (t := .boolean) hret (by simp) (hb hby at_78) hr
-- com/example/informal_search/informalsearch/ranking/Feedback.<init>(DII)V
abbrev Rm4 : Room := { frames := 2, cells := 0, slots := 0, locals := 24 }
def Q4 (Z : State) (a1 : Addr) (p2 : Int32) (p3 : Int32) (h0 : Heap) (n0 : Nat) (v : Option Value) (h : Heap) (L : List Loc) : Prop := v = none ∧ Fr n0 L ∧ Keep h0 h [a1] ∧ Exa Z h a1 "com/example/informal_search/informalsearch/ranking/Feedback" ∧ Fld Z h a1 "com/example/informal_search/informalsearch/ranking/Feedback" "entities" "I" (.int p2) ∧ Fld Z h a1 "com/example/informal_search/informalsearch/ranking/Feedback" "terms" "I" (.int p3) ∧ Fld Z h a1 "com/example/informal_search/informalsearch/ranking/Feedback" "weight" "D" (.double (4598175219545276416 : UInt64))
theorem ef4 (a1 : Addr) (p2 : Int32) (p3 : Int32) (m : MethodId) : entryFrame m #[(.ref a1), (.double (4598175219545276416 : UInt64)), (.int p2), (.int p3)] 5 = mkF m 0 #[.val (.ref a1), .val (.double (4598175219545276416 : UInt64)), .second, .val (.int p2), .val (.int p3)] [] := by first | (simp [entryFrame, mkF, argsToLocals, Value.category]; done) | rfl
theorem rm4 (l : Launch) (Z : State) (a0 : Array Value) (hw : ∀ d ∈ tables_1, d.before a0 Z = true) (ws : List Jvm.Cond) (a1 : Addr) (p2 : Int32) (p3 : Int32) (h0 : Heap) (n0 : Nat) (Z0 : n0 ≤ h0.size) (c5 : ¬ (p2 < (0 : Int32))) (c6 : ¬ (p3 < (0 : Int32))) (F_weight_a1 : Fld Z h0 a1 "com/example/informal_search/informalsearch/ranking/Feedback" "weight" "D" (.double (0 : UInt64))) (E_a1 : Exa Z h0 a1 "com/example/informal_search/informalsearch/ranking/Feedback") (g_a1 : n0 ≤ a1) (F_entities_a1 : Fld Z h0 a1 "com/example/informal_search/informalsearch/ranking/Feedback" "entities" "I" (.int (0 : Int32))) (F_terms_a1 : Fld Z h0 a1 "com/example/informal_search/informalsearch/ranking/Feedback" "terms" "I" (.int (0 : Int32))) :
    OwnMet l Z y_1 prog_62_method_1_code 5 none ws Rm4 #[(.ref a1), (.double (4598175219545276416 : UInt64)), (.int p2), (.int p3)] h0 (Q4 Z a1 p2 p3 h0 n0) := by
  refine own_body (plainFor_of_name pn_1) (ef4 a1 p2 p3) ?_
  intro p e s m below meth c s₁ hx hby hml hown hnm hret hZ X0 e0
  have N0 := Fr.nil n0
  obtain ⟨_, T4, L4, X4, hQ4, st4⟩ := own_special X0 hx hZ hown (y := y_0) (a := a1) (w_8 hw) (w_9 hw) (w_11 hw) (w_12 hw) (rm1 l Z a0 hw [] a1 h0 n0 Z0) e0 (Ls := #[.val (.ref a1), .val (.double (4598175219545276416 : UInt64)), .second, .val (.int p2), .val (.int p3)]) (by rw [hml]; rfl) (argsL := []) (rest := []) (lenOf pd_0 rfl) (hb hby d1_1) (W := 0)
  obtain ⟨rfl, Nq4, e4⟩ := hQ4
  have N4 := Fr.app N0 Nq4
  obtain ⟨T7, h7, X7, e7, W7, st7⟩ := putF X4 hx hZ hown (host := "") (Or.inl (w_16 hw)) Via.refl e4 F_weight_a1 E_a1 (Or.inr ⟨(w_17 hw), rfl, hnm⟩) (w_3 hw) (ty := .double) (by decide) rfl rfl (g := (mkF m 57 #[.val (.ref a1), .val (.double (4598175219545276416 : UInt64)), .second, .val (.int p2), .val (.int p3)] [(.double (4598175219545276416 : UInt64)), (.ref a1)])) rfl rfl (hb hby d1_57)
  have s0 := (Keep.of_wr W7).1
  have N7 := Fr.snoc X7 N4 g_a1
  have Fw7 : Fld Z h7 a1 "com/example/informal_search/informalsearch/ranking/Feedback" "weight" "D" (.double (4598175219545276416 : UInt64)) := F_weight_a1.same W7
  have Ex8 := (E_a1.wr W7)
  have Fl9 := (F_entities_a1.other W7 (Or.inr (slot_ne (Or.inr (w_19 hw)) (Or.inr (w_17 hw)) (by decide) (t := .int) (t' := .double) (by decide) (by decide))))
  obtain ⟨T10, h10, X10, e10, W10, st10⟩ := putF X7 hx hZ hown (host := "") (Or.inl (w_18 hw)) Via.refl e7 Fl9 Ex8 (Or.inr ⟨(w_19 hw), rfl, hnm⟩) (w_3 hw) (ty := .int) (by decide) rfl rfl (g := (mkF m 62 #[.val (.ref a1), .val (.double (4598175219545276416 : UInt64)), .second, .val (.int p2), .val (.int p3)] [(.int p2), (.ref a1)])) rfl rfl (hb hby d1_62)
  have s1 := (Keep.of_wr W10).1
  have N10 := Fr.snoc X10 N7 g_a1
  have Fw10 : Fld Z h10 a1 "com/example/informal_search/informalsearch/ranking/Feedback" "entities" "I" (.int p2) := Fl9.same W10
  have Ex11 := (Ex8.wr W10)
  have Fl12 := ((F_terms_a1.other W7 (Or.inr (slot_ne (Or.inr (w_21 hw)) (Or.inr (w_17 hw)) (by decide) (t := .int) (t' := .double) (by decide) (by decide)))).other W10 (Or.inr (slot_ne (Or.inr (w_21 hw)) (Or.inr (w_19 hw)) (by decide) (t := .int) (t' := .int) (by decide) (by decide))))
  obtain ⟨T13, h13, X13, e13, W13, st13⟩ := putF X10 hx hZ hown (host := "") (Or.inl (w_20 hw)) Via.refl e10 Fl12 Ex11 (Or.inr ⟨(w_21 hw), rfl, hnm⟩) (w_3 hw) (ty := .int) (by decide) rfl rfl (g := (mkF m 68 #[.val (.ref a1), .val (.double (4598175219545276416 : UInt64)), .second, .val (.int p2), .val (.int p3)] [(.int p3), (.ref a1)])) rfl rfl (hb hby d1_68)
  have s2 := (Keep.of_wr W13).1
  have N13 := Fr.snoc X13 N10 g_a1
  have Fw13 : Fld Z h13 a1 "com/example/informal_search/informalsearch/ranking/Feedback" "terms" "I" (.int p3) := Fl12.same W13
  have Ex14 := (Ex11.wr W13)
  have Fl15 := (Fw10.other W13 (Or.inr (slot_ne (Or.inr (w_19 hw)) (Or.inr (w_21 hw)) (by decide) (t := .int) (t' := .int) (by decide) (by decide))))
  have Fl16 := ((Fw7.other W10 (Or.inr (slot_ne (Or.inr (w_17 hw)) (Or.inr (w_19 hw)) (by decide) (t := .double) (t' := .int) (by decide) (by decide)))).other W13 (Or.inr (slot_ne (Or.inr (w_17 hw)) (Or.inr (w_21 hw)) (by decide) (t := .double) (t' := .int) (by decide) (by decide))))
  have Kp0 : Keep h0 h7 [a1] := (Keep.refl h0 [a1]).wr W7 (Or.inl (List.mem_of_getElem? (i := 0) rfl))
  have Kp1 : Keep h0 h10 [a1] := Kp0.wr W10 (Or.inl (List.mem_of_getElem? (i := 0) rfl))
  have Kp2 : Keep h0 h13 [a1] := Kp1.wr W13 (Or.inl (List.mem_of_getElem? (i := 0) rfl))
  refine ⟨T13, _, _, _, none, X13, (fun _ => rfl), by decide, by decide, ?_, fun fs hr => ?_⟩
  · show Q4 Z a1 p2 p3 h0 n0 _ T13.heap _
    rw [e13]
    exact ⟨rfl, N13, Kp2, Ex14, Fl15, Fw13, Fl16⟩
  · show Steps p.tables e below (s₁.setTop (mkF m 0 #[.val (.ref a1), .val (.double (4598175219545276416 : UInt64)), .second, .val (.int p2), .val (.int p3)] [])) _
    refine XS.aloadN X0.here hx rfl (hb hby d1_0) rfl rfl ?_
    refine st4 _ ?_
    refine XS.dloadN X4.here hx rfl (hb hby d1_4) rfl ?_
    refine XS.dconst0 X4.here hx rfl (hb hby d1_5) rfl ?_
    refine XS.dcmpS X4.here hx rfl (hb hby d1_6) rfl (by decide +kernel : (cmpValue (FP.dcmp (4598175219545276416 : UInt64) (0 : UInt64)) .l) = (1 : Int32)) ?_
    refine XS.ifNo X4.here hx rfl (hb hby d1_7) rfl ((if0 _ _).trans (flt ((by decide : ¬ ((1 : Int32) < (0 : Int32))) : ¬ ((1 : Int32) < (0 : Int32)))).1) ?_
    refine XS.dloadN X4.here hx rfl (hb hby d1_10) rfl ?_
    refine XS.dconst1 X4.here hx rfl (hb hby d1_11) rfl ?_
    refine XS.dcmpS X4.here hx rfl (hb hby d1_12) rfl (by decide +kernel : (cmpValue (FP.dcmp (4598175219545276416 : UInt64) (4607182418800017408 : UInt64)) .g) = (-1 : Int32)) ?_
    refine XS.ifYes X4.here hx rfl (pc0 := 13) (pc' := 30) rfl (hb hby d1_13) rfl ((if0 _ _).trans (flt ((by decide : ¬ ((0 : Int32) < (-1 : Int32))) : ¬ ((0 : Int32) < (-1 : Int32)))).2.2.2) (by decide) (by decide) ?_
    refine XS.iloadN X4.here hx rfl (hb hby d1_30) rfl ?_
    refine XS.ifNo X4.here hx rfl (hb hby d1_31) rfl ((if0 _ _).trans (flt (c5 : ¬ (p2 < (0 : Int32)))).1) ?_
    show Steps p.tables e below (T4.setTop (mkF m 34 #[.val (.ref a1), .val (.double (4598175219545276416 : UInt64)), .second, .val (.int p2), .val (.int p3)] [])) _
    refine XS.iload X4.here hx rfl (hb hby d1_34) rfl ?_
    refine XS.ifYes X4.here hx rfl (pc0 := 36) (pc' := 55) rfl (hb hby d1_36) rfl ((if0 _ _).trans (flt (c6 : ¬ (p3 < (0 : Int32)))).2.1) (by decide) (by decide) ?_
    refine XS.aloadN X4.here hx rfl (hb hby d1_55) rfl rfl ?_
    refine XS.dloadN X4.here hx rfl (hb hby d1_56) rfl ?_
    refine st7 _ ?_
    refine XS.aloadN X7.here hx rfl (hb hby d1_60) rfl rfl ?_
    refine XS.iloadN X7.here hx rfl (hb hby d1_61) rfl ?_
    refine st10 _ ?_
    refine XS.aloadN X10.here hx rfl (hb hby d1_65) rfl rfl ?_
    refine XS.iload X10.here hx rfl (hb hby d1_66) rfl ?_
    refine st13 _ ?_
    exact X13.returnOut hx hret (hb hby d1_71) hr
theorem d4_9 : decode prog_62_method_2_code 9 = .ok (.aload_n 0, 1) := by decide +kernel
theorem d4_10 : decode prog_62_method_2_code 10 = .ok (.getfield 25, 3) := by decide +kernel
theorem d4_13 : decode prog_62_method_2_code 13 = .ok (.ifCond .le 14, 3) := by decide +kernel
-- com/example/informal_search/informalsearch/ranking/Feedback.expands()Z
abbrev Rm5 : Room := { frames := 0, cells := 0, slots := 0, locals := 0 }
def Q5 (Z : State) (a1 : Addr) (p3 : Int32) (h0 : Heap) (n0 : Nat) (v : Option Value) (h : Heap) (L : List Loc) : Prop := v = some (.int (0 : Int32)) ∧ Fr n0 L ∧ h = h0
theorem ef5 (a1 : Addr) (m : MethodId) : entryFrame m #[(.ref a1)] 1 = mkF m 0 #[.val (.ref a1)] [] := by first | (simp [entryFrame, mkF, argsToLocals, Value.category]; done) | rfl
theorem rm5 (l : Launch) (Z : State) (a0 : Array Value) (hw : ∀ d ∈ tables_1, d.before a0 Z = true) (ws : List Jvm.Cond) (a1 : Addr) (p3 : Int32) (h0 : Heap) (n0 : Nat) (Z0 : n0 ≤ h0.size) (F_weight_a1 : Fld Z h0 a1 "com/example/informal_search/informalsearch/ranking/Feedback" "weight" "D" (.double (4598175219545276416 : UInt64))) (F_entities_a1 : Fld Z h0 a1 "com/example/informal_search/informalsearch/ranking/Feedback" "entities" "I" (.int p3)) (c5 : ¬ ((0 : Int32) < p3)) :
    OwnMet l Z y_2 prog_62_method_2_code 1 (some .boolean) ws Rm5 #[(.ref a1)] h0 (Q5 Z a1 p3 h0 n0) := by
  refine own_body (plainFor_of_name pn_1) (ef5 a1) ?_
  intro p e s m below meth c s₁ hx hby hml hown hnm hret hZ X0 e0
  have N0 := Fr.nil n0
  obtain ⟨T2, X2, e2, st2⟩ := getF X0 hx hZ hown (host := "") (Or.inl (w_16 hw)) Via.refl e0 F_weight_a1 (g := (mkF m 1 #[.val (.ref a1)] [(.ref a1)])) rfl rfl (hb hby d4_1)
  obtain ⟨T4, X4, e4, st4⟩ := getF X2 hx hZ hown (host := "") (Or.inl (w_18 hw)) Via.refl e2 F_entities_a1 (g := (mkF m 10 #[.val (.ref a1)] [(.ref a1)])) rfl rfl (hb hby d4_10)
  refine ⟨T4, _, _, _, (some (.int (0 : Int32))), X4, nofun, by decide, by decide, ?_, fun fs hr => ?_⟩
  · show Q5 Z a1 p3 h0 n0 _ T4.heap _
    rw [e4]
    exact ⟨rfl, N0, rfl⟩
  · show Steps p.tables e below (s₁.setTop (mkF m 0 #[.val (.ref a1)] [])) _
    refine XS.aloadN X0.here hx rfl (hb hby d4_0) rfl rfl ?_
    refine st2 _ ?_
    refine XS.dconst0 X2.here hx rfl (hb hby d4_4) rfl ?_
    refine XS.dcmpS X2.here hx rfl (hb hby d4_5) rfl (by decide +kernel : (cmpValue (FP.dcmp (4598175219545276416 : UInt64) (0 : UInt64)) .l) = (1 : Int32)) ?_
    refine XS.ifNo X2.here hx rfl (hb hby d4_6) rfl ((if0 _ _).trans (tlt ((by decide : (0 : Int32) < (1 : Int32)) : (0 : Int32) < (1 : Int32))).2.2.2) ?_
    refine XS.aloadN X2.here hx rfl (hb hby d4_9) rfl rfl ?_
    refine st4 _ ?_
    refine XS.ifYes X4.here hx rfl (pc0 := 13) (pc' := 27) rfl (hb hby d4_13) rfl ((if0 _ _).trans (flt (c5 : ¬ ((0 : Int32) < p3))).2.2.2) (by decide) (by decide) ?_
    refine XS.iconst X4.here hx rfl (hb hby d4_27) ?_
    exact retN X4 hx (t := .boolean) hret (by simp) (hb hby d4_28) hr
theorem rm0_1 (l : Launch) (Z : State) (a0 : Array Value) (hw : ∀ d ∈ tables_1, d.before a0 Z = true) (ws : List Jvm.Cond) (p1 : Int32) (p2 : Int32) (p3 : Int32) (h0 : Heap) (n0 : Nat) (Z0 : n0 ≤ h0.size) (Od0 : Old Z n0 h0) (hk : ((p1 &&& (2147483647 : Int32)) - ((p1 &&& (2147483647 : Int32)) / (5 : Int32)) * (5 : Int32)) = (1 : Int32)) (cc1 : (p2 &&& (2147483647 : Int32)) = (0 : Int32)) :
    OwnMet l Z x code maxLocals ret ws room_1 #[(.int p1), (.int p2), (.int p3)] h0 (Q0 n0) := by
  refine own_body (plainFor_of_name pn_2) (ef0 p1 p2 p3) ?_
  intro p e s m below meth c s₁ hx hby hml hown hnm hret hZ X0 e0
  have N0 := Fr.nil n0
  obtain ⟨T1, h1, X1, e1, E1, A1, D1, -, st1⟩ := newO X0 hx hZ hown (w_2 hw) (w_3 hw) (w_4 hw) e0 (g := (mkF m 27 #[.val (.int p1), .val (.int p2), .val (.int p3), .val (.int (1 : Int32)), .val (.int (p2 &&& (2147483647 : Int32))), .val (.int (p3 &&& (2147483647 : Int32))), .val (.double (4598175219545276416 : UInt64)), .second, .unset, .unset] [])) rfl (hb hby at_27) (by decide) (by decide)
  obtain ⟨b1, g1⟩ : ∃ z, z = h0.size := ⟨_, rfl⟩
  rw [← g1] at A1 D1 st1
  have s0 := E1.1
  have Fn1_weight : Fld Z h1 b1 "com/example/informal_search/informalsearch/ranking/Feedback" "weight" "D" (.double (0 : UInt64)) := D1 (Or.inr (w_17 hw)) (ty := .double) (by decide)
  have Fn1_entities : Fld Z h1 b1 "com/example/informal_search/informalsearch/ranking/Feedback" "entities" "I" (.int (0 : Int32)) := D1 (Or.inr (w_19 hw)) (ty := .int) (by decide)
  have Fn1_terms : Fld Z h1 b1 "com/example/informal_search/informalsearch/ranking/Feedback" "terms" "I" (.int (0 : Int32)) := D1 (Or.inr (w_21 hw)) (ty := .int) (by decide)
  have cd2 : ¬ ((p2 &&& (2147483647 : Int32)) < (0 : Int32)) := (by rw [Int32.lt_iff_toInt_lt]; have := rng32 (p2 &&& (2147483647 : Int32)); have := rng32 p2; have := own_mask p2 (2147483647 : Int32) 31 (by decide) (by decide) 2147483648 (by decide); have : ((0 : Int32)).toInt = 0 := (by decide); omega)
  have cd3 : ¬ ((p3 &&& (2147483647 : Int32)) < (0 : Int32)) := (by rw [Int32.lt_iff_toInt_lt]; have := rng32 (p3 &&& (2147483647 : Int32)); have := rng32 p3; have := own_mask p3 (2147483647 : Int32) 31 (by decide) (by decide) 2147483648 (by decide); have : ((0 : Int32)).toInt = 0 := (by decide); omega)
  have g_b1 : n0 ≤ b1 := Nat.le_trans Z0 (Nat.le_of_eq g1.symm)
  have z1 := Nat.le_trans Z0 s0
  obtain ⟨_, T4, L4, X4, hQ4, st4⟩ := own_special X1 hx hZ hown (y := y_1) (a := b1) (w_5 hw) (w_6 hw) (w_4 hw) (w_7 hw) (rm4 l Z a0 hw [] b1 (p2 &&& (2147483647 : Int32)) (p3 &&& (2147483647 : Int32)) h1 n0 z1 cd2 cd3 Fn1_weight A1 g_b1 Fn1_entities Fn1_terms) e1 (Ls := #[.val (.int p1), .val (.int p2), .val (.int p3), .val (.int (1 : Int32)), .val (.int (p2 &&& (2147483647 : Int32))), .val (.int (p3 &&& (2147483647 : Int32))), .val (.double (4598175219545276416 : UInt64)), .second, .unset, .unset]) (by rw [hml]; rfl) (argsL := [(.double (4598175219545276416 : UInt64)), (.int (p2 &&& (2147483647 : Int32))), (.int (p3 &&& (2147483647 : Int32)))]) (rest := [(.ref b1)]) (lenOf pd_1 rfl) (hb hby at_37) (W := 1)
  obtain ⟨rfl, Nq4, K4, o4_0, o4_1, o4_2, o4_3⟩ := hQ4
  have N4 := Fr.app N0 Nq4
  have s1 := K4.1
  have cd5 : ¬ ((0 : Int32) < (p2 &&& (2147483647 : Int32))) := (by rw [cc1]; decide)
  have z2 := Nat.le_trans Z0 (Nat.le_trans s0 s1)
  obtain ⟨_, T6, L6, X6, hQ6, st6⟩ := own_virtual X4 hx hZ hown (y := y_2) (z := y_2) o4_0 (w_22 hw) (w_23 hw) (notFace_of_selects (args := #[]) (mvT hZ (w_25 hw))) (w_25 hw) (w_24 hw) (w_4 hw) (w_26 hw) (rm5 l Z a0 hw [] b1 (p2 &&& (2147483647 : Int32)) T4.heap n0 z2 o4_3 o4_1 cd5) rfl (Ls := #[.val (.int p1), .val (.int p2), .val (.int p3), .val (.int (1 : Int32)), .val (.int (p2 &&& (2147483647 : Int32))), .val (.int (p3 &&& (2147483647 : Int32))), .val (.double (4598175219545276416 : UInt64)), .second, .val (.ref b1), .val (.int (0 : Int32))]) (by rw [hml]; rfl) (argsL := []) (rest := []) (lenOf pd_2 rfl) (hb hby at_65) (W := 0)
  obtain ⟨rfl, Nq6, e6⟩ := hQ6
  have N6 := Fr.app N4 Nq6
  refine ⟨T6, _, _, _, (some (.int (1 : Int32))), X6, nofun, by decide, by decide, ?_, fun fs hr => ?_⟩
  · show Q0 n0 _ T6.heap _
    rw [e6]
    exact ⟨rfl, N6⟩
  · show Steps p.tables e below (s₁.setTop (mkF m 0 #[.val (.int p1), .val (.int p2), .val (.int p3), .unset, .unset, .unset, .unset, .unset, .unset, .unset] [])) _
    refine XS.iloadN X0.here hx rfl (hb hby at_0) rfl ?_
    refine X0.ldcInt hx hown (mvT hZ (w_0 hw)) (g := (mkF m 1 #[.val (.int p1), .val (.int p2), .val (.int p3), .unset, .unset, .unset, .unset, .unset, .unset, .unset] [(.int p1)])) rfl (hb hby at_1) _ ?_
    refine XS.iand X0.here hx rfl (hb hby at_3) rfl ?_
    refine XS.iconst X0.here hx rfl (hb hby at_4) ?_
    refine XS.irem X0.here hx rfl (hb hby at_5) rfl (by decide : ¬ ((5 : Int32) = (0 : Int32))) ?_
    show Steps p.tables e below (s₁.setTop (mkF m 6 #[.val (.int p1), .val (.int p2), .val (.int p3), .unset, .unset, .unset, .unset, .unset, .unset, .unset] [(.int ((p1 &&& (2147483647 : Int32)) - ((p1 &&& (2147483647 : Int32)) / (5 : Int32)) * (5 : Int32)))])) _
    rw [hk]
    refine XS.istoreN X0.here hx rfl (hb hby at_6) rfl (l' := #[.val (.int p1), .val (.int p2), .val (.int p3), .val (.int (1 : Int32)), .unset, .unset, .unset, .unset, .unset, .unset]) rfl ?_
    refine XS.iloadN X0.here hx rfl (hb hby at_7) rfl ?_
    refine X0.ldcInt hx hown (mvT hZ (w_0 hw)) (g := (mkF m 8 #[.val (.int p1), .val (.int p2), .val (.int p3), .val (.int (1 : Int32)), .unset, .unset, .unset, .unset, .unset, .unset] [(.int p2)])) rfl (hb hby at_8) _ ?_
    refine XS.iand X0.here hx rfl (hb hby at_10) rfl ?_
    refine XS.istore X0.here hx rfl (hb hby at_11) rfl (l' := #[.val (.int p1), .val (.int p2), .val (.int p3), .val (.int (1 : Int32)), .val (.int (p2 &&& (2147483647 : Int32))), .unset, .unset, .unset, .unset, .unset]) rfl ?_
    refine XS.iloadN X0.here hx rfl (hb hby at_13) rfl ?_
    refine X0.ldcInt hx hown (mvT hZ (w_0 hw)) (g := (mkF m 14 #[.val (.int p1), .val (.int p2), .val (.int p3), .val (.int (1 : Int32)), .val (.int (p2 &&& (2147483647 : Int32))), .unset, .unset, .unset, .unset, .unset] [(.int p3)])) rfl (hb hby at_14) _ ?_
    refine XS.iand X0.here hx rfl (hb hby at_16) rfl ?_
    refine XS.istore X0.here hx rfl (hb hby at_17) rfl (l' := #[.val (.int p1), .val (.int p2), .val (.int p3), .val (.int (1 : Int32)), .val (.int (p2 &&& (2147483647 : Int32))), .val (.int (p3 &&& (2147483647 : Int32))), .unset, .unset, .unset, .unset]) rfl ?_
    refine XS.iloadN X0.here hx rfl (hb hby at_19) rfl ?_
    refine XS.i2dS X0.here hx rfl (hb hby at_20) rfl (by decide +kernel : (FP.i2d (1 : Int32)) = (4607182418800017408 : UInt64)) ?_
    show Steps p.tables e below (s₁.setTop (mkF m 21 #[.val (.int p1), .val (.int p2), .val (.int p3), .val (.int (1 : Int32)), .val (.int (p2 &&& (2147483647 : Int32))), .val (.int (p3 &&& (2147483647 : Int32))), .unset, .unset, .unset, .unset] [(.double (4607182418800017408 : UInt64))])) _
    refine X0.ldc2DoubleC hx hown (mvT hZ (w_1 hw)) (g := (mkF m 21 #[.val (.int p1), .val (.int p2), .val (.int p3), .val (.int (1 : Int32)), .val (.int (p2 &&& (2147483647 : Int32))), .val (.int (p3 &&& (2147483647 : Int32))), .unset, .unset, .unset, .unset] [(.double (4607182418800017408 : UInt64))])) rfl (hb hby at_21) _ ?_
    refine XS.ddivS X0.here hx rfl (hb hby at_24) rfl (by decide +kernel) (by decide +kernel : (FP.ddiv (4607182418800017408 : UInt64) (4616189618054758400 : UInt64)) = (4598175219545276416 : UInt64)) ?_
    refine XS.dstore X0.here hx rfl (hb hby at_25) rfl (l' := #[.val (.int p1), .val (.int p2), .val (.int p3), .val (.int (1 : Int32)), .val (.int (p2 &&& (2147483647 : Int32))), .val (.int (p3 &&& (2147483647 : Int32))), .val (.double (4598175219545276416 : UInt64)), .second, .unset, .unset]) rfl ?_
    refine st1 _ ?_
    refine XS.dup X1.here hx rfl (hb hby at_30) rfl rfl ?_
    refine XS.dload X1.here hx rfl (hb hby at_31) rfl ?_
    refine XS.iload X1.here hx rfl (hb hby at_33) rfl ?_
    refine XS.iload X1.here hx rfl (hb hby at_35) rfl ?_
    refine st4 _ ?_
    refine XS.astore X4.here hx rfl (hb hby at_40) rfl rfl (l' := #[.val (.int p1), .val (.int p2), .val (.int p3), .val (.int (1 : Int32)), .val (.int (p2 &&& (2147483647 : Int32))), .val (.int (p3 &&& (2147483647 : Int32))), .val (.double (4598175219545276416 : UInt64)), .second, .val (.ref b1), .unset]) rfl ?_
    refine XS.iloadN X4.here hx rfl (hb hby at_42) rfl ?_
    refine XS.ifNo X4.here hx rfl (hb hby at_43) rfl ((if0 _ _).trans (feq ((by decide : ¬ ((1 : Int32) = (0 : Int32))) : ¬ ((1 : Int32) = (0 : Int32)))).1) ?_
    show Steps p.tables e below (T4.setTop (mkF m 46 #[.val (.int p1), .val (.int p2), .val (.int p3), .val (.int (1 : Int32)), .val (.int (p2 &&& (2147483647 : Int32))), .val (.int (p3 &&& (2147483647 : Int32))), .val (.double (4598175219545276416 : UInt64)), .second, .val (.ref b1), .unset] [])) _
    refine XS.iload X4.here hx rfl (hb hby at_46) rfl ?_
    refine XS.ifYes X4.here hx rfl (pc0 := 48) (pc' := 60) rfl (hb hby at_48) rfl ((if0 _ _).trans (teq (cc1 : (p2 &&& (2147483647 : Int32)) = (0 : Int32))).1) (by decide) (by decide) ?_
    refine XS.iconst X4.here hx rfl (hb hby at_60) ?_
    refine XS.istore X4.here hx rfl (hb hby at_61) rfl (l' := #[.val (.int p1), .val (.int p2), .val (.int p3), .val (.int (1 : Int32)), .val (.int (p2 &&& (2147483647 : Int32))), .val (.int (p3 &&& (2147483647 : Int32))), .val (.double (4598175219545276416 : UInt64)), .second, .val (.ref b1), .val (.int (0 : Int32))]) rfl ?_
    refine XS.aload X4.here hx rfl (hb hby at_63) rfl rfl ?_
    refine st6 _ ?_
    refine XS.iload X6.here hx rfl (hb hby at_68) rfl ?_
    refine XS.icmpNo X6.here hx rfl (hb hby at_70) rfl (teq ((by decide : (0 : Int32) = (0 : Int32)) : (0 : Int32) = (0 : Int32))).2 ?_
    refine XS.iconst X6.here hx rfl (hb hby at_73) ?_
    refine XS.goto X6.here hx rfl (pc0 := 74) (pc' := 78) rfl (hb hby at_74) (by decide) (by decide) ?_
    exact retN X6 hx (t := .boolean) hret (by simp) (hb hby at_78) hr
theorem d4_16 : decode prog_62_method_2_code 16 = .ok (.aload_n 0, 1) := by decide +kernel
theorem d4_17 : decode prog_62_method_2_code 17 = .ok (.getfield 29, 3) := by decide +kernel
theorem d4_20 : decode prog_62_method_2_code 20 = .ok (.ifCond .le 7, 3) := by decide +kernel
-- com/example/informal_search/informalsearch/ranking/Feedback.expands()Z
abbrev Rm6 : Room := { frames := 0, cells := 0, slots := 0, locals := 0 }
def Q6 (Z : State) (a1 : Addr) (p3 : Int32) (p6 : Int32) (h0 : Heap) (n0 : Nat) (v : Option Value) (h : Heap) (L : List Loc) : Prop := v = some (.int (0 : Int32)) ∧ Fr n0 L ∧ h = h0
theorem ef6 (a1 : Addr) (m : MethodId) : entryFrame m #[(.ref a1)] 1 = mkF m 0 #[.val (.ref a1)] [] := by first | (simp [entryFrame, mkF, argsToLocals, Value.category]; done) | rfl
theorem rm6 (l : Launch) (Z : State) (a0 : Array Value) (hw : ∀ d ∈ tables_1, d.before a0 Z = true) (ws : List Jvm.Cond) (a1 : Addr) (p3 : Int32) (p6 : Int32) (h0 : Heap) (n0 : Nat) (Z0 : n0 ≤ h0.size) (F_weight_a1 : Fld Z h0 a1 "com/example/informal_search/informalsearch/ranking/Feedback" "weight" "D" (.double (4598175219545276416 : UInt64))) (F_entities_a1 : Fld Z h0 a1 "com/example/informal_search/informalsearch/ranking/Feedback" "entities" "I" (.int p3)) (c5 : (0 : Int32) < p3) (F_terms_a1 : Fld Z h0 a1 "com/example/informal_search/informalsearch/ranking/Feedback" "terms" "I" (.int p6)) (c8 : ¬ ((0 : Int32) < p6)) :
    OwnMet l Z y_2 prog_62_method_2_code 1 (some .boolean) ws Rm6 #[(.ref a1)] h0 (Q6 Z a1 p3 p6 h0 n0) := by
  refine own_body (plainFor_of_name pn_1) (ef6 a1) ?_
  intro p e s m below meth c s₁ hx hby hml hown hnm hret hZ X0 e0
  have N0 := Fr.nil n0
  obtain ⟨T2, X2, e2, st2⟩ := getF X0 hx hZ hown (host := "") (Or.inl (w_16 hw)) Via.refl e0 F_weight_a1 (g := (mkF m 1 #[.val (.ref a1)] [(.ref a1)])) rfl rfl (hb hby d4_1)
  obtain ⟨T4, X4, e4, st4⟩ := getF X2 hx hZ hown (host := "") (Or.inl (w_18 hw)) Via.refl e2 F_entities_a1 (g := (mkF m 10 #[.val (.ref a1)] [(.ref a1)])) rfl rfl (hb hby d4_10)
  obtain ⟨T7, X7, e7, st7⟩ := getF X4 hx hZ hown (host := "") (Or.inl (w_20 hw)) Via.refl e4 F_terms_a1 (g := (mkF m 17 #[.val (.ref a1)] [(.ref a1)])) rfl rfl (hb hby d4_17)
  refine ⟨T7, _, _, _, (some (.int (0 : Int32))), X7, nofun, by decide, by decide, ?_, fun fs hr => ?_⟩
  · show Q6 Z a1 p3 p6 h0 n0 _ T7.heap _
    rw [e7]
    exact ⟨rfl, N0, rfl⟩
  · show Steps p.tables e below (s₁.setTop (mkF m 0 #[.val (.ref a1)] [])) _
    refine XS.aloadN X0.here hx rfl (hb hby d4_0) rfl rfl ?_
    refine st2 _ ?_
    refine XS.dconst0 X2.here hx rfl (hb hby d4_4) rfl ?_
    refine XS.dcmpS X2.here hx rfl (hb hby d4_5) rfl (by decide +kernel : (cmpValue (FP.dcmp (4598175219545276416 : UInt64) (0 : UInt64)) .l) = (1 : Int32)) ?_
    refine XS.ifNo X2.here hx rfl (hb hby d4_6) rfl ((if0 _ _).trans (tlt ((by decide : (0 : Int32) < (1 : Int32)) : (0 : Int32) < (1 : Int32))).2.2.2) ?_
    refine XS.aloadN X2.here hx rfl (hb hby d4_9) rfl rfl ?_
    refine st4 _ ?_
    refine XS.ifNo X4.here hx rfl (hb hby d4_13) rfl ((if0 _ _).trans (tlt (c5 : (0 : Int32) < p3)).2.2.2) ?_
    refine XS.aloadN X4.here hx rfl (hb hby d4_16) rfl rfl ?_
    refine st7 _ ?_
    refine XS.ifYes X7.here hx rfl (pc0 := 20) (pc' := 27) rfl (hb hby d4_20) rfl ((if0 _ _).trans (flt (c8 : ¬ ((0 : Int32) < p6))).2.2.2) (by decide) (by decide) ?_
    refine XS.iconst X7.here hx rfl (hb hby d4_27) ?_
    show Steps p.tables e below (T7.setTop (mkF m 28 #[.val (.ref a1)] [(.int (0 : Int32))])) _
    exact retN X7 hx (t := .boolean) hret (by simp) (hb hby d4_28) hr
theorem rm0_2 (l : Launch) (Z : State) (a0 : Array Value) (hw : ∀ d ∈ tables_1, d.before a0 Z = true) (ws : List Jvm.Cond) (p1 : Int32) (p2 : Int32) (p3 : Int32) (h0 : Heap) (n0 : Nat) (Z0 : n0 ≤ h0.size) (Od0 : Old Z n0 h0) (hk : ((p1 &&& (2147483647 : Int32)) - ((p1 &&& (2147483647 : Int32)) / (5 : Int32)) * (5 : Int32)) = (1 : Int32)) (cc1 : ¬ ((p2 &&& (2147483647 : Int32)) = (0 : Int32))) (cc2 : (p3 &&& (2147483647 : Int32)) = (0 : Int32)) :
    OwnMet l Z x code maxLocals ret ws room_1 #[(.int p1), (.int p2), (.int p3)] h0 (Q0 n0) := by
  refine own_body (plainFor_of_name pn_2) (ef0 p1 p2 p3) ?_
  intro p e s m below meth c s₁ hx hby hml hown hnm hret hZ X0 e0
  have N0 := Fr.nil n0
  obtain ⟨T1, h1, X1, e1, E1, A1, D1, -, st1⟩ := newO X0 hx hZ hown (w_2 hw) (w_3 hw) (w_4 hw) e0 (g := (mkF m 27 #[.val (.int p1), .val (.int p2), .val (.int p3), .val (.int (1 : Int32)), .val (.int (p2 &&& (2147483647 : Int32))), .val (.int (p3 &&& (2147483647 : Int32))), .val (.double (4598175219545276416 : UInt64)), .second, .unset, .unset] [])) rfl (hb hby at_27) (by decide) (by decide)
  obtain ⟨b1, g1⟩ : ∃ z, z = h0.size := ⟨_, rfl⟩
  rw [← g1] at A1 D1 st1
  have s0 := E1.1
  have Fn1_weight : Fld Z h1 b1 "com/example/informal_search/informalsearch/ranking/Feedback" "weight" "D" (.double (0 : UInt64)) := D1 (Or.inr (w_17 hw)) (ty := .double) (by decide)
  have Fn1_entities : Fld Z h1 b1 "com/example/informal_search/informalsearch/ranking/Feedback" "entities" "I" (.int (0 : Int32)) := D1 (Or.inr (w_19 hw)) (ty := .int) (by decide)
  have Fn1_terms : Fld Z h1 b1 "com/example/informal_search/informalsearch/ranking/Feedback" "terms" "I" (.int (0 : Int32)) := D1 (Or.inr (w_21 hw)) (ty := .int) (by decide)
  have cd2 : ¬ ((p2 &&& (2147483647 : Int32)) < (0 : Int32)) := (by rw [Int32.lt_iff_toInt_lt]; have := rng32 (p2 &&& (2147483647 : Int32)); have := rng32 p2; have := own_mask p2 (2147483647 : Int32) 31 (by decide) (by decide) 2147483648 (by decide); have : ((0 : Int32)).toInt = 0 := (by decide); omega)
  have cd3 : ¬ ((p3 &&& (2147483647 : Int32)) < (0 : Int32)) := (by rw [Int32.lt_iff_toInt_lt]; have := rng32 (p3 &&& (2147483647 : Int32)); have := rng32 p3; have := own_mask p3 (2147483647 : Int32) 31 (by decide) (by decide) 2147483648 (by decide); have : ((0 : Int32)).toInt = 0 := (by decide); omega)
  have g_b1 : n0 ≤ b1 := Nat.le_trans Z0 (Nat.le_of_eq g1.symm)
  have z1 := Nat.le_trans Z0 s0
  obtain ⟨_, T4, L4, X4, hQ4, st4⟩ := own_special X1 hx hZ hown (y := y_1) (a := b1) (w_5 hw) (w_6 hw) (w_4 hw) (w_7 hw) (rm4 l Z a0 hw [] b1 (p2 &&& (2147483647 : Int32)) (p3 &&& (2147483647 : Int32)) h1 n0 z1 cd2 cd3 Fn1_weight A1 g_b1 Fn1_entities Fn1_terms) e1 (Ls := #[.val (.int p1), .val (.int p2), .val (.int p3), .val (.int (1 : Int32)), .val (.int (p2 &&& (2147483647 : Int32))), .val (.int (p3 &&& (2147483647 : Int32))), .val (.double (4598175219545276416 : UInt64)), .second, .unset, .unset]) (by rw [hml]; rfl) (argsL := [(.double (4598175219545276416 : UInt64)), (.int (p2 &&& (2147483647 : Int32))), (.int (p3 &&& (2147483647 : Int32)))]) (rest := [(.ref b1)]) (lenOf pd_1 rfl) (hb hby at_37) (W := 1)
  obtain ⟨rfl, Nq4, K4, o4_0, o4_1, o4_2, o4_3⟩ := hQ4
  have N4 := Fr.app N0 Nq4
  have s1 := K4.1
  have cd5 : (0 : Int32) < (p2 &&& (2147483647 : Int32)) := (by rw [Int32.lt_iff_toInt_lt]; have hz : ((p2 &&& (2147483647 : Int32))).toInt ≠ ((0 : Int32)).toInt := fun q => cc1 (Int32.toInt_inj.mp q); have : ((0 : Int32)).toInt = 0 := (by decide); have := rng32 (p2 &&& (2147483647 : Int32)); have := rng32 p2; have := own_mask p2 (2147483647 : Int32) 31 (by decide) (by decide) 2147483648 (by decide); omega)
  have cd6 : ¬ ((0 : Int32) < (p3 &&& (2147483647 : Int32))) := (by rw [cc2]; decide)
  have z2 := Nat.le_trans Z0 (Nat.le_trans s0 s1)
  obtain ⟨_, T7, L7, X7, hQ7, st7⟩ := own_virtual X4 hx hZ hown (y := y_2) (z := y_2) o4_0 (w_22 hw) (w_23 hw) (notFace_of_selects (args := #[]) (mvT hZ (w_25 hw))) (w_25 hw) (w_24 hw) (w_4 hw) (w_26 hw) (rm6 l Z a0 hw [] b1 (p2 &&& (2147483647 : Int32)) (p3 &&& (2147483647 : Int32)) T4.heap n0 z2 o4_3 o4_1 cd5 o4_2 cd6) rfl (Ls := #[.val (.int p1), .val (.int p2), .val (.int p3), .val (.int (1 : Int32)), .val (.int (p2 &&& (2147483647 : Int32))), .val (.int (p3 &&& (2147483647 : Int32))), .val (.double (4598175219545276416 : UInt64)), .second, .val (.ref b1), .val (.int (0 : Int32))]) (by rw [hml]; rfl) (argsL := []) (rest := []) (lenOf pd_2 rfl) (hb hby at_65) (W := 0)
  obtain ⟨rfl, Nq7, e7⟩ := hQ7
  have N7 := Fr.app N4 Nq7
  refine ⟨T7, _, _, _, (some (.int (1 : Int32))), X7, nofun, by decide, by decide, ?_, fun fs hr => ?_⟩
  · show Q0 n0 _ T7.heap _
    rw [e7]
    exact ⟨rfl, N7⟩
  · show Steps p.tables e below (s₁.setTop (mkF m 0 #[.val (.int p1), .val (.int p2), .val (.int p3), .unset, .unset, .unset, .unset, .unset, .unset, .unset] [])) _
    refine XS.iloadN X0.here hx rfl (hb hby at_0) rfl ?_
    refine X0.ldcInt hx hown (mvT hZ (w_0 hw)) (g := (mkF m 1 #[.val (.int p1), .val (.int p2), .val (.int p3), .unset, .unset, .unset, .unset, .unset, .unset, .unset] [(.int p1)])) rfl (hb hby at_1) _ ?_
    refine XS.iand X0.here hx rfl (hb hby at_3) rfl ?_
    refine XS.iconst X0.here hx rfl (hb hby at_4) ?_
    refine XS.irem X0.here hx rfl (hb hby at_5) rfl (by decide : ¬ ((5 : Int32) = (0 : Int32))) ?_
    show Steps p.tables e below (s₁.setTop (mkF m 6 #[.val (.int p1), .val (.int p2), .val (.int p3), .unset, .unset, .unset, .unset, .unset, .unset, .unset] [(.int ((p1 &&& (2147483647 : Int32)) - ((p1 &&& (2147483647 : Int32)) / (5 : Int32)) * (5 : Int32)))])) _
    rw [hk]
    refine XS.istoreN X0.here hx rfl (hb hby at_6) rfl (l' := #[.val (.int p1), .val (.int p2), .val (.int p3), .val (.int (1 : Int32)), .unset, .unset, .unset, .unset, .unset, .unset]) rfl ?_
    refine XS.iloadN X0.here hx rfl (hb hby at_7) rfl ?_
    refine X0.ldcInt hx hown (mvT hZ (w_0 hw)) (g := (mkF m 8 #[.val (.int p1), .val (.int p2), .val (.int p3), .val (.int (1 : Int32)), .unset, .unset, .unset, .unset, .unset, .unset] [(.int p2)])) rfl (hb hby at_8) _ ?_
    refine XS.iand X0.here hx rfl (hb hby at_10) rfl ?_
    refine XS.istore X0.here hx rfl (hb hby at_11) rfl (l' := #[.val (.int p1), .val (.int p2), .val (.int p3), .val (.int (1 : Int32)), .val (.int (p2 &&& (2147483647 : Int32))), .unset, .unset, .unset, .unset, .unset]) rfl ?_
    refine XS.iloadN X0.here hx rfl (hb hby at_13) rfl ?_
    refine X0.ldcInt hx hown (mvT hZ (w_0 hw)) (g := (mkF m 14 #[.val (.int p1), .val (.int p2), .val (.int p3), .val (.int (1 : Int32)), .val (.int (p2 &&& (2147483647 : Int32))), .unset, .unset, .unset, .unset, .unset] [(.int p3)])) rfl (hb hby at_14) _ ?_
    refine XS.iand X0.here hx rfl (hb hby at_16) rfl ?_
    refine XS.istore X0.here hx rfl (hb hby at_17) rfl (l' := #[.val (.int p1), .val (.int p2), .val (.int p3), .val (.int (1 : Int32)), .val (.int (p2 &&& (2147483647 : Int32))), .val (.int (p3 &&& (2147483647 : Int32))), .unset, .unset, .unset, .unset]) rfl ?_
    refine XS.iloadN X0.here hx rfl (hb hby at_19) rfl ?_
    refine XS.i2dS X0.here hx rfl (hb hby at_20) rfl (by decide +kernel : (FP.i2d (1 : Int32)) = (4607182418800017408 : UInt64)) ?_
    show Steps p.tables e below (s₁.setTop (mkF m 21 #[.val (.int p1), .val (.int p2), .val (.int p3), .val (.int (1 : Int32)), .val (.int (p2 &&& (2147483647 : Int32))), .val (.int (p3 &&& (2147483647 : Int32))), .unset, .unset, .unset, .unset] [(.double (4607182418800017408 : UInt64))])) _
    refine X0.ldc2DoubleC hx hown (mvT hZ (w_1 hw)) (g := (mkF m 21 #[.val (.int p1), .val (.int p2), .val (.int p3), .val (.int (1 : Int32)), .val (.int (p2 &&& (2147483647 : Int32))), .val (.int (p3 &&& (2147483647 : Int32))), .unset, .unset, .unset, .unset] [(.double (4607182418800017408 : UInt64))])) rfl (hb hby at_21) _ ?_
    refine XS.ddivS X0.here hx rfl (hb hby at_24) rfl (by decide +kernel) (by decide +kernel : (FP.ddiv (4607182418800017408 : UInt64) (4616189618054758400 : UInt64)) = (4598175219545276416 : UInt64)) ?_
    refine XS.dstore X0.here hx rfl (hb hby at_25) rfl (l' := #[.val (.int p1), .val (.int p2), .val (.int p3), .val (.int (1 : Int32)), .val (.int (p2 &&& (2147483647 : Int32))), .val (.int (p3 &&& (2147483647 : Int32))), .val (.double (4598175219545276416 : UInt64)), .second, .unset, .unset]) rfl ?_
    refine st1 _ ?_
    refine XS.dup X1.here hx rfl (hb hby at_30) rfl rfl ?_
    refine XS.dload X1.here hx rfl (hb hby at_31) rfl ?_
    refine XS.iload X1.here hx rfl (hb hby at_33) rfl ?_
    refine XS.iload X1.here hx rfl (hb hby at_35) rfl ?_
    refine st4 _ ?_
    refine XS.astore X4.here hx rfl (hb hby at_40) rfl rfl (l' := #[.val (.int p1), .val (.int p2), .val (.int p3), .val (.int (1 : Int32)), .val (.int (p2 &&& (2147483647 : Int32))), .val (.int (p3 &&& (2147483647 : Int32))), .val (.double (4598175219545276416 : UInt64)), .second, .val (.ref b1), .unset]) rfl ?_
    refine XS.iloadN X4.here hx rfl (hb hby at_42) rfl ?_
    refine XS.ifNo X4.here hx rfl (hb hby at_43) rfl ((if0 _ _).trans (feq ((by decide : ¬ ((1 : Int32) = (0 : Int32))) : ¬ ((1 : Int32) = (0 : Int32)))).1) ?_
    show Steps p.tables e below (T4.setTop (mkF m 46 #[.val (.int p1), .val (.int p2), .val (.int p3), .val (.int (1 : Int32)), .val (.int (p2 &&& (2147483647 : Int32))), .val (.int (p3 &&& (2147483647 : Int32))), .val (.double (4598175219545276416 : UInt64)), .second, .val (.ref b1), .unset] [])) _
    refine XS.iload X4.here hx rfl (hb hby at_46) rfl ?_
    refine XS.ifNo X4.here hx rfl (hb hby at_48) rfl ((if0 _ _).trans (feq (cc1 : ¬ ((p2 &&& (2147483647 : Int32)) = (0 : Int32)))).1) ?_
    refine XS.iload X4.here hx rfl (hb hby at_51) rfl ?_
    refine XS.ifYes X4.here hx rfl (pc0 := 53) (pc' := 60) rfl (hb hby at_53) rfl ((if0 _ _).trans (teq (cc2 : (p3 &&& (2147483647 : Int32)) = (0 : Int32))).1) (by decide) (by decide) ?_
    refine XS.iconst X4.here hx rfl (hb hby at_60) ?_
    refine XS.istore X4.here hx rfl (hb hby at_61) rfl (l' := #[.val (.int p1), .val (.int p2), .val (.int p3), .val (.int (1 : Int32)), .val (.int (p2 &&& (2147483647 : Int32))), .val (.int (p3 &&& (2147483647 : Int32))), .val (.double (4598175219545276416 : UInt64)), .second, .val (.ref b1), .val (.int (0 : Int32))]) rfl ?_
    refine XS.aload X4.here hx rfl (hb hby at_63) rfl rfl ?_
    refine st7 _ ?_
    refine XS.iload X7.here hx rfl (hb hby at_68) rfl ?_
    refine XS.icmpNo X7.here hx rfl (hb hby at_70) rfl (teq ((by decide : (0 : Int32) = (0 : Int32)) : (0 : Int32) = (0 : Int32))).2 ?_
    refine XS.iconst X7.here hx rfl (hb hby at_73) ?_
    refine XS.goto X7.here hx rfl (pc0 := 74) (pc' := 78) rfl (hb hby at_74) (by decide) (by decide) ?_
    show Steps p.tables e below (T7.setTop (mkF m 78 #[.val (.int p1), .val (.int p2), .val (.int p3), .val (.int (1 : Int32)), .val (.int (p2 &&& (2147483647 : Int32))), .val (.int (p3 &&& (2147483647 : Int32))), .val (.double (4598175219545276416 : UInt64)), .second, .val (.ref b1), .val (.int (0 : Int32))] [(.int (1 : Int32))])) _
    exact retN X7 hx (t := .boolean) hret (by simp) (hb hby at_78) hr
theorem d4_23 : decode prog_62_method_2_code 23 = .ok (.iconst 1, 1) := by decide +kernel
theorem d4_24 : decode prog_62_method_2_code 24 = .ok (.goto 4, 3) := by decide +kernel
-- com/example/informal_search/informalsearch/ranking/Feedback.expands()Z
abbrev Rm7 : Room := { frames := 0, cells := 0, slots := 0, locals := 0 }
def Q7 (Z : State) (a1 : Addr) (p3 : Int32) (p6 : Int32) (h0 : Heap) (n0 : Nat) (v : Option Value) (h : Heap) (L : List Loc) : Prop := v = some (.int (1 : Int32)) ∧ Fr n0 L ∧ h = h0
theorem ef7 (a1 : Addr) (m : MethodId) : entryFrame m #[(.ref a1)] 1 = mkF m 0 #[.val (.ref a1)] [] := by first | (simp [entryFrame, mkF, argsToLocals, Value.category]; done) | rfl
theorem rm7 (l : Launch) (Z : State) (a0 : Array Value) (hw : ∀ d ∈ tables_1, d.before a0 Z = true) (ws : List Jvm.Cond) (a1 : Addr) (p3 : Int32) (p6 : Int32) (h0 : Heap) (n0 : Nat) (Z0 : n0 ≤ h0.size) (F_weight_a1 : Fld Z h0 a1 "com/example/informal_search/informalsearch/ranking/Feedback" "weight" "D" (.double (4598175219545276416 : UInt64))) (F_entities_a1 : Fld Z h0 a1 "com/example/informal_search/informalsearch/ranking/Feedback" "entities" "I" (.int p3)) (c5 : (0 : Int32) < p3) (F_terms_a1 : Fld Z h0 a1 "com/example/informal_search/informalsearch/ranking/Feedback" "terms" "I" (.int p6)) (c8 : (0 : Int32) < p6) :
    OwnMet l Z y_2 prog_62_method_2_code 1 (some .boolean) ws Rm7 #[(.ref a1)] h0 (Q7 Z a1 p3 p6 h0 n0) := by
  refine own_body (plainFor_of_name pn_1) (ef7 a1) ?_
  intro p e s m below meth c s₁ hx hby hml hown hnm hret hZ X0 e0
  have N0 := Fr.nil n0
  obtain ⟨T2, X2, e2, st2⟩ := getF X0 hx hZ hown (host := "") (Or.inl (w_16 hw)) Via.refl e0 F_weight_a1 (g := (mkF m 1 #[.val (.ref a1)] [(.ref a1)])) rfl rfl (hb hby d4_1)
  obtain ⟨T4, X4, e4, st4⟩ := getF X2 hx hZ hown (host := "") (Or.inl (w_18 hw)) Via.refl e2 F_entities_a1 (g := (mkF m 10 #[.val (.ref a1)] [(.ref a1)])) rfl rfl (hb hby d4_10)
  obtain ⟨T7, X7, e7, st7⟩ := getF X4 hx hZ hown (host := "") (Or.inl (w_20 hw)) Via.refl e4 F_terms_a1 (g := (mkF m 17 #[.val (.ref a1)] [(.ref a1)])) rfl rfl (hb hby d4_17)
  refine ⟨T7, _, _, _, (some (.int (1 : Int32))), X7, nofun, by decide, by decide, ?_, fun fs hr => ?_⟩
  · show Q7 Z a1 p3 p6 h0 n0 _ T7.heap _
    rw [e7]
    exact ⟨rfl, N0, rfl⟩
  · show Steps p.tables e below (s₁.setTop (mkF m 0 #[.val (.ref a1)] [])) _
    refine XS.aloadN X0.here hx rfl (hb hby d4_0) rfl rfl ?_
    refine st2 _ ?_
    refine XS.dconst0 X2.here hx rfl (hb hby d4_4) rfl ?_
    refine XS.dcmpS X2.here hx rfl (hb hby d4_5) rfl (by decide +kernel : (cmpValue (FP.dcmp (4598175219545276416 : UInt64) (0 : UInt64)) .l) = (1 : Int32)) ?_
    refine XS.ifNo X2.here hx rfl (hb hby d4_6) rfl ((if0 _ _).trans (tlt ((by decide : (0 : Int32) < (1 : Int32)) : (0 : Int32) < (1 : Int32))).2.2.2) ?_
    refine XS.aloadN X2.here hx rfl (hb hby d4_9) rfl rfl ?_
    refine st4 _ ?_
    refine XS.ifNo X4.here hx rfl (hb hby d4_13) rfl ((if0 _ _).trans (tlt (c5 : (0 : Int32) < p3)).2.2.2) ?_
    refine XS.aloadN X4.here hx rfl (hb hby d4_16) rfl rfl ?_
    refine st7 _ ?_
    refine XS.ifNo X7.here hx rfl (hb hby d4_20) rfl ((if0 _ _).trans (tlt (c8 : (0 : Int32) < p6)).2.2.2) ?_
    refine XS.iconst X7.here hx rfl (hb hby d4_23) ?_
    show Steps p.tables e below (T7.setTop (mkF m 24 #[.val (.ref a1)] [(.int (1 : Int32))])) _
    refine XS.goto X7.here hx rfl (pc0 := 24) (pc' := 28) rfl (hb hby d4_24) (by decide) (by decide) ?_
    exact retN X7 hx (t := .boolean) hret (by simp) (hb hby d4_28) hr
theorem rm0_3 (l : Launch) (Z : State) (a0 : Array Value) (hw : ∀ d ∈ tables_1, d.before a0 Z = true) (ws : List Jvm.Cond) (p1 : Int32) (p2 : Int32) (p3 : Int32) (h0 : Heap) (n0 : Nat) (Z0 : n0 ≤ h0.size) (Od0 : Old Z n0 h0) (hk : ((p1 &&& (2147483647 : Int32)) - ((p1 &&& (2147483647 : Int32)) / (5 : Int32)) * (5 : Int32)) = (1 : Int32)) (cc1 : ¬ ((p2 &&& (2147483647 : Int32)) = (0 : Int32))) (cc2 : ¬ ((p3 &&& (2147483647 : Int32)) = (0 : Int32))) :
    OwnMet l Z x code maxLocals ret ws room_1 #[(.int p1), (.int p2), (.int p3)] h0 (Q0 n0) := by
  refine own_body (plainFor_of_name pn_2) (ef0 p1 p2 p3) ?_
  intro p e s m below meth c s₁ hx hby hml hown hnm hret hZ X0 e0
  have N0 := Fr.nil n0
  obtain ⟨T1, h1, X1, e1, E1, A1, D1, -, st1⟩ := newO X0 hx hZ hown (w_2 hw) (w_3 hw) (w_4 hw) e0 (g := (mkF m 27 #[.val (.int p1), .val (.int p2), .val (.int p3), .val (.int (1 : Int32)), .val (.int (p2 &&& (2147483647 : Int32))), .val (.int (p3 &&& (2147483647 : Int32))), .val (.double (4598175219545276416 : UInt64)), .second, .unset, .unset] [])) rfl (hb hby at_27) (by decide) (by decide)
  obtain ⟨b1, g1⟩ : ∃ z, z = h0.size := ⟨_, rfl⟩
  rw [← g1] at A1 D1 st1
  have s0 := E1.1
  have Fn1_weight : Fld Z h1 b1 "com/example/informal_search/informalsearch/ranking/Feedback" "weight" "D" (.double (0 : UInt64)) := D1 (Or.inr (w_17 hw)) (ty := .double) (by decide)
  have Fn1_entities : Fld Z h1 b1 "com/example/informal_search/informalsearch/ranking/Feedback" "entities" "I" (.int (0 : Int32)) := D1 (Or.inr (w_19 hw)) (ty := .int) (by decide)
  have Fn1_terms : Fld Z h1 b1 "com/example/informal_search/informalsearch/ranking/Feedback" "terms" "I" (.int (0 : Int32)) := D1 (Or.inr (w_21 hw)) (ty := .int) (by decide)
  have cd2 : ¬ ((p2 &&& (2147483647 : Int32)) < (0 : Int32)) := (by rw [Int32.lt_iff_toInt_lt]; have := rng32 (p2 &&& (2147483647 : Int32)); have := rng32 p2; have := own_mask p2 (2147483647 : Int32) 31 (by decide) (by decide) 2147483648 (by decide); have : ((0 : Int32)).toInt = 0 := (by decide); omega)
  have cd3 : ¬ ((p3 &&& (2147483647 : Int32)) < (0 : Int32)) := (by rw [Int32.lt_iff_toInt_lt]; have := rng32 (p3 &&& (2147483647 : Int32)); have := rng32 p3; have := own_mask p3 (2147483647 : Int32) 31 (by decide) (by decide) 2147483648 (by decide); have : ((0 : Int32)).toInt = 0 := (by decide); omega)
  have g_b1 : n0 ≤ b1 := Nat.le_trans Z0 (Nat.le_of_eq g1.symm)
  have z1 := Nat.le_trans Z0 s0
  obtain ⟨_, T4, L4, X4, hQ4, st4⟩ := own_special X1 hx hZ hown (y := y_1) (a := b1) (w_5 hw) (w_6 hw) (w_4 hw) (w_7 hw) (rm4 l Z a0 hw [] b1 (p2 &&& (2147483647 : Int32)) (p3 &&& (2147483647 : Int32)) h1 n0 z1 cd2 cd3 Fn1_weight A1 g_b1 Fn1_entities Fn1_terms) e1 (Ls := #[.val (.int p1), .val (.int p2), .val (.int p3), .val (.int (1 : Int32)), .val (.int (p2 &&& (2147483647 : Int32))), .val (.int (p3 &&& (2147483647 : Int32))), .val (.double (4598175219545276416 : UInt64)), .second, .unset, .unset]) (by rw [hml]; rfl) (argsL := [(.double (4598175219545276416 : UInt64)), (.int (p2 &&& (2147483647 : Int32))), (.int (p3 &&& (2147483647 : Int32)))]) (rest := [(.ref b1)]) (lenOf pd_1 rfl) (hb hby at_37) (W := 1)
  obtain ⟨rfl, Nq4, K4, o4_0, o4_1, o4_2, o4_3⟩ := hQ4
  have N4 := Fr.app N0 Nq4
  have s1 := K4.1
  have cd5 : (0 : Int32) < (p2 &&& (2147483647 : Int32)) := (by rw [Int32.lt_iff_toInt_lt]; have hz : ((p2 &&& (2147483647 : Int32))).toInt ≠ ((0 : Int32)).toInt := fun q => cc1 (Int32.toInt_inj.mp q); have : ((0 : Int32)).toInt = 0 := (by decide); have := rng32 (p2 &&& (2147483647 : Int32)); have := rng32 p2; have := own_mask p2 (2147483647 : Int32) 31 (by decide) (by decide) 2147483648 (by decide); omega)
  have cd6 : (0 : Int32) < (p3 &&& (2147483647 : Int32)) := (by rw [Int32.lt_iff_toInt_lt]; have hz : ((p3 &&& (2147483647 : Int32))).toInt ≠ ((0 : Int32)).toInt := fun q => cc2 (Int32.toInt_inj.mp q); have : ((0 : Int32)).toInt = 0 := (by decide); have := rng32 (p3 &&& (2147483647 : Int32)); have := rng32 p3; have := own_mask p3 (2147483647 : Int32) 31 (by decide) (by decide) 2147483648 (by decide); omega)
  have z2 := Nat.le_trans Z0 (Nat.le_trans s0 s1)
  obtain ⟨_, T7, L7, X7, hQ7, st7⟩ := own_virtual X4 hx hZ hown (y := y_2) (z := y_2) o4_0 (w_22 hw) (w_23 hw) (notFace_of_selects (args := #[]) (mvT hZ (w_25 hw))) (w_25 hw) (w_24 hw) (w_4 hw) (w_26 hw) (rm7 l Z a0 hw [] b1 (p2 &&& (2147483647 : Int32)) (p3 &&& (2147483647 : Int32)) T4.heap n0 z2 o4_3 o4_1 cd5 o4_2 cd6) rfl (Ls := #[.val (.int p1), .val (.int p2), .val (.int p3), .val (.int (1 : Int32)), .val (.int (p2 &&& (2147483647 : Int32))), .val (.int (p3 &&& (2147483647 : Int32))), .val (.double (4598175219545276416 : UInt64)), .second, .val (.ref b1), .val (.int (1 : Int32))]) (by rw [hml]; rfl) (argsL := []) (rest := []) (lenOf pd_2 rfl) (hb hby at_65) (W := 0)
  obtain ⟨rfl, Nq7, e7⟩ := hQ7
  have N7 := Fr.app N4 Nq7
  refine ⟨T7, _, _, _, (some (.int (1 : Int32))), X7, nofun, by decide, by decide, ?_, fun fs hr => ?_⟩
  · show Q0 n0 _ T7.heap _
    rw [e7]
    exact ⟨rfl, N7⟩
  · show Steps p.tables e below (s₁.setTop (mkF m 0 #[.val (.int p1), .val (.int p2), .val (.int p3), .unset, .unset, .unset, .unset, .unset, .unset, .unset] [])) _
    refine XS.iloadN X0.here hx rfl (hb hby at_0) rfl ?_
    refine X0.ldcInt hx hown (mvT hZ (w_0 hw)) (g := (mkF m 1 #[.val (.int p1), .val (.int p2), .val (.int p3), .unset, .unset, .unset, .unset, .unset, .unset, .unset] [(.int p1)])) rfl (hb hby at_1) _ ?_
    refine XS.iand X0.here hx rfl (hb hby at_3) rfl ?_
    refine XS.iconst X0.here hx rfl (hb hby at_4) ?_
    refine XS.irem X0.here hx rfl (hb hby at_5) rfl (by decide : ¬ ((5 : Int32) = (0 : Int32))) ?_
    show Steps p.tables e below (s₁.setTop (mkF m 6 #[.val (.int p1), .val (.int p2), .val (.int p3), .unset, .unset, .unset, .unset, .unset, .unset, .unset] [(.int ((p1 &&& (2147483647 : Int32)) - ((p1 &&& (2147483647 : Int32)) / (5 : Int32)) * (5 : Int32)))])) _
    rw [hk]
    refine XS.istoreN X0.here hx rfl (hb hby at_6) rfl (l' := #[.val (.int p1), .val (.int p2), .val (.int p3), .val (.int (1 : Int32)), .unset, .unset, .unset, .unset, .unset, .unset]) rfl ?_
    refine XS.iloadN X0.here hx rfl (hb hby at_7) rfl ?_
    refine X0.ldcInt hx hown (mvT hZ (w_0 hw)) (g := (mkF m 8 #[.val (.int p1), .val (.int p2), .val (.int p3), .val (.int (1 : Int32)), .unset, .unset, .unset, .unset, .unset, .unset] [(.int p2)])) rfl (hb hby at_8) _ ?_
    refine XS.iand X0.here hx rfl (hb hby at_10) rfl ?_
    refine XS.istore X0.here hx rfl (hb hby at_11) rfl (l' := #[.val (.int p1), .val (.int p2), .val (.int p3), .val (.int (1 : Int32)), .val (.int (p2 &&& (2147483647 : Int32))), .unset, .unset, .unset, .unset, .unset]) rfl ?_
    refine XS.iloadN X0.here hx rfl (hb hby at_13) rfl ?_
    refine X0.ldcInt hx hown (mvT hZ (w_0 hw)) (g := (mkF m 14 #[.val (.int p1), .val (.int p2), .val (.int p3), .val (.int (1 : Int32)), .val (.int (p2 &&& (2147483647 : Int32))), .unset, .unset, .unset, .unset, .unset] [(.int p3)])) rfl (hb hby at_14) _ ?_
    refine XS.iand X0.here hx rfl (hb hby at_16) rfl ?_
    refine XS.istore X0.here hx rfl (hb hby at_17) rfl (l' := #[.val (.int p1), .val (.int p2), .val (.int p3), .val (.int (1 : Int32)), .val (.int (p2 &&& (2147483647 : Int32))), .val (.int (p3 &&& (2147483647 : Int32))), .unset, .unset, .unset, .unset]) rfl ?_
    refine XS.iloadN X0.here hx rfl (hb hby at_19) rfl ?_
    refine XS.i2dS X0.here hx rfl (hb hby at_20) rfl (by decide +kernel : (FP.i2d (1 : Int32)) = (4607182418800017408 : UInt64)) ?_
    show Steps p.tables e below (s₁.setTop (mkF m 21 #[.val (.int p1), .val (.int p2), .val (.int p3), .val (.int (1 : Int32)), .val (.int (p2 &&& (2147483647 : Int32))), .val (.int (p3 &&& (2147483647 : Int32))), .unset, .unset, .unset, .unset] [(.double (4607182418800017408 : UInt64))])) _
    refine X0.ldc2DoubleC hx hown (mvT hZ (w_1 hw)) (g := (mkF m 21 #[.val (.int p1), .val (.int p2), .val (.int p3), .val (.int (1 : Int32)), .val (.int (p2 &&& (2147483647 : Int32))), .val (.int (p3 &&& (2147483647 : Int32))), .unset, .unset, .unset, .unset] [(.double (4607182418800017408 : UInt64))])) rfl (hb hby at_21) _ ?_
    refine XS.ddivS X0.here hx rfl (hb hby at_24) rfl (by decide +kernel) (by decide +kernel : (FP.ddiv (4607182418800017408 : UInt64) (4616189618054758400 : UInt64)) = (4598175219545276416 : UInt64)) ?_
    refine XS.dstore X0.here hx rfl (hb hby at_25) rfl (l' := #[.val (.int p1), .val (.int p2), .val (.int p3), .val (.int (1 : Int32)), .val (.int (p2 &&& (2147483647 : Int32))), .val (.int (p3 &&& (2147483647 : Int32))), .val (.double (4598175219545276416 : UInt64)), .second, .unset, .unset]) rfl ?_
    refine st1 _ ?_
    refine XS.dup X1.here hx rfl (hb hby at_30) rfl rfl ?_
    refine XS.dload X1.here hx rfl (hb hby at_31) rfl ?_
    refine XS.iload X1.here hx rfl (hb hby at_33) rfl ?_
    refine XS.iload X1.here hx rfl (hb hby at_35) rfl ?_
    refine st4 _ ?_
    refine XS.astore X4.here hx rfl (hb hby at_40) rfl rfl (l' := #[.val (.int p1), .val (.int p2), .val (.int p3), .val (.int (1 : Int32)), .val (.int (p2 &&& (2147483647 : Int32))), .val (.int (p3 &&& (2147483647 : Int32))), .val (.double (4598175219545276416 : UInt64)), .second, .val (.ref b1), .unset]) rfl ?_
    refine XS.iloadN X4.here hx rfl (hb hby at_42) rfl ?_
    refine XS.ifNo X4.here hx rfl (hb hby at_43) rfl ((if0 _ _).trans (feq ((by decide : ¬ ((1 : Int32) = (0 : Int32))) : ¬ ((1 : Int32) = (0 : Int32)))).1) ?_
    show Steps p.tables e below (T4.setTop (mkF m 46 #[.val (.int p1), .val (.int p2), .val (.int p3), .val (.int (1 : Int32)), .val (.int (p2 &&& (2147483647 : Int32))), .val (.int (p3 &&& (2147483647 : Int32))), .val (.double (4598175219545276416 : UInt64)), .second, .val (.ref b1), .unset] [])) _
    refine XS.iload X4.here hx rfl (hb hby at_46) rfl ?_
    refine XS.ifNo X4.here hx rfl (hb hby at_48) rfl ((if0 _ _).trans (feq (cc1 : ¬ ((p2 &&& (2147483647 : Int32)) = (0 : Int32)))).1) ?_
    refine XS.iload X4.here hx rfl (hb hby at_51) rfl ?_
    refine XS.ifNo X4.here hx rfl (hb hby at_53) rfl ((if0 _ _).trans (feq (cc2 : ¬ ((p3 &&& (2147483647 : Int32)) = (0 : Int32)))).1) ?_
    refine XS.iconst X4.here hx rfl (hb hby at_56) ?_
    refine XS.goto X4.here hx rfl (pc0 := 57) (pc' := 61) rfl (hb hby at_57) (by decide) (by decide) ?_
    refine XS.istore X4.here hx rfl (hb hby at_61) rfl (l' := #[.val (.int p1), .val (.int p2), .val (.int p3), .val (.int (1 : Int32)), .val (.int (p2 &&& (2147483647 : Int32))), .val (.int (p3 &&& (2147483647 : Int32))), .val (.double (4598175219545276416 : UInt64)), .second, .val (.ref b1), .val (.int (1 : Int32))]) rfl ?_
    refine XS.aload X4.here hx rfl (hb hby at_63) rfl rfl ?_
    refine st7 _ ?_
    refine XS.iload X7.here hx rfl (hb hby at_68) rfl ?_
    refine XS.icmpNo X7.here hx rfl (hb hby at_70) rfl (teq ((by decide : (1 : Int32) = (1 : Int32)) : (1 : Int32) = (1 : Int32))).2 ?_
    refine XS.iconst X7.here hx rfl (hb hby at_73) ?_
    show Steps p.tables e below (T7.setTop (mkF m 74 #[.val (.int p1), .val (.int p2), .val (.int p3), .val (.int (1 : Int32)), .val (.int (p2 &&& (2147483647 : Int32))), .val (.int (p3 &&& (2147483647 : Int32))), .val (.double (4598175219545276416 : UInt64)), .second, .val (.ref b1), .val (.int (1 : Int32))] [(.int (1 : Int32))])) _
    refine XS.goto X7.here hx rfl (pc0 := 74) (pc' := 78) rfl (hb hby at_74) (by decide) (by decide) ?_
    exact retN X7 hx (t := .boolean) hret (by simp) (hb hby at_78) hr
-- com/example/informal_search/informalsearch/ranking/Feedback.<init>(DII)V
abbrev Rm8 : Room := { frames := 2, cells := 0, slots := 0, locals := 24 }
def Q8 (Z : State) (a1 : Addr) (p2 : Int32) (p3 : Int32) (h0 : Heap) (n0 : Nat) (v : Option Value) (h : Heap) (L : List Loc) : Prop := v = none ∧ Fr n0 L ∧ Keep h0 h [a1] ∧ Exa Z h a1 "com/example/informal_search/informalsearch/ranking/Feedback" ∧ Fld Z h a1 "com/example/informal_search/informalsearch/ranking/Feedback" "entities" "I" (.int p2) ∧ Fld Z h a1 "com/example/informal_search/informalsearch/ranking/Feedback" "terms" "I" (.int p3) ∧ Fld Z h a1 "com/example/informal_search/informalsearch/ranking/Feedback" "weight" "D" (.double (4602678819172646912 : UInt64))
theorem ef8 (a1 : Addr) (p2 : Int32) (p3 : Int32) (m : MethodId) : entryFrame m #[(.ref a1), (.double (4602678819172646912 : UInt64)), (.int p2), (.int p3)] 5 = mkF m 0 #[.val (.ref a1), .val (.double (4602678819172646912 : UInt64)), .second, .val (.int p2), .val (.int p3)] [] := by first | (simp [entryFrame, mkF, argsToLocals, Value.category]; done) | rfl
theorem rm8 (l : Launch) (Z : State) (a0 : Array Value) (hw : ∀ d ∈ tables_1, d.before a0 Z = true) (ws : List Jvm.Cond) (a1 : Addr) (p2 : Int32) (p3 : Int32) (h0 : Heap) (n0 : Nat) (Z0 : n0 ≤ h0.size) (c5 : ¬ (p2 < (0 : Int32))) (c6 : ¬ (p3 < (0 : Int32))) (F_weight_a1 : Fld Z h0 a1 "com/example/informal_search/informalsearch/ranking/Feedback" "weight" "D" (.double (0 : UInt64))) (E_a1 : Exa Z h0 a1 "com/example/informal_search/informalsearch/ranking/Feedback") (g_a1 : n0 ≤ a1) (F_entities_a1 : Fld Z h0 a1 "com/example/informal_search/informalsearch/ranking/Feedback" "entities" "I" (.int (0 : Int32))) (F_terms_a1 : Fld Z h0 a1 "com/example/informal_search/informalsearch/ranking/Feedback" "terms" "I" (.int (0 : Int32))) :
    OwnMet l Z y_1 prog_62_method_1_code 5 none ws Rm8 #[(.ref a1), (.double (4602678819172646912 : UInt64)), (.int p2), (.int p3)] h0 (Q8 Z a1 p2 p3 h0 n0) := by
  refine own_body (plainFor_of_name pn_1) (ef8 a1 p2 p3) ?_
  intro p e s m below meth c s₁ hx hby hml hown hnm hret hZ X0 e0
  have N0 := Fr.nil n0
  obtain ⟨_, T4, L4, X4, hQ4, st4⟩ := own_special X0 hx hZ hown (y := y_0) (a := a1) (w_8 hw) (w_9 hw) (w_11 hw) (w_12 hw) (rm1 l Z a0 hw [] a1 h0 n0 Z0) e0 (Ls := #[.val (.ref a1), .val (.double (4602678819172646912 : UInt64)), .second, .val (.int p2), .val (.int p3)]) (by rw [hml]; rfl) (argsL := []) (rest := []) (lenOf pd_0 rfl) (hb hby d1_1) (W := 0)
  obtain ⟨rfl, Nq4, e4⟩ := hQ4
  have N4 := Fr.app N0 Nq4
  obtain ⟨T7, h7, X7, e7, W7, st7⟩ := putF X4 hx hZ hown (host := "") (Or.inl (w_16 hw)) Via.refl e4 F_weight_a1 E_a1 (Or.inr ⟨(w_17 hw), rfl, hnm⟩) (w_3 hw) (ty := .double) (by decide) rfl rfl (g := (mkF m 57 #[.val (.ref a1), .val (.double (4602678819172646912 : UInt64)), .second, .val (.int p2), .val (.int p3)] [(.double (4602678819172646912 : UInt64)), (.ref a1)])) rfl rfl (hb hby d1_57)
  have s0 := (Keep.of_wr W7).1
  have N7 := Fr.snoc X7 N4 g_a1
  have Fw7 : Fld Z h7 a1 "com/example/informal_search/informalsearch/ranking/Feedback" "weight" "D" (.double (4602678819172646912 : UInt64)) := F_weight_a1.same W7
  have Ex8 := (E_a1.wr W7)
  have Fl9 := (F_entities_a1.other W7 (Or.inr (slot_ne (Or.inr (w_19 hw)) (Or.inr (w_17 hw)) (by decide) (t := .int) (t' := .double) (by decide) (by decide))))
  obtain ⟨T10, h10, X10, e10, W10, st10⟩ := putF X7 hx hZ hown (host := "") (Or.inl (w_18 hw)) Via.refl e7 Fl9 Ex8 (Or.inr ⟨(w_19 hw), rfl, hnm⟩) (w_3 hw) (ty := .int) (by decide) rfl rfl (g := (mkF m 62 #[.val (.ref a1), .val (.double (4602678819172646912 : UInt64)), .second, .val (.int p2), .val (.int p3)] [(.int p2), (.ref a1)])) rfl rfl (hb hby d1_62)
  have s1 := (Keep.of_wr W10).1
  have N10 := Fr.snoc X10 N7 g_a1
  have Fw10 : Fld Z h10 a1 "com/example/informal_search/informalsearch/ranking/Feedback" "entities" "I" (.int p2) := Fl9.same W10
  have Ex11 := (Ex8.wr W10)
  have Fl12 := ((F_terms_a1.other W7 (Or.inr (slot_ne (Or.inr (w_21 hw)) (Or.inr (w_17 hw)) (by decide) (t := .int) (t' := .double) (by decide) (by decide)))).other W10 (Or.inr (slot_ne (Or.inr (w_21 hw)) (Or.inr (w_19 hw)) (by decide) (t := .int) (t' := .int) (by decide) (by decide))))
  obtain ⟨T13, h13, X13, e13, W13, st13⟩ := putF X10 hx hZ hown (host := "") (Or.inl (w_20 hw)) Via.refl e10 Fl12 Ex11 (Or.inr ⟨(w_21 hw), rfl, hnm⟩) (w_3 hw) (ty := .int) (by decide) rfl rfl (g := (mkF m 68 #[.val (.ref a1), .val (.double (4602678819172646912 : UInt64)), .second, .val (.int p2), .val (.int p3)] [(.int p3), (.ref a1)])) rfl rfl (hb hby d1_68)
  have s2 := (Keep.of_wr W13).1
  have N13 := Fr.snoc X13 N10 g_a1
  have Fw13 : Fld Z h13 a1 "com/example/informal_search/informalsearch/ranking/Feedback" "terms" "I" (.int p3) := Fl12.same W13
  have Ex14 := (Ex11.wr W13)
  have Fl15 := (Fw10.other W13 (Or.inr (slot_ne (Or.inr (w_19 hw)) (Or.inr (w_21 hw)) (by decide) (t := .int) (t' := .int) (by decide) (by decide))))
  have Fl16 := ((Fw7.other W10 (Or.inr (slot_ne (Or.inr (w_17 hw)) (Or.inr (w_19 hw)) (by decide) (t := .double) (t' := .int) (by decide) (by decide)))).other W13 (Or.inr (slot_ne (Or.inr (w_17 hw)) (Or.inr (w_21 hw)) (by decide) (t := .double) (t' := .int) (by decide) (by decide))))
  have Kp0 : Keep h0 h7 [a1] := (Keep.refl h0 [a1]).wr W7 (Or.inl (List.mem_of_getElem? (i := 0) rfl))
  have Kp1 : Keep h0 h10 [a1] := Kp0.wr W10 (Or.inl (List.mem_of_getElem? (i := 0) rfl))
  have Kp2 : Keep h0 h13 [a1] := Kp1.wr W13 (Or.inl (List.mem_of_getElem? (i := 0) rfl))
  refine ⟨T13, _, _, _, none, X13, (fun _ => rfl), by decide, by decide, ?_, fun fs hr => ?_⟩
  · show Q8 Z a1 p2 p3 h0 n0 _ T13.heap _
    rw [e13]
    exact ⟨rfl, N13, Kp2, Ex14, Fl15, Fw13, Fl16⟩
  · show Steps p.tables e below (s₁.setTop (mkF m 0 #[.val (.ref a1), .val (.double (4602678819172646912 : UInt64)), .second, .val (.int p2), .val (.int p3)] [])) _
    refine XS.aloadN X0.here hx rfl (hb hby d1_0) rfl rfl ?_
    refine st4 _ ?_
    refine XS.dloadN X4.here hx rfl (hb hby d1_4) rfl ?_
    refine XS.dconst0 X4.here hx rfl (hb hby d1_5) rfl ?_
    refine XS.dcmpS X4.here hx rfl (hb hby d1_6) rfl (by decide +kernel : (cmpValue (FP.dcmp (4602678819172646912 : UInt64) (0 : UInt64)) .l) = (1 : Int32)) ?_
    refine XS.ifNo X4.here hx rfl (hb hby d1_7) rfl ((if0 _ _).trans (flt ((by decide : ¬ ((1 : Int32) < (0 : Int32))) : ¬ ((1 : Int32) < (0 : Int32)))).1) ?_
    refine XS.dloadN X4.here hx rfl (hb hby d1_10) rfl ?_
    refine XS.dconst1 X4.here hx rfl (hb hby d1_11) rfl ?_
    refine XS.dcmpS X4.here hx rfl (hb hby d1_12) rfl (by decide +kernel : (cmpValue (FP.dcmp (4602678819172646912 : UInt64) (4607182418800017408 : UInt64)) .g) = (-1 : Int32)) ?_
    refine XS.ifYes X4.here hx rfl (pc0 := 13) (pc' := 30) rfl (hb hby d1_13) rfl ((if0 _ _).trans (flt ((by decide : ¬ ((0 : Int32) < (-1 : Int32))) : ¬ ((0 : Int32) < (-1 : Int32)))).2.2.2) (by decide) (by decide) ?_
    refine XS.iloadN X4.here hx rfl (hb hby d1_30) rfl ?_
    refine XS.ifNo X4.here hx rfl (hb hby d1_31) rfl ((if0 _ _).trans (flt (c5 : ¬ (p2 < (0 : Int32)))).1) ?_
    show Steps p.tables e below (T4.setTop (mkF m 34 #[.val (.ref a1), .val (.double (4602678819172646912 : UInt64)), .second, .val (.int p2), .val (.int p3)] [])) _
    refine XS.iload X4.here hx rfl (hb hby d1_34) rfl ?_
    refine XS.ifYes X4.here hx rfl (pc0 := 36) (pc' := 55) rfl (hb hby d1_36) rfl ((if0 _ _).trans (flt (c6 : ¬ (p3 < (0 : Int32)))).2.1) (by decide) (by decide) ?_
    refine XS.aloadN X4.here hx rfl (hb hby d1_55) rfl rfl ?_
    refine XS.dloadN X4.here hx rfl (hb hby d1_56) rfl ?_
    refine st7 _ ?_
    refine XS.aloadN X7.here hx rfl (hb hby d1_60) rfl rfl ?_
    refine XS.iloadN X7.here hx rfl (hb hby d1_61) rfl ?_
    refine st10 _ ?_
    refine XS.aloadN X10.here hx rfl (hb hby d1_65) rfl rfl ?_
    refine XS.iload X10.here hx rfl (hb hby d1_66) rfl ?_
    refine st13 _ ?_
    exact X13.returnOut hx hret (hb hby d1_71) hr
-- com/example/informal_search/informalsearch/ranking/Feedback.expands()Z
abbrev Rm9 : Room := { frames := 0, cells := 0, slots := 0, locals := 0 }
def Q9 (Z : State) (a1 : Addr) (p3 : Int32) (h0 : Heap) (n0 : Nat) (v : Option Value) (h : Heap) (L : List Loc) : Prop := v = some (.int (0 : Int32)) ∧ Fr n0 L ∧ h = h0
theorem ef9 (a1 : Addr) (m : MethodId) : entryFrame m #[(.ref a1)] 1 = mkF m 0 #[.val (.ref a1)] [] := by first | (simp [entryFrame, mkF, argsToLocals, Value.category]; done) | rfl
theorem rm9 (l : Launch) (Z : State) (a0 : Array Value) (hw : ∀ d ∈ tables_1, d.before a0 Z = true) (ws : List Jvm.Cond) (a1 : Addr) (p3 : Int32) (h0 : Heap) (n0 : Nat) (Z0 : n0 ≤ h0.size) (F_weight_a1 : Fld Z h0 a1 "com/example/informal_search/informalsearch/ranking/Feedback" "weight" "D" (.double (4602678819172646912 : UInt64))) (F_entities_a1 : Fld Z h0 a1 "com/example/informal_search/informalsearch/ranking/Feedback" "entities" "I" (.int p3)) (c5 : ¬ ((0 : Int32) < p3)) :
    OwnMet l Z y_2 prog_62_method_2_code 1 (some .boolean) ws Rm9 #[(.ref a1)] h0 (Q9 Z a1 p3 h0 n0) := by
  refine own_body (plainFor_of_name pn_1) (ef9 a1) ?_
  intro p e s m below meth c s₁ hx hby hml hown hnm hret hZ X0 e0
  have N0 := Fr.nil n0
  obtain ⟨T2, X2, e2, st2⟩ := getF X0 hx hZ hown (host := "") (Or.inl (w_16 hw)) Via.refl e0 F_weight_a1 (g := (mkF m 1 #[.val (.ref a1)] [(.ref a1)])) rfl rfl (hb hby d4_1)
  obtain ⟨T4, X4, e4, st4⟩ := getF X2 hx hZ hown (host := "") (Or.inl (w_18 hw)) Via.refl e2 F_entities_a1 (g := (mkF m 10 #[.val (.ref a1)] [(.ref a1)])) rfl rfl (hb hby d4_10)
  refine ⟨T4, _, _, _, (some (.int (0 : Int32))), X4, nofun, by decide, by decide, ?_, fun fs hr => ?_⟩
  · show Q9 Z a1 p3 h0 n0 _ T4.heap _
    rw [e4]
    exact ⟨rfl, N0, rfl⟩
  · show Steps p.tables e below (s₁.setTop (mkF m 0 #[.val (.ref a1)] [])) _
    refine XS.aloadN X0.here hx rfl (hb hby d4_0) rfl rfl ?_
    refine st2 _ ?_
    refine XS.dconst0 X2.here hx rfl (hb hby d4_4) rfl ?_
    refine XS.dcmpS X2.here hx rfl (hb hby d4_5) rfl (by decide +kernel : (cmpValue (FP.dcmp (4602678819172646912 : UInt64) (0 : UInt64)) .l) = (1 : Int32)) ?_
    refine XS.ifNo X2.here hx rfl (hb hby d4_6) rfl ((if0 _ _).trans (tlt ((by decide : (0 : Int32) < (1 : Int32)) : (0 : Int32) < (1 : Int32))).2.2.2) ?_
    refine XS.aloadN X2.here hx rfl (hb hby d4_9) rfl rfl ?_
    refine st4 _ ?_
    refine XS.ifYes X4.here hx rfl (pc0 := 13) (pc' := 27) rfl (hb hby d4_13) rfl ((if0 _ _).trans (flt (c5 : ¬ ((0 : Int32) < p3))).2.2.2) (by decide) (by decide) ?_
    refine XS.iconst X4.here hx rfl (hb hby d4_27) ?_
    exact retN X4 hx (t := .boolean) hret (by simp) (hb hby d4_28) hr
theorem rm0_4 (l : Launch) (Z : State) (a0 : Array Value) (hw : ∀ d ∈ tables_1, d.before a0 Z = true) (ws : List Jvm.Cond) (p1 : Int32) (p2 : Int32) (p3 : Int32) (h0 : Heap) (n0 : Nat) (Z0 : n0 ≤ h0.size) (Od0 : Old Z n0 h0) (hk : ((p1 &&& (2147483647 : Int32)) - ((p1 &&& (2147483647 : Int32)) / (5 : Int32)) * (5 : Int32)) = (2 : Int32)) (cc1 : (p2 &&& (2147483647 : Int32)) = (0 : Int32)) :
    OwnMet l Z x code maxLocals ret ws room_1 #[(.int p1), (.int p2), (.int p3)] h0 (Q0 n0) := by
  refine own_body (plainFor_of_name pn_2) (ef0 p1 p2 p3) ?_
  intro p e s m below meth c s₁ hx hby hml hown hnm hret hZ X0 e0
  have N0 := Fr.nil n0
  obtain ⟨T1, h1, X1, e1, E1, A1, D1, -, st1⟩ := newO X0 hx hZ hown (w_2 hw) (w_3 hw) (w_4 hw) e0 (g := (mkF m 27 #[.val (.int p1), .val (.int p2), .val (.int p3), .val (.int (2 : Int32)), .val (.int (p2 &&& (2147483647 : Int32))), .val (.int (p3 &&& (2147483647 : Int32))), .val (.double (4602678819172646912 : UInt64)), .second, .unset, .unset] [])) rfl (hb hby at_27) (by decide) (by decide)
  obtain ⟨b1, g1⟩ : ∃ z, z = h0.size := ⟨_, rfl⟩
  rw [← g1] at A1 D1 st1
  have s0 := E1.1
  have Fn1_weight : Fld Z h1 b1 "com/example/informal_search/informalsearch/ranking/Feedback" "weight" "D" (.double (0 : UInt64)) := D1 (Or.inr (w_17 hw)) (ty := .double) (by decide)
  have Fn1_entities : Fld Z h1 b1 "com/example/informal_search/informalsearch/ranking/Feedback" "entities" "I" (.int (0 : Int32)) := D1 (Or.inr (w_19 hw)) (ty := .int) (by decide)
  have Fn1_terms : Fld Z h1 b1 "com/example/informal_search/informalsearch/ranking/Feedback" "terms" "I" (.int (0 : Int32)) := D1 (Or.inr (w_21 hw)) (ty := .int) (by decide)
  have cd2 : ¬ ((p2 &&& (2147483647 : Int32)) < (0 : Int32)) := (by rw [Int32.lt_iff_toInt_lt]; have := rng32 (p2 &&& (2147483647 : Int32)); have := rng32 p2; have := own_mask p2 (2147483647 : Int32) 31 (by decide) (by decide) 2147483648 (by decide); have : ((0 : Int32)).toInt = 0 := (by decide); omega)
  have cd3 : ¬ ((p3 &&& (2147483647 : Int32)) < (0 : Int32)) := (by rw [Int32.lt_iff_toInt_lt]; have := rng32 (p3 &&& (2147483647 : Int32)); have := rng32 p3; have := own_mask p3 (2147483647 : Int32) 31 (by decide) (by decide) 2147483648 (by decide); have : ((0 : Int32)).toInt = 0 := (by decide); omega)
  have g_b1 : n0 ≤ b1 := Nat.le_trans Z0 (Nat.le_of_eq g1.symm)
  have z1 := Nat.le_trans Z0 s0
  obtain ⟨_, T4, L4, X4, hQ4, st4⟩ := own_special X1 hx hZ hown (y := y_1) (a := b1) (w_5 hw) (w_6 hw) (w_4 hw) (w_7 hw) (rm8 l Z a0 hw [] b1 (p2 &&& (2147483647 : Int32)) (p3 &&& (2147483647 : Int32)) h1 n0 z1 cd2 cd3 Fn1_weight A1 g_b1 Fn1_entities Fn1_terms) e1 (Ls := #[.val (.int p1), .val (.int p2), .val (.int p3), .val (.int (2 : Int32)), .val (.int (p2 &&& (2147483647 : Int32))), .val (.int (p3 &&& (2147483647 : Int32))), .val (.double (4602678819172646912 : UInt64)), .second, .unset, .unset]) (by rw [hml]; rfl) (argsL := [(.double (4602678819172646912 : UInt64)), (.int (p2 &&& (2147483647 : Int32))), (.int (p3 &&& (2147483647 : Int32)))]) (rest := [(.ref b1)]) (lenOf pd_1 rfl) (hb hby at_37) (W := 1)
  obtain ⟨rfl, Nq4, K4, o4_0, o4_1, o4_2, o4_3⟩ := hQ4
  have N4 := Fr.app N0 Nq4
  have s1 := K4.1
  have cd5 : ¬ ((0 : Int32) < (p2 &&& (2147483647 : Int32))) := (by rw [cc1]; decide)
  have z2 := Nat.le_trans Z0 (Nat.le_trans s0 s1)
  obtain ⟨_, T6, L6, X6, hQ6, st6⟩ := own_virtual X4 hx hZ hown (y := y_2) (z := y_2) o4_0 (w_22 hw) (w_23 hw) (notFace_of_selects (args := #[]) (mvT hZ (w_25 hw))) (w_25 hw) (w_24 hw) (w_4 hw) (w_26 hw) (rm9 l Z a0 hw [] b1 (p2 &&& (2147483647 : Int32)) T4.heap n0 z2 o4_3 o4_1 cd5) rfl (Ls := #[.val (.int p1), .val (.int p2), .val (.int p3), .val (.int (2 : Int32)), .val (.int (p2 &&& (2147483647 : Int32))), .val (.int (p3 &&& (2147483647 : Int32))), .val (.double (4602678819172646912 : UInt64)), .second, .val (.ref b1), .val (.int (0 : Int32))]) (by rw [hml]; rfl) (argsL := []) (rest := []) (lenOf pd_2 rfl) (hb hby at_65) (W := 0)
  obtain ⟨rfl, Nq6, e6⟩ := hQ6
  have N6 := Fr.app N4 Nq6
  refine ⟨T6, _, _, _, (some (.int (1 : Int32))), X6, nofun, by decide, by decide, ?_, fun fs hr => ?_⟩
  · show Q0 n0 _ T6.heap _
    rw [e6]
    exact ⟨rfl, N6⟩
  · show Steps p.tables e below (s₁.setTop (mkF m 0 #[.val (.int p1), .val (.int p2), .val (.int p3), .unset, .unset, .unset, .unset, .unset, .unset, .unset] [])) _
    refine XS.iloadN X0.here hx rfl (hb hby at_0) rfl ?_
    refine X0.ldcInt hx hown (mvT hZ (w_0 hw)) (g := (mkF m 1 #[.val (.int p1), .val (.int p2), .val (.int p3), .unset, .unset, .unset, .unset, .unset, .unset, .unset] [(.int p1)])) rfl (hb hby at_1) _ ?_
    refine XS.iand X0.here hx rfl (hb hby at_3) rfl ?_
    refine XS.iconst X0.here hx rfl (hb hby at_4) ?_
    refine XS.irem X0.here hx rfl (hb hby at_5) rfl (by decide : ¬ ((5 : Int32) = (0 : Int32))) ?_
    show Steps p.tables e below (s₁.setTop (mkF m 6 #[.val (.int p1), .val (.int p2), .val (.int p3), .unset, .unset, .unset, .unset, .unset, .unset, .unset] [(.int ((p1 &&& (2147483647 : Int32)) - ((p1 &&& (2147483647 : Int32)) / (5 : Int32)) * (5 : Int32)))])) _
    rw [hk]
    refine XS.istoreN X0.here hx rfl (hb hby at_6) rfl (l' := #[.val (.int p1), .val (.int p2), .val (.int p3), .val (.int (2 : Int32)), .unset, .unset, .unset, .unset, .unset, .unset]) rfl ?_
    refine XS.iloadN X0.here hx rfl (hb hby at_7) rfl ?_
    refine X0.ldcInt hx hown (mvT hZ (w_0 hw)) (g := (mkF m 8 #[.val (.int p1), .val (.int p2), .val (.int p3), .val (.int (2 : Int32)), .unset, .unset, .unset, .unset, .unset, .unset] [(.int p2)])) rfl (hb hby at_8) _ ?_
    refine XS.iand X0.here hx rfl (hb hby at_10) rfl ?_
    refine XS.istore X0.here hx rfl (hb hby at_11) rfl (l' := #[.val (.int p1), .val (.int p2), .val (.int p3), .val (.int (2 : Int32)), .val (.int (p2 &&& (2147483647 : Int32))), .unset, .unset, .unset, .unset, .unset]) rfl ?_
    refine XS.iloadN X0.here hx rfl (hb hby at_13) rfl ?_
    refine X0.ldcInt hx hown (mvT hZ (w_0 hw)) (g := (mkF m 14 #[.val (.int p1), .val (.int p2), .val (.int p3), .val (.int (2 : Int32)), .val (.int (p2 &&& (2147483647 : Int32))), .unset, .unset, .unset, .unset, .unset] [(.int p3)])) rfl (hb hby at_14) _ ?_
    refine XS.iand X0.here hx rfl (hb hby at_16) rfl ?_
    refine XS.istore X0.here hx rfl (hb hby at_17) rfl (l' := #[.val (.int p1), .val (.int p2), .val (.int p3), .val (.int (2 : Int32)), .val (.int (p2 &&& (2147483647 : Int32))), .val (.int (p3 &&& (2147483647 : Int32))), .unset, .unset, .unset, .unset]) rfl ?_
    refine XS.iloadN X0.here hx rfl (hb hby at_19) rfl ?_
    refine XS.i2dS X0.here hx rfl (hb hby at_20) rfl (by decide +kernel : (FP.i2d (2 : Int32)) = (4611686018427387904 : UInt64)) ?_
    show Steps p.tables e below (s₁.setTop (mkF m 21 #[.val (.int p1), .val (.int p2), .val (.int p3), .val (.int (2 : Int32)), .val (.int (p2 &&& (2147483647 : Int32))), .val (.int (p3 &&& (2147483647 : Int32))), .unset, .unset, .unset, .unset] [(.double (4611686018427387904 : UInt64))])) _
    refine X0.ldc2DoubleC hx hown (mvT hZ (w_1 hw)) (g := (mkF m 21 #[.val (.int p1), .val (.int p2), .val (.int p3), .val (.int (2 : Int32)), .val (.int (p2 &&& (2147483647 : Int32))), .val (.int (p3 &&& (2147483647 : Int32))), .unset, .unset, .unset, .unset] [(.double (4611686018427387904 : UInt64))])) rfl (hb hby at_21) _ ?_
    refine XS.ddivS X0.here hx rfl (hb hby at_24) rfl (by decide +kernel) (by decide +kernel : (FP.ddiv (4611686018427387904 : UInt64) (4616189618054758400 : UInt64)) = (4602678819172646912 : UInt64)) ?_
    refine XS.dstore X0.here hx rfl (hb hby at_25) rfl (l' := #[.val (.int p1), .val (.int p2), .val (.int p3), .val (.int (2 : Int32)), .val (.int (p2 &&& (2147483647 : Int32))), .val (.int (p3 &&& (2147483647 : Int32))), .val (.double (4602678819172646912 : UInt64)), .second, .unset, .unset]) rfl ?_
    refine st1 _ ?_
    refine XS.dup X1.here hx rfl (hb hby at_30) rfl rfl ?_
    refine XS.dload X1.here hx rfl (hb hby at_31) rfl ?_
    refine XS.iload X1.here hx rfl (hb hby at_33) rfl ?_
    refine XS.iload X1.here hx rfl (hb hby at_35) rfl ?_
    refine st4 _ ?_
    refine XS.astore X4.here hx rfl (hb hby at_40) rfl rfl (l' := #[.val (.int p1), .val (.int p2), .val (.int p3), .val (.int (2 : Int32)), .val (.int (p2 &&& (2147483647 : Int32))), .val (.int (p3 &&& (2147483647 : Int32))), .val (.double (4602678819172646912 : UInt64)), .second, .val (.ref b1), .unset]) rfl ?_
    refine XS.iloadN X4.here hx rfl (hb hby at_42) rfl ?_
    refine XS.ifNo X4.here hx rfl (hb hby at_43) rfl ((if0 _ _).trans (feq ((by decide : ¬ ((2 : Int32) = (0 : Int32))) : ¬ ((2 : Int32) = (0 : Int32)))).1) ?_
    show Steps p.tables e below (T4.setTop (mkF m 46 #[.val (.int p1), .val (.int p2), .val (.int p3), .val (.int (2 : Int32)), .val (.int (p2 &&& (2147483647 : Int32))), .val (.int (p3 &&& (2147483647 : Int32))), .val (.double (4602678819172646912 : UInt64)), .second, .val (.ref b1), .unset] [])) _
    refine XS.iload X4.here hx rfl (hb hby at_46) rfl ?_
    refine XS.ifYes X4.here hx rfl (pc0 := 48) (pc' := 60) rfl (hb hby at_48) rfl ((if0 _ _).trans (teq (cc1 : (p2 &&& (2147483647 : Int32)) = (0 : Int32))).1) (by decide) (by decide) ?_
    refine XS.iconst X4.here hx rfl (hb hby at_60) ?_
    refine XS.istore X4.here hx rfl (hb hby at_61) rfl (l' := #[.val (.int p1), .val (.int p2), .val (.int p3), .val (.int (2 : Int32)), .val (.int (p2 &&& (2147483647 : Int32))), .val (.int (p3 &&& (2147483647 : Int32))), .val (.double (4602678819172646912 : UInt64)), .second, .val (.ref b1), .val (.int (0 : Int32))]) rfl ?_
    refine XS.aload X4.here hx rfl (hb hby at_63) rfl rfl ?_
    refine st6 _ ?_
    refine XS.iload X6.here hx rfl (hb hby at_68) rfl ?_
    refine XS.icmpNo X6.here hx rfl (hb hby at_70) rfl (teq ((by decide : (0 : Int32) = (0 : Int32)) : (0 : Int32) = (0 : Int32))).2 ?_
    refine XS.iconst X6.here hx rfl (hb hby at_73) ?_
    refine XS.goto X6.here hx rfl (pc0 := 74) (pc' := 78) rfl (hb hby at_74) (by decide) (by decide) ?_
    exact retN X6 hx (t := .boolean) hret (by simp) (hb hby at_78) hr
-- com/example/informal_search/informalsearch/ranking/Feedback.expands()Z
abbrev Rm10 : Room := { frames := 0, cells := 0, slots := 0, locals := 0 }
def Q10 (Z : State) (a1 : Addr) (p3 : Int32) (p6 : Int32) (h0 : Heap) (n0 : Nat) (v : Option Value) (h : Heap) (L : List Loc) : Prop := v = some (.int (0 : Int32)) ∧ Fr n0 L ∧ h = h0
theorem ef10 (a1 : Addr) (m : MethodId) : entryFrame m #[(.ref a1)] 1 = mkF m 0 #[.val (.ref a1)] [] := by first | (simp [entryFrame, mkF, argsToLocals, Value.category]; done) | rfl
theorem rm10 (l : Launch) (Z : State) (a0 : Array Value) (hw : ∀ d ∈ tables_1, d.before a0 Z = true) (ws : List Jvm.Cond) (a1 : Addr) (p3 : Int32) (p6 : Int32) (h0 : Heap) (n0 : Nat) (Z0 : n0 ≤ h0.size) (F_weight_a1 : Fld Z h0 a1 "com/example/informal_search/informalsearch/ranking/Feedback" "weight" "D" (.double (4602678819172646912 : UInt64))) (F_entities_a1 : Fld Z h0 a1 "com/example/informal_search/informalsearch/ranking/Feedback" "entities" "I" (.int p3)) (c5 : (0 : Int32) < p3) (F_terms_a1 : Fld Z h0 a1 "com/example/informal_search/informalsearch/ranking/Feedback" "terms" "I" (.int p6)) (c8 : ¬ ((0 : Int32) < p6)) :
    OwnMet l Z y_2 prog_62_method_2_code 1 (some .boolean) ws Rm10 #[(.ref a1)] h0 (Q10 Z a1 p3 p6 h0 n0) := by
  refine own_body (plainFor_of_name pn_1) (ef10 a1) ?_
  intro p e s m below meth c s₁ hx hby hml hown hnm hret hZ X0 e0
  have N0 := Fr.nil n0
  obtain ⟨T2, X2, e2, st2⟩ := getF X0 hx hZ hown (host := "") (Or.inl (w_16 hw)) Via.refl e0 F_weight_a1 (g := (mkF m 1 #[.val (.ref a1)] [(.ref a1)])) rfl rfl (hb hby d4_1)
  obtain ⟨T4, X4, e4, st4⟩ := getF X2 hx hZ hown (host := "") (Or.inl (w_18 hw)) Via.refl e2 F_entities_a1 (g := (mkF m 10 #[.val (.ref a1)] [(.ref a1)])) rfl rfl (hb hby d4_10)
  obtain ⟨T7, X7, e7, st7⟩ := getF X4 hx hZ hown (host := "") (Or.inl (w_20 hw)) Via.refl e4 F_terms_a1 (g := (mkF m 17 #[.val (.ref a1)] [(.ref a1)])) rfl rfl (hb hby d4_17)
  refine ⟨T7, _, _, _, (some (.int (0 : Int32))), X7, nofun, by decide, by decide, ?_, fun fs hr => ?_⟩
  · show Q10 Z a1 p3 p6 h0 n0 _ T7.heap _
    rw [e7]
    exact ⟨rfl, N0, rfl⟩
  · show Steps p.tables e below (s₁.setTop (mkF m 0 #[.val (.ref a1)] [])) _
    refine XS.aloadN X0.here hx rfl (hb hby d4_0) rfl rfl ?_
    refine st2 _ ?_
    refine XS.dconst0 X2.here hx rfl (hb hby d4_4) rfl ?_
    refine XS.dcmpS X2.here hx rfl (hb hby d4_5) rfl (by decide +kernel : (cmpValue (FP.dcmp (4602678819172646912 : UInt64) (0 : UInt64)) .l) = (1 : Int32)) ?_
    refine XS.ifNo X2.here hx rfl (hb hby d4_6) rfl ((if0 _ _).trans (tlt ((by decide : (0 : Int32) < (1 : Int32)) : (0 : Int32) < (1 : Int32))).2.2.2) ?_
    refine XS.aloadN X2.here hx rfl (hb hby d4_9) rfl rfl ?_
    refine st4 _ ?_
    refine XS.ifNo X4.here hx rfl (hb hby d4_13) rfl ((if0 _ _).trans (tlt (c5 : (0 : Int32) < p3)).2.2.2) ?_
    refine XS.aloadN X4.here hx rfl (hb hby d4_16) rfl rfl ?_
    refine st7 _ ?_
    refine XS.ifYes X7.here hx rfl (pc0 := 20) (pc' := 27) rfl (hb hby d4_20) rfl ((if0 _ _).trans (flt (c8 : ¬ ((0 : Int32) < p6))).2.2.2) (by decide) (by decide) ?_
    refine XS.iconst X7.here hx rfl (hb hby d4_27) ?_
    show Steps p.tables e below (T7.setTop (mkF m 28 #[.val (.ref a1)] [(.int (0 : Int32))])) _
    exact retN X7 hx (t := .boolean) hret (by simp) (hb hby d4_28) hr
theorem rm0_5 (l : Launch) (Z : State) (a0 : Array Value) (hw : ∀ d ∈ tables_1, d.before a0 Z = true) (ws : List Jvm.Cond) (p1 : Int32) (p2 : Int32) (p3 : Int32) (h0 : Heap) (n0 : Nat) (Z0 : n0 ≤ h0.size) (Od0 : Old Z n0 h0) (hk : ((p1 &&& (2147483647 : Int32)) - ((p1 &&& (2147483647 : Int32)) / (5 : Int32)) * (5 : Int32)) = (2 : Int32)) (cc1 : ¬ ((p2 &&& (2147483647 : Int32)) = (0 : Int32))) (cc2 : (p3 &&& (2147483647 : Int32)) = (0 : Int32)) :
    OwnMet l Z x code maxLocals ret ws room_1 #[(.int p1), (.int p2), (.int p3)] h0 (Q0 n0) := by
  refine own_body (plainFor_of_name pn_2) (ef0 p1 p2 p3) ?_
  intro p e s m below meth c s₁ hx hby hml hown hnm hret hZ X0 e0
  have N0 := Fr.nil n0
  obtain ⟨T1, h1, X1, e1, E1, A1, D1, -, st1⟩ := newO X0 hx hZ hown (w_2 hw) (w_3 hw) (w_4 hw) e0 (g := (mkF m 27 #[.val (.int p1), .val (.int p2), .val (.int p3), .val (.int (2 : Int32)), .val (.int (p2 &&& (2147483647 : Int32))), .val (.int (p3 &&& (2147483647 : Int32))), .val (.double (4602678819172646912 : UInt64)), .second, .unset, .unset] [])) rfl (hb hby at_27) (by decide) (by decide)
  obtain ⟨b1, g1⟩ : ∃ z, z = h0.size := ⟨_, rfl⟩
  rw [← g1] at A1 D1 st1
  have s0 := E1.1
  have Fn1_weight : Fld Z h1 b1 "com/example/informal_search/informalsearch/ranking/Feedback" "weight" "D" (.double (0 : UInt64)) := D1 (Or.inr (w_17 hw)) (ty := .double) (by decide)
  have Fn1_entities : Fld Z h1 b1 "com/example/informal_search/informalsearch/ranking/Feedback" "entities" "I" (.int (0 : Int32)) := D1 (Or.inr (w_19 hw)) (ty := .int) (by decide)
  have Fn1_terms : Fld Z h1 b1 "com/example/informal_search/informalsearch/ranking/Feedback" "terms" "I" (.int (0 : Int32)) := D1 (Or.inr (w_21 hw)) (ty := .int) (by decide)
  have cd2 : ¬ ((p2 &&& (2147483647 : Int32)) < (0 : Int32)) := (by rw [Int32.lt_iff_toInt_lt]; have := rng32 (p2 &&& (2147483647 : Int32)); have := rng32 p2; have := own_mask p2 (2147483647 : Int32) 31 (by decide) (by decide) 2147483648 (by decide); have : ((0 : Int32)).toInt = 0 := (by decide); omega)
  have cd3 : ¬ ((p3 &&& (2147483647 : Int32)) < (0 : Int32)) := (by rw [Int32.lt_iff_toInt_lt]; have := rng32 (p3 &&& (2147483647 : Int32)); have := rng32 p3; have := own_mask p3 (2147483647 : Int32) 31 (by decide) (by decide) 2147483648 (by decide); have : ((0 : Int32)).toInt = 0 := (by decide); omega)
  have g_b1 : n0 ≤ b1 := Nat.le_trans Z0 (Nat.le_of_eq g1.symm)
  have z1 := Nat.le_trans Z0 s0
  obtain ⟨_, T4, L4, X4, hQ4, st4⟩ := own_special X1 hx hZ hown (y := y_1) (a := b1) (w_5 hw) (w_6 hw) (w_4 hw) (w_7 hw) (rm8 l Z a0 hw [] b1 (p2 &&& (2147483647 : Int32)) (p3 &&& (2147483647 : Int32)) h1 n0 z1 cd2 cd3 Fn1_weight A1 g_b1 Fn1_entities Fn1_terms) e1 (Ls := #[.val (.int p1), .val (.int p2), .val (.int p3), .val (.int (2 : Int32)), .val (.int (p2 &&& (2147483647 : Int32))), .val (.int (p3 &&& (2147483647 : Int32))), .val (.double (4602678819172646912 : UInt64)), .second, .unset, .unset]) (by rw [hml]; rfl) (argsL := [(.double (4602678819172646912 : UInt64)), (.int (p2 &&& (2147483647 : Int32))), (.int (p3 &&& (2147483647 : Int32)))]) (rest := [(.ref b1)]) (lenOf pd_1 rfl) (hb hby at_37) (W := 1)
  obtain ⟨rfl, Nq4, K4, o4_0, o4_1, o4_2, o4_3⟩ := hQ4
  have N4 := Fr.app N0 Nq4
  have s1 := K4.1
  have cd5 : (0 : Int32) < (p2 &&& (2147483647 : Int32)) := (by rw [Int32.lt_iff_toInt_lt]; have hz : ((p2 &&& (2147483647 : Int32))).toInt ≠ ((0 : Int32)).toInt := fun q => cc1 (Int32.toInt_inj.mp q); have : ((0 : Int32)).toInt = 0 := (by decide); have := rng32 (p2 &&& (2147483647 : Int32)); have := rng32 p2; have := own_mask p2 (2147483647 : Int32) 31 (by decide) (by decide) 2147483648 (by decide); omega)
  have cd6 : ¬ ((0 : Int32) < (p3 &&& (2147483647 : Int32))) := (by rw [cc2]; decide)
  have z2 := Nat.le_trans Z0 (Nat.le_trans s0 s1)
  obtain ⟨_, T7, L7, X7, hQ7, st7⟩ := own_virtual X4 hx hZ hown (y := y_2) (z := y_2) o4_0 (w_22 hw) (w_23 hw) (notFace_of_selects (args := #[]) (mvT hZ (w_25 hw))) (w_25 hw) (w_24 hw) (w_4 hw) (w_26 hw) (rm10 l Z a0 hw [] b1 (p2 &&& (2147483647 : Int32)) (p3 &&& (2147483647 : Int32)) T4.heap n0 z2 o4_3 o4_1 cd5 o4_2 cd6) rfl (Ls := #[.val (.int p1), .val (.int p2), .val (.int p3), .val (.int (2 : Int32)), .val (.int (p2 &&& (2147483647 : Int32))), .val (.int (p3 &&& (2147483647 : Int32))), .val (.double (4602678819172646912 : UInt64)), .second, .val (.ref b1), .val (.int (0 : Int32))]) (by rw [hml]; rfl) (argsL := []) (rest := []) (lenOf pd_2 rfl) (hb hby at_65) (W := 0)
  obtain ⟨rfl, Nq7, e7⟩ := hQ7
  have N7 := Fr.app N4 Nq7
  refine ⟨T7, _, _, _, (some (.int (1 : Int32))), X7, nofun, by decide, by decide, ?_, fun fs hr => ?_⟩
  · show Q0 n0 _ T7.heap _
    rw [e7]
    exact ⟨rfl, N7⟩
  · show Steps p.tables e below (s₁.setTop (mkF m 0 #[.val (.int p1), .val (.int p2), .val (.int p3), .unset, .unset, .unset, .unset, .unset, .unset, .unset] [])) _
    refine XS.iloadN X0.here hx rfl (hb hby at_0) rfl ?_
    refine X0.ldcInt hx hown (mvT hZ (w_0 hw)) (g := (mkF m 1 #[.val (.int p1), .val (.int p2), .val (.int p3), .unset, .unset, .unset, .unset, .unset, .unset, .unset] [(.int p1)])) rfl (hb hby at_1) _ ?_
    refine XS.iand X0.here hx rfl (hb hby at_3) rfl ?_
    refine XS.iconst X0.here hx rfl (hb hby at_4) ?_
    refine XS.irem X0.here hx rfl (hb hby at_5) rfl (by decide : ¬ ((5 : Int32) = (0 : Int32))) ?_
    show Steps p.tables e below (s₁.setTop (mkF m 6 #[.val (.int p1), .val (.int p2), .val (.int p3), .unset, .unset, .unset, .unset, .unset, .unset, .unset] [(.int ((p1 &&& (2147483647 : Int32)) - ((p1 &&& (2147483647 : Int32)) / (5 : Int32)) * (5 : Int32)))])) _
    rw [hk]
    refine XS.istoreN X0.here hx rfl (hb hby at_6) rfl (l' := #[.val (.int p1), .val (.int p2), .val (.int p3), .val (.int (2 : Int32)), .unset, .unset, .unset, .unset, .unset, .unset]) rfl ?_
    refine XS.iloadN X0.here hx rfl (hb hby at_7) rfl ?_
    refine X0.ldcInt hx hown (mvT hZ (w_0 hw)) (g := (mkF m 8 #[.val (.int p1), .val (.int p2), .val (.int p3), .val (.int (2 : Int32)), .unset, .unset, .unset, .unset, .unset, .unset] [(.int p2)])) rfl (hb hby at_8) _ ?_
    refine XS.iand X0.here hx rfl (hb hby at_10) rfl ?_
    refine XS.istore X0.here hx rfl (hb hby at_11) rfl (l' := #[.val (.int p1), .val (.int p2), .val (.int p3), .val (.int (2 : Int32)), .val (.int (p2 &&& (2147483647 : Int32))), .unset, .unset, .unset, .unset, .unset]) rfl ?_
    refine XS.iloadN X0.here hx rfl (hb hby at_13) rfl ?_
    refine X0.ldcInt hx hown (mvT hZ (w_0 hw)) (g := (mkF m 14 #[.val (.int p1), .val (.int p2), .val (.int p3), .val (.int (2 : Int32)), .val (.int (p2 &&& (2147483647 : Int32))), .unset, .unset, .unset, .unset, .unset] [(.int p3)])) rfl (hb hby at_14) _ ?_
    refine XS.iand X0.here hx rfl (hb hby at_16) rfl ?_
    refine XS.istore X0.here hx rfl (hb hby at_17) rfl (l' := #[.val (.int p1), .val (.int p2), .val (.int p3), .val (.int (2 : Int32)), .val (.int (p2 &&& (2147483647 : Int32))), .val (.int (p3 &&& (2147483647 : Int32))), .unset, .unset, .unset, .unset]) rfl ?_
    refine XS.iloadN X0.here hx rfl (hb hby at_19) rfl ?_
    refine XS.i2dS X0.here hx rfl (hb hby at_20) rfl (by decide +kernel : (FP.i2d (2 : Int32)) = (4611686018427387904 : UInt64)) ?_
    show Steps p.tables e below (s₁.setTop (mkF m 21 #[.val (.int p1), .val (.int p2), .val (.int p3), .val (.int (2 : Int32)), .val (.int (p2 &&& (2147483647 : Int32))), .val (.int (p3 &&& (2147483647 : Int32))), .unset, .unset, .unset, .unset] [(.double (4611686018427387904 : UInt64))])) _
    refine X0.ldc2DoubleC hx hown (mvT hZ (w_1 hw)) (g := (mkF m 21 #[.val (.int p1), .val (.int p2), .val (.int p3), .val (.int (2 : Int32)), .val (.int (p2 &&& (2147483647 : Int32))), .val (.int (p3 &&& (2147483647 : Int32))), .unset, .unset, .unset, .unset] [(.double (4611686018427387904 : UInt64))])) rfl (hb hby at_21) _ ?_
    refine XS.ddivS X0.here hx rfl (hb hby at_24) rfl (by decide +kernel) (by decide +kernel : (FP.ddiv (4611686018427387904 : UInt64) (4616189618054758400 : UInt64)) = (4602678819172646912 : UInt64)) ?_
    refine XS.dstore X0.here hx rfl (hb hby at_25) rfl (l' := #[.val (.int p1), .val (.int p2), .val (.int p3), .val (.int (2 : Int32)), .val (.int (p2 &&& (2147483647 : Int32))), .val (.int (p3 &&& (2147483647 : Int32))), .val (.double (4602678819172646912 : UInt64)), .second, .unset, .unset]) rfl ?_
    refine st1 _ ?_
    refine XS.dup X1.here hx rfl (hb hby at_30) rfl rfl ?_
    refine XS.dload X1.here hx rfl (hb hby at_31) rfl ?_
    refine XS.iload X1.here hx rfl (hb hby at_33) rfl ?_
    refine XS.iload X1.here hx rfl (hb hby at_35) rfl ?_
    refine st4 _ ?_
    refine XS.astore X4.here hx rfl (hb hby at_40) rfl rfl (l' := #[.val (.int p1), .val (.int p2), .val (.int p3), .val (.int (2 : Int32)), .val (.int (p2 &&& (2147483647 : Int32))), .val (.int (p3 &&& (2147483647 : Int32))), .val (.double (4602678819172646912 : UInt64)), .second, .val (.ref b1), .unset]) rfl ?_
    refine XS.iloadN X4.here hx rfl (hb hby at_42) rfl ?_
    refine XS.ifNo X4.here hx rfl (hb hby at_43) rfl ((if0 _ _).trans (feq ((by decide : ¬ ((2 : Int32) = (0 : Int32))) : ¬ ((2 : Int32) = (0 : Int32)))).1) ?_
    show Steps p.tables e below (T4.setTop (mkF m 46 #[.val (.int p1), .val (.int p2), .val (.int p3), .val (.int (2 : Int32)), .val (.int (p2 &&& (2147483647 : Int32))), .val (.int (p3 &&& (2147483647 : Int32))), .val (.double (4602678819172646912 : UInt64)), .second, .val (.ref b1), .unset] [])) _
    refine XS.iload X4.here hx rfl (hb hby at_46) rfl ?_
    refine XS.ifNo X4.here hx rfl (hb hby at_48) rfl ((if0 _ _).trans (feq (cc1 : ¬ ((p2 &&& (2147483647 : Int32)) = (0 : Int32)))).1) ?_
    refine XS.iload X4.here hx rfl (hb hby at_51) rfl ?_
    refine XS.ifYes X4.here hx rfl (pc0 := 53) (pc' := 60) rfl (hb hby at_53) rfl ((if0 _ _).trans (teq (cc2 : (p3 &&& (2147483647 : Int32)) = (0 : Int32))).1) (by decide) (by decide) ?_
    refine XS.iconst X4.here hx rfl (hb hby at_60) ?_
    refine XS.istore X4.here hx rfl (hb hby at_61) rfl (l' := #[.val (.int p1), .val (.int p2), .val (.int p3), .val (.int (2 : Int32)), .val (.int (p2 &&& (2147483647 : Int32))), .val (.int (p3 &&& (2147483647 : Int32))), .val (.double (4602678819172646912 : UInt64)), .second, .val (.ref b1), .val (.int (0 : Int32))]) rfl ?_
    refine XS.aload X4.here hx rfl (hb hby at_63) rfl rfl ?_
    refine st7 _ ?_
    refine XS.iload X7.here hx rfl (hb hby at_68) rfl ?_
    refine XS.icmpNo X7.here hx rfl (hb hby at_70) rfl (teq ((by decide : (0 : Int32) = (0 : Int32)) : (0 : Int32) = (0 : Int32))).2 ?_
    refine XS.iconst X7.here hx rfl (hb hby at_73) ?_
    refine XS.goto X7.here hx rfl (pc0 := 74) (pc' := 78) rfl (hb hby at_74) (by decide) (by decide) ?_
    show Steps p.tables e below (T7.setTop (mkF m 78 #[.val (.int p1), .val (.int p2), .val (.int p3), .val (.int (2 : Int32)), .val (.int (p2 &&& (2147483647 : Int32))), .val (.int (p3 &&& (2147483647 : Int32))), .val (.double (4602678819172646912 : UInt64)), .second, .val (.ref b1), .val (.int (0 : Int32))] [(.int (1 : Int32))])) _
    exact retN X7 hx (t := .boolean) hret (by simp) (hb hby at_78) hr
-- com/example/informal_search/informalsearch/ranking/Feedback.expands()Z
abbrev Rm11 : Room := { frames := 0, cells := 0, slots := 0, locals := 0 }
def Q11 (Z : State) (a1 : Addr) (p3 : Int32) (p6 : Int32) (h0 : Heap) (n0 : Nat) (v : Option Value) (h : Heap) (L : List Loc) : Prop := v = some (.int (1 : Int32)) ∧ Fr n0 L ∧ h = h0
theorem ef11 (a1 : Addr) (m : MethodId) : entryFrame m #[(.ref a1)] 1 = mkF m 0 #[.val (.ref a1)] [] := by first | (simp [entryFrame, mkF, argsToLocals, Value.category]; done) | rfl
theorem rm11 (l : Launch) (Z : State) (a0 : Array Value) (hw : ∀ d ∈ tables_1, d.before a0 Z = true) (ws : List Jvm.Cond) (a1 : Addr) (p3 : Int32) (p6 : Int32) (h0 : Heap) (n0 : Nat) (Z0 : n0 ≤ h0.size) (F_weight_a1 : Fld Z h0 a1 "com/example/informal_search/informalsearch/ranking/Feedback" "weight" "D" (.double (4602678819172646912 : UInt64))) (F_entities_a1 : Fld Z h0 a1 "com/example/informal_search/informalsearch/ranking/Feedback" "entities" "I" (.int p3)) (c5 : (0 : Int32) < p3) (F_terms_a1 : Fld Z h0 a1 "com/example/informal_search/informalsearch/ranking/Feedback" "terms" "I" (.int p6)) (c8 : (0 : Int32) < p6) :
    OwnMet l Z y_2 prog_62_method_2_code 1 (some .boolean) ws Rm11 #[(.ref a1)] h0 (Q11 Z a1 p3 p6 h0 n0) := by
  refine own_body (plainFor_of_name pn_1) (ef11 a1) ?_
  intro p e s m below meth c s₁ hx hby hml hown hnm hret hZ X0 e0
  have N0 := Fr.nil n0
  obtain ⟨T2, X2, e2, st2⟩ := getF X0 hx hZ hown (host := "") (Or.inl (w_16 hw)) Via.refl e0 F_weight_a1 (g := (mkF m 1 #[.val (.ref a1)] [(.ref a1)])) rfl rfl (hb hby d4_1)
  obtain ⟨T4, X4, e4, st4⟩ := getF X2 hx hZ hown (host := "") (Or.inl (w_18 hw)) Via.refl e2 F_entities_a1 (g := (mkF m 10 #[.val (.ref a1)] [(.ref a1)])) rfl rfl (hb hby d4_10)
  obtain ⟨T7, X7, e7, st7⟩ := getF X4 hx hZ hown (host := "") (Or.inl (w_20 hw)) Via.refl e4 F_terms_a1 (g := (mkF m 17 #[.val (.ref a1)] [(.ref a1)])) rfl rfl (hb hby d4_17)
  refine ⟨T7, _, _, _, (some (.int (1 : Int32))), X7, nofun, by decide, by decide, ?_, fun fs hr => ?_⟩
  · show Q11 Z a1 p3 p6 h0 n0 _ T7.heap _
    rw [e7]
    exact ⟨rfl, N0, rfl⟩
  · show Steps p.tables e below (s₁.setTop (mkF m 0 #[.val (.ref a1)] [])) _
    refine XS.aloadN X0.here hx rfl (hb hby d4_0) rfl rfl ?_
    refine st2 _ ?_
    refine XS.dconst0 X2.here hx rfl (hb hby d4_4) rfl ?_
    refine XS.dcmpS X2.here hx rfl (hb hby d4_5) rfl (by decide +kernel : (cmpValue (FP.dcmp (4602678819172646912 : UInt64) (0 : UInt64)) .l) = (1 : Int32)) ?_
    refine XS.ifNo X2.here hx rfl (hb hby d4_6) rfl ((if0 _ _).trans (tlt ((by decide : (0 : Int32) < (1 : Int32)) : (0 : Int32) < (1 : Int32))).2.2.2) ?_
    refine XS.aloadN X2.here hx rfl (hb hby d4_9) rfl rfl ?_
    refine st4 _ ?_
    refine XS.ifNo X4.here hx rfl (hb hby d4_13) rfl ((if0 _ _).trans (tlt (c5 : (0 : Int32) < p3)).2.2.2) ?_
    refine XS.aloadN X4.here hx rfl (hb hby d4_16) rfl rfl ?_
    refine st7 _ ?_
    refine XS.ifNo X7.here hx rfl (hb hby d4_20) rfl ((if0 _ _).trans (tlt (c8 : (0 : Int32) < p6)).2.2.2) ?_
    refine XS.iconst X7.here hx rfl (hb hby d4_23) ?_
    show Steps p.tables e below (T7.setTop (mkF m 24 #[.val (.ref a1)] [(.int (1 : Int32))])) _
    refine XS.goto X7.here hx rfl (pc0 := 24) (pc' := 28) rfl (hb hby d4_24) (by decide) (by decide) ?_
    exact retN X7 hx (t := .boolean) hret (by simp) (hb hby d4_28) hr
theorem rm0_6 (l : Launch) (Z : State) (a0 : Array Value) (hw : ∀ d ∈ tables_1, d.before a0 Z = true) (ws : List Jvm.Cond) (p1 : Int32) (p2 : Int32) (p3 : Int32) (h0 : Heap) (n0 : Nat) (Z0 : n0 ≤ h0.size) (Od0 : Old Z n0 h0) (hk : ((p1 &&& (2147483647 : Int32)) - ((p1 &&& (2147483647 : Int32)) / (5 : Int32)) * (5 : Int32)) = (2 : Int32)) (cc1 : ¬ ((p2 &&& (2147483647 : Int32)) = (0 : Int32))) (cc2 : ¬ ((p3 &&& (2147483647 : Int32)) = (0 : Int32))) :
    OwnMet l Z x code maxLocals ret ws room_1 #[(.int p1), (.int p2), (.int p3)] h0 (Q0 n0) := by
  refine own_body (plainFor_of_name pn_2) (ef0 p1 p2 p3) ?_
  intro p e s m below meth c s₁ hx hby hml hown hnm hret hZ X0 e0
  have N0 := Fr.nil n0
  obtain ⟨T1, h1, X1, e1, E1, A1, D1, -, st1⟩ := newO X0 hx hZ hown (w_2 hw) (w_3 hw) (w_4 hw) e0 (g := (mkF m 27 #[.val (.int p1), .val (.int p2), .val (.int p3), .val (.int (2 : Int32)), .val (.int (p2 &&& (2147483647 : Int32))), .val (.int (p3 &&& (2147483647 : Int32))), .val (.double (4602678819172646912 : UInt64)), .second, .unset, .unset] [])) rfl (hb hby at_27) (by decide) (by decide)
  obtain ⟨b1, g1⟩ : ∃ z, z = h0.size := ⟨_, rfl⟩
  rw [← g1] at A1 D1 st1
  have s0 := E1.1
  have Fn1_weight : Fld Z h1 b1 "com/example/informal_search/informalsearch/ranking/Feedback" "weight" "D" (.double (0 : UInt64)) := D1 (Or.inr (w_17 hw)) (ty := .double) (by decide)
  have Fn1_entities : Fld Z h1 b1 "com/example/informal_search/informalsearch/ranking/Feedback" "entities" "I" (.int (0 : Int32)) := D1 (Or.inr (w_19 hw)) (ty := .int) (by decide)
  have Fn1_terms : Fld Z h1 b1 "com/example/informal_search/informalsearch/ranking/Feedback" "terms" "I" (.int (0 : Int32)) := D1 (Or.inr (w_21 hw)) (ty := .int) (by decide)
  have cd2 : ¬ ((p2 &&& (2147483647 : Int32)) < (0 : Int32)) := (by rw [Int32.lt_iff_toInt_lt]; have := rng32 (p2 &&& (2147483647 : Int32)); have := rng32 p2; have := own_mask p2 (2147483647 : Int32) 31 (by decide) (by decide) 2147483648 (by decide); have : ((0 : Int32)).toInt = 0 := (by decide); omega)
  have cd3 : ¬ ((p3 &&& (2147483647 : Int32)) < (0 : Int32)) := (by rw [Int32.lt_iff_toInt_lt]; have := rng32 (p3 &&& (2147483647 : Int32)); have := rng32 p3; have := own_mask p3 (2147483647 : Int32) 31 (by decide) (by decide) 2147483648 (by decide); have : ((0 : Int32)).toInt = 0 := (by decide); omega)
  have g_b1 : n0 ≤ b1 := Nat.le_trans Z0 (Nat.le_of_eq g1.symm)
  have z1 := Nat.le_trans Z0 s0
  obtain ⟨_, T4, L4, X4, hQ4, st4⟩ := own_special X1 hx hZ hown (y := y_1) (a := b1) (w_5 hw) (w_6 hw) (w_4 hw) (w_7 hw) (rm8 l Z a0 hw [] b1 (p2 &&& (2147483647 : Int32)) (p3 &&& (2147483647 : Int32)) h1 n0 z1 cd2 cd3 Fn1_weight A1 g_b1 Fn1_entities Fn1_terms) e1 (Ls := #[.val (.int p1), .val (.int p2), .val (.int p3), .val (.int (2 : Int32)), .val (.int (p2 &&& (2147483647 : Int32))), .val (.int (p3 &&& (2147483647 : Int32))), .val (.double (4602678819172646912 : UInt64)), .second, .unset, .unset]) (by rw [hml]; rfl) (argsL := [(.double (4602678819172646912 : UInt64)), (.int (p2 &&& (2147483647 : Int32))), (.int (p3 &&& (2147483647 : Int32)))]) (rest := [(.ref b1)]) (lenOf pd_1 rfl) (hb hby at_37) (W := 1)
  obtain ⟨rfl, Nq4, K4, o4_0, o4_1, o4_2, o4_3⟩ := hQ4
  have N4 := Fr.app N0 Nq4
  have s1 := K4.1
  have cd5 : (0 : Int32) < (p2 &&& (2147483647 : Int32)) := (by rw [Int32.lt_iff_toInt_lt]; have hz : ((p2 &&& (2147483647 : Int32))).toInt ≠ ((0 : Int32)).toInt := fun q => cc1 (Int32.toInt_inj.mp q); have : ((0 : Int32)).toInt = 0 := (by decide); have := rng32 (p2 &&& (2147483647 : Int32)); have := rng32 p2; have := own_mask p2 (2147483647 : Int32) 31 (by decide) (by decide) 2147483648 (by decide); omega)
  have cd6 : (0 : Int32) < (p3 &&& (2147483647 : Int32)) := (by rw [Int32.lt_iff_toInt_lt]; have hz : ((p3 &&& (2147483647 : Int32))).toInt ≠ ((0 : Int32)).toInt := fun q => cc2 (Int32.toInt_inj.mp q); have : ((0 : Int32)).toInt = 0 := (by decide); have := rng32 (p3 &&& (2147483647 : Int32)); have := rng32 p3; have := own_mask p3 (2147483647 : Int32) 31 (by decide) (by decide) 2147483648 (by decide); omega)
  have z2 := Nat.le_trans Z0 (Nat.le_trans s0 s1)
  obtain ⟨_, T7, L7, X7, hQ7, st7⟩ := own_virtual X4 hx hZ hown (y := y_2) (z := y_2) o4_0 (w_22 hw) (w_23 hw) (notFace_of_selects (args := #[]) (mvT hZ (w_25 hw))) (w_25 hw) (w_24 hw) (w_4 hw) (w_26 hw) (rm11 l Z a0 hw [] b1 (p2 &&& (2147483647 : Int32)) (p3 &&& (2147483647 : Int32)) T4.heap n0 z2 o4_3 o4_1 cd5 o4_2 cd6) rfl (Ls := #[.val (.int p1), .val (.int p2), .val (.int p3), .val (.int (2 : Int32)), .val (.int (p2 &&& (2147483647 : Int32))), .val (.int (p3 &&& (2147483647 : Int32))), .val (.double (4602678819172646912 : UInt64)), .second, .val (.ref b1), .val (.int (1 : Int32))]) (by rw [hml]; rfl) (argsL := []) (rest := []) (lenOf pd_2 rfl) (hb hby at_65) (W := 0)
  obtain ⟨rfl, Nq7, e7⟩ := hQ7
  have N7 := Fr.app N4 Nq7
  refine ⟨T7, _, _, _, (some (.int (1 : Int32))), X7, nofun, by decide, by decide, ?_, fun fs hr => ?_⟩
  · show Q0 n0 _ T7.heap _
    rw [e7]
    exact ⟨rfl, N7⟩
  · show Steps p.tables e below (s₁.setTop (mkF m 0 #[.val (.int p1), .val (.int p2), .val (.int p3), .unset, .unset, .unset, .unset, .unset, .unset, .unset] [])) _
    refine XS.iloadN X0.here hx rfl (hb hby at_0) rfl ?_
    refine X0.ldcInt hx hown (mvT hZ (w_0 hw)) (g := (mkF m 1 #[.val (.int p1), .val (.int p2), .val (.int p3), .unset, .unset, .unset, .unset, .unset, .unset, .unset] [(.int p1)])) rfl (hb hby at_1) _ ?_
    refine XS.iand X0.here hx rfl (hb hby at_3) rfl ?_
    refine XS.iconst X0.here hx rfl (hb hby at_4) ?_
    refine XS.irem X0.here hx rfl (hb hby at_5) rfl (by decide : ¬ ((5 : Int32) = (0 : Int32))) ?_
    show Steps p.tables e below (s₁.setTop (mkF m 6 #[.val (.int p1), .val (.int p2), .val (.int p3), .unset, .unset, .unset, .unset, .unset, .unset, .unset] [(.int ((p1 &&& (2147483647 : Int32)) - ((p1 &&& (2147483647 : Int32)) / (5 : Int32)) * (5 : Int32)))])) _
    rw [hk]
    refine XS.istoreN X0.here hx rfl (hb hby at_6) rfl (l' := #[.val (.int p1), .val (.int p2), .val (.int p3), .val (.int (2 : Int32)), .unset, .unset, .unset, .unset, .unset, .unset]) rfl ?_
    refine XS.iloadN X0.here hx rfl (hb hby at_7) rfl ?_
    refine X0.ldcInt hx hown (mvT hZ (w_0 hw)) (g := (mkF m 8 #[.val (.int p1), .val (.int p2), .val (.int p3), .val (.int (2 : Int32)), .unset, .unset, .unset, .unset, .unset, .unset] [(.int p2)])) rfl (hb hby at_8) _ ?_
    refine XS.iand X0.here hx rfl (hb hby at_10) rfl ?_
    refine XS.istore X0.here hx rfl (hb hby at_11) rfl (l' := #[.val (.int p1), .val (.int p2), .val (.int p3), .val (.int (2 : Int32)), .val (.int (p2 &&& (2147483647 : Int32))), .unset, .unset, .unset, .unset, .unset]) rfl ?_
    refine XS.iloadN X0.here hx rfl (hb hby at_13) rfl ?_
    refine X0.ldcInt hx hown (mvT hZ (w_0 hw)) (g := (mkF m 14 #[.val (.int p1), .val (.int p2), .val (.int p3), .val (.int (2 : Int32)), .val (.int (p2 &&& (2147483647 : Int32))), .unset, .unset, .unset, .unset, .unset] [(.int p3)])) rfl (hb hby at_14) _ ?_
    refine XS.iand X0.here hx rfl (hb hby at_16) rfl ?_
    refine XS.istore X0.here hx rfl (hb hby at_17) rfl (l' := #[.val (.int p1), .val (.int p2), .val (.int p3), .val (.int (2 : Int32)), .val (.int (p2 &&& (2147483647 : Int32))), .val (.int (p3 &&& (2147483647 : Int32))), .unset, .unset, .unset, .unset]) rfl ?_
    refine XS.iloadN X0.here hx rfl (hb hby at_19) rfl ?_
    refine XS.i2dS X0.here hx rfl (hb hby at_20) rfl (by decide +kernel : (FP.i2d (2 : Int32)) = (4611686018427387904 : UInt64)) ?_
    show Steps p.tables e below (s₁.setTop (mkF m 21 #[.val (.int p1), .val (.int p2), .val (.int p3), .val (.int (2 : Int32)), .val (.int (p2 &&& (2147483647 : Int32))), .val (.int (p3 &&& (2147483647 : Int32))), .unset, .unset, .unset, .unset] [(.double (4611686018427387904 : UInt64))])) _
    refine X0.ldc2DoubleC hx hown (mvT hZ (w_1 hw)) (g := (mkF m 21 #[.val (.int p1), .val (.int p2), .val (.int p3), .val (.int (2 : Int32)), .val (.int (p2 &&& (2147483647 : Int32))), .val (.int (p3 &&& (2147483647 : Int32))), .unset, .unset, .unset, .unset] [(.double (4611686018427387904 : UInt64))])) rfl (hb hby at_21) _ ?_
    refine XS.ddivS X0.here hx rfl (hb hby at_24) rfl (by decide +kernel) (by decide +kernel : (FP.ddiv (4611686018427387904 : UInt64) (4616189618054758400 : UInt64)) = (4602678819172646912 : UInt64)) ?_
    refine XS.dstore X0.here hx rfl (hb hby at_25) rfl (l' := #[.val (.int p1), .val (.int p2), .val (.int p3), .val (.int (2 : Int32)), .val (.int (p2 &&& (2147483647 : Int32))), .val (.int (p3 &&& (2147483647 : Int32))), .val (.double (4602678819172646912 : UInt64)), .second, .unset, .unset]) rfl ?_
    refine st1 _ ?_
    refine XS.dup X1.here hx rfl (hb hby at_30) rfl rfl ?_
    refine XS.dload X1.here hx rfl (hb hby at_31) rfl ?_
    refine XS.iload X1.here hx rfl (hb hby at_33) rfl ?_
    refine XS.iload X1.here hx rfl (hb hby at_35) rfl ?_
    refine st4 _ ?_
    refine XS.astore X4.here hx rfl (hb hby at_40) rfl rfl (l' := #[.val (.int p1), .val (.int p2), .val (.int p3), .val (.int (2 : Int32)), .val (.int (p2 &&& (2147483647 : Int32))), .val (.int (p3 &&& (2147483647 : Int32))), .val (.double (4602678819172646912 : UInt64)), .second, .val (.ref b1), .unset]) rfl ?_
    refine XS.iloadN X4.here hx rfl (hb hby at_42) rfl ?_
    refine XS.ifNo X4.here hx rfl (hb hby at_43) rfl ((if0 _ _).trans (feq ((by decide : ¬ ((2 : Int32) = (0 : Int32))) : ¬ ((2 : Int32) = (0 : Int32)))).1) ?_
    show Steps p.tables e below (T4.setTop (mkF m 46 #[.val (.int p1), .val (.int p2), .val (.int p3), .val (.int (2 : Int32)), .val (.int (p2 &&& (2147483647 : Int32))), .val (.int (p3 &&& (2147483647 : Int32))), .val (.double (4602678819172646912 : UInt64)), .second, .val (.ref b1), .unset] [])) _
    refine XS.iload X4.here hx rfl (hb hby at_46) rfl ?_
    refine XS.ifNo X4.here hx rfl (hb hby at_48) rfl ((if0 _ _).trans (feq (cc1 : ¬ ((p2 &&& (2147483647 : Int32)) = (0 : Int32)))).1) ?_
    refine XS.iload X4.here hx rfl (hb hby at_51) rfl ?_
    refine XS.ifNo X4.here hx rfl (hb hby at_53) rfl ((if0 _ _).trans (feq (cc2 : ¬ ((p3 &&& (2147483647 : Int32)) = (0 : Int32)))).1) ?_
    refine XS.iconst X4.here hx rfl (hb hby at_56) ?_
    refine XS.goto X4.here hx rfl (pc0 := 57) (pc' := 61) rfl (hb hby at_57) (by decide) (by decide) ?_
    refine XS.istore X4.here hx rfl (hb hby at_61) rfl (l' := #[.val (.int p1), .val (.int p2), .val (.int p3), .val (.int (2 : Int32)), .val (.int (p2 &&& (2147483647 : Int32))), .val (.int (p3 &&& (2147483647 : Int32))), .val (.double (4602678819172646912 : UInt64)), .second, .val (.ref b1), .val (.int (1 : Int32))]) rfl ?_
    refine XS.aload X4.here hx rfl (hb hby at_63) rfl rfl ?_
    refine st7 _ ?_
    refine XS.iload X7.here hx rfl (hb hby at_68) rfl ?_
    refine XS.icmpNo X7.here hx rfl (hb hby at_70) rfl (teq ((by decide : (1 : Int32) = (1 : Int32)) : (1 : Int32) = (1 : Int32))).2 ?_
    refine XS.iconst X7.here hx rfl (hb hby at_73) ?_
    show Steps p.tables e below (T7.setTop (mkF m 74 #[.val (.int p1), .val (.int p2), .val (.int p3), .val (.int (2 : Int32)), .val (.int (p2 &&& (2147483647 : Int32))), .val (.int (p3 &&& (2147483647 : Int32))), .val (.double (4602678819172646912 : UInt64)), .second, .val (.ref b1), .val (.int (1 : Int32))] [(.int (1 : Int32))])) _
    refine XS.goto X7.here hx rfl (pc0 := 74) (pc' := 78) rfl (hb hby at_74) (by decide) (by decide) ?_
    exact retN X7 hx (t := .boolean) hret (by simp) (hb hby at_78) hr
-- com/example/informal_search/informalsearch/ranking/Feedback.<init>(DII)V
abbrev Rm12 : Room := { frames := 2, cells := 0, slots := 0, locals := 24 }
def Q12 (Z : State) (a1 : Addr) (p2 : Int32) (p3 : Int32) (h0 : Heap) (n0 : Nat) (v : Option Value) (h : Heap) (L : List Loc) : Prop := v = none ∧ Fr n0 L ∧ Keep h0 h [a1] ∧ Exa Z h a1 "com/example/informal_search/informalsearch/ranking/Feedback" ∧ Fld Z h a1 "com/example/informal_search/informalsearch/ranking/Feedback" "entities" "I" (.int p2) ∧ Fld Z h a1 "com/example/informal_search/informalsearch/ranking/Feedback" "terms" "I" (.int p3) ∧ Fld Z h a1 "com/example/informal_search/informalsearch/ranking/Feedback" "weight" "D" (.double (4604930618986332160 : UInt64))
theorem ef12 (a1 : Addr) (p2 : Int32) (p3 : Int32) (m : MethodId) : entryFrame m #[(.ref a1), (.double (4604930618986332160 : UInt64)), (.int p2), (.int p3)] 5 = mkF m 0 #[.val (.ref a1), .val (.double (4604930618986332160 : UInt64)), .second, .val (.int p2), .val (.int p3)] [] := by first | (simp [entryFrame, mkF, argsToLocals, Value.category]; done) | rfl
theorem rm12 (l : Launch) (Z : State) (a0 : Array Value) (hw : ∀ d ∈ tables_1, d.before a0 Z = true) (ws : List Jvm.Cond) (a1 : Addr) (p2 : Int32) (p3 : Int32) (h0 : Heap) (n0 : Nat) (Z0 : n0 ≤ h0.size) (c5 : ¬ (p2 < (0 : Int32))) (c6 : ¬ (p3 < (0 : Int32))) (F_weight_a1 : Fld Z h0 a1 "com/example/informal_search/informalsearch/ranking/Feedback" "weight" "D" (.double (0 : UInt64))) (E_a1 : Exa Z h0 a1 "com/example/informal_search/informalsearch/ranking/Feedback") (g_a1 : n0 ≤ a1) (F_entities_a1 : Fld Z h0 a1 "com/example/informal_search/informalsearch/ranking/Feedback" "entities" "I" (.int (0 : Int32))) (F_terms_a1 : Fld Z h0 a1 "com/example/informal_search/informalsearch/ranking/Feedback" "terms" "I" (.int (0 : Int32))) :
    OwnMet l Z y_1 prog_62_method_1_code 5 none ws Rm12 #[(.ref a1), (.double (4604930618986332160 : UInt64)), (.int p2), (.int p3)] h0 (Q12 Z a1 p2 p3 h0 n0) := by
  refine own_body (plainFor_of_name pn_1) (ef12 a1 p2 p3) ?_
  intro p e s m below meth c s₁ hx hby hml hown hnm hret hZ X0 e0
  have N0 := Fr.nil n0
  obtain ⟨_, T4, L4, X4, hQ4, st4⟩ := own_special X0 hx hZ hown (y := y_0) (a := a1) (w_8 hw) (w_9 hw) (w_11 hw) (w_12 hw) (rm1 l Z a0 hw [] a1 h0 n0 Z0) e0 (Ls := #[.val (.ref a1), .val (.double (4604930618986332160 : UInt64)), .second, .val (.int p2), .val (.int p3)]) (by rw [hml]; rfl) (argsL := []) (rest := []) (lenOf pd_0 rfl) (hb hby d1_1) (W := 0)
  obtain ⟨rfl, Nq4, e4⟩ := hQ4
  have N4 := Fr.app N0 Nq4
  obtain ⟨T7, h7, X7, e7, W7, st7⟩ := putF X4 hx hZ hown (host := "") (Or.inl (w_16 hw)) Via.refl e4 F_weight_a1 E_a1 (Or.inr ⟨(w_17 hw), rfl, hnm⟩) (w_3 hw) (ty := .double) (by decide) rfl rfl (g := (mkF m 57 #[.val (.ref a1), .val (.double (4604930618986332160 : UInt64)), .second, .val (.int p2), .val (.int p3)] [(.double (4604930618986332160 : UInt64)), (.ref a1)])) rfl rfl (hb hby d1_57)
  have s0 := (Keep.of_wr W7).1
  have N7 := Fr.snoc X7 N4 g_a1
  have Fw7 : Fld Z h7 a1 "com/example/informal_search/informalsearch/ranking/Feedback" "weight" "D" (.double (4604930618986332160 : UInt64)) := F_weight_a1.same W7
  have Ex8 := (E_a1.wr W7)
  have Fl9 := (F_entities_a1.other W7 (Or.inr (slot_ne (Or.inr (w_19 hw)) (Or.inr (w_17 hw)) (by decide) (t := .int) (t' := .double) (by decide) (by decide))))
  obtain ⟨T10, h10, X10, e10, W10, st10⟩ := putF X7 hx hZ hown (host := "") (Or.inl (w_18 hw)) Via.refl e7 Fl9 Ex8 (Or.inr ⟨(w_19 hw), rfl, hnm⟩) (w_3 hw) (ty := .int) (by decide) rfl rfl (g := (mkF m 62 #[.val (.ref a1), .val (.double (4604930618986332160 : UInt64)), .second, .val (.int p2), .val (.int p3)] [(.int p2), (.ref a1)])) rfl rfl (hb hby d1_62)
  have s1 := (Keep.of_wr W10).1
  have N10 := Fr.snoc X10 N7 g_a1
  have Fw10 : Fld Z h10 a1 "com/example/informal_search/informalsearch/ranking/Feedback" "entities" "I" (.int p2) := Fl9.same W10
  have Ex11 := (Ex8.wr W10)
  have Fl12 := ((F_terms_a1.other W7 (Or.inr (slot_ne (Or.inr (w_21 hw)) (Or.inr (w_17 hw)) (by decide) (t := .int) (t' := .double) (by decide) (by decide)))).other W10 (Or.inr (slot_ne (Or.inr (w_21 hw)) (Or.inr (w_19 hw)) (by decide) (t := .int) (t' := .int) (by decide) (by decide))))
  obtain ⟨T13, h13, X13, e13, W13, st13⟩ := putF X10 hx hZ hown (host := "") (Or.inl (w_20 hw)) Via.refl e10 Fl12 Ex11 (Or.inr ⟨(w_21 hw), rfl, hnm⟩) (w_3 hw) (ty := .int) (by decide) rfl rfl (g := (mkF m 68 #[.val (.ref a1), .val (.double (4604930618986332160 : UInt64)), .second, .val (.int p2), .val (.int p3)] [(.int p3), (.ref a1)])) rfl rfl (hb hby d1_68)
  have s2 := (Keep.of_wr W13).1
  have N13 := Fr.snoc X13 N10 g_a1
  have Fw13 : Fld Z h13 a1 "com/example/informal_search/informalsearch/ranking/Feedback" "terms" "I" (.int p3) := Fl12.same W13
  have Ex14 := (Ex11.wr W13)
  have Fl15 := (Fw10.other W13 (Or.inr (slot_ne (Or.inr (w_19 hw)) (Or.inr (w_21 hw)) (by decide) (t := .int) (t' := .int) (by decide) (by decide))))
  have Fl16 := ((Fw7.other W10 (Or.inr (slot_ne (Or.inr (w_17 hw)) (Or.inr (w_19 hw)) (by decide) (t := .double) (t' := .int) (by decide) (by decide)))).other W13 (Or.inr (slot_ne (Or.inr (w_17 hw)) (Or.inr (w_21 hw)) (by decide) (t := .double) (t' := .int) (by decide) (by decide))))
  have Kp0 : Keep h0 h7 [a1] := (Keep.refl h0 [a1]).wr W7 (Or.inl (List.mem_of_getElem? (i := 0) rfl))
  have Kp1 : Keep h0 h10 [a1] := Kp0.wr W10 (Or.inl (List.mem_of_getElem? (i := 0) rfl))
  have Kp2 : Keep h0 h13 [a1] := Kp1.wr W13 (Or.inl (List.mem_of_getElem? (i := 0) rfl))
  refine ⟨T13, _, _, _, none, X13, (fun _ => rfl), by decide, by decide, ?_, fun fs hr => ?_⟩
  · show Q12 Z a1 p2 p3 h0 n0 _ T13.heap _
    rw [e13]
    exact ⟨rfl, N13, Kp2, Ex14, Fl15, Fw13, Fl16⟩
  · show Steps p.tables e below (s₁.setTop (mkF m 0 #[.val (.ref a1), .val (.double (4604930618986332160 : UInt64)), .second, .val (.int p2), .val (.int p3)] [])) _
    refine XS.aloadN X0.here hx rfl (hb hby d1_0) rfl rfl ?_
    refine st4 _ ?_
    refine XS.dloadN X4.here hx rfl (hb hby d1_4) rfl ?_
    refine XS.dconst0 X4.here hx rfl (hb hby d1_5) rfl ?_
    refine XS.dcmpS X4.here hx rfl (hb hby d1_6) rfl (by decide +kernel : (cmpValue (FP.dcmp (4604930618986332160 : UInt64) (0 : UInt64)) .l) = (1 : Int32)) ?_
    refine XS.ifNo X4.here hx rfl (hb hby d1_7) rfl ((if0 _ _).trans (flt ((by decide : ¬ ((1 : Int32) < (0 : Int32))) : ¬ ((1 : Int32) < (0 : Int32)))).1) ?_
    refine XS.dloadN X4.here hx rfl (hb hby d1_10) rfl ?_
    refine XS.dconst1 X4.here hx rfl (hb hby d1_11) rfl ?_
    refine XS.dcmpS X4.here hx rfl (hb hby d1_12) rfl (by decide +kernel : (cmpValue (FP.dcmp (4604930618986332160 : UInt64) (4607182418800017408 : UInt64)) .g) = (-1 : Int32)) ?_
    refine XS.ifYes X4.here hx rfl (pc0 := 13) (pc' := 30) rfl (hb hby d1_13) rfl ((if0 _ _).trans (flt ((by decide : ¬ ((0 : Int32) < (-1 : Int32))) : ¬ ((0 : Int32) < (-1 : Int32)))).2.2.2) (by decide) (by decide) ?_
    refine XS.iloadN X4.here hx rfl (hb hby d1_30) rfl ?_
    refine XS.ifNo X4.here hx rfl (hb hby d1_31) rfl ((if0 _ _).trans (flt (c5 : ¬ (p2 < (0 : Int32)))).1) ?_
    show Steps p.tables e below (T4.setTop (mkF m 34 #[.val (.ref a1), .val (.double (4604930618986332160 : UInt64)), .second, .val (.int p2), .val (.int p3)] [])) _
    refine XS.iload X4.here hx rfl (hb hby d1_34) rfl ?_
    refine XS.ifYes X4.here hx rfl (pc0 := 36) (pc' := 55) rfl (hb hby d1_36) rfl ((if0 _ _).trans (flt (c6 : ¬ (p3 < (0 : Int32)))).2.1) (by decide) (by decide) ?_
    refine XS.aloadN X4.here hx rfl (hb hby d1_55) rfl rfl ?_
    refine XS.dloadN X4.here hx rfl (hb hby d1_56) rfl ?_
    refine st7 _ ?_
    refine XS.aloadN X7.here hx rfl (hb hby d1_60) rfl rfl ?_
    refine XS.iloadN X7.here hx rfl (hb hby d1_61) rfl ?_
    refine st10 _ ?_
    refine XS.aloadN X10.here hx rfl (hb hby d1_65) rfl rfl ?_
    refine XS.iload X10.here hx rfl (hb hby d1_66) rfl ?_
    refine st13 _ ?_
    exact X13.returnOut hx hret (hb hby d1_71) hr
-- com/example/informal_search/informalsearch/ranking/Feedback.expands()Z
abbrev Rm13 : Room := { frames := 0, cells := 0, slots := 0, locals := 0 }
def Q13 (Z : State) (a1 : Addr) (p3 : Int32) (h0 : Heap) (n0 : Nat) (v : Option Value) (h : Heap) (L : List Loc) : Prop := v = some (.int (0 : Int32)) ∧ Fr n0 L ∧ h = h0
theorem ef13 (a1 : Addr) (m : MethodId) : entryFrame m #[(.ref a1)] 1 = mkF m 0 #[.val (.ref a1)] [] := by first | (simp [entryFrame, mkF, argsToLocals, Value.category]; done) | rfl
theorem rm13 (l : Launch) (Z : State) (a0 : Array Value) (hw : ∀ d ∈ tables_1, d.before a0 Z = true) (ws : List Jvm.Cond) (a1 : Addr) (p3 : Int32) (h0 : Heap) (n0 : Nat) (Z0 : n0 ≤ h0.size) (F_weight_a1 : Fld Z h0 a1 "com/example/informal_search/informalsearch/ranking/Feedback" "weight" "D" (.double (4604930618986332160 : UInt64))) (F_entities_a1 : Fld Z h0 a1 "com/example/informal_search/informalsearch/ranking/Feedback" "entities" "I" (.int p3)) (c5 : ¬ ((0 : Int32) < p3)) :
    OwnMet l Z y_2 prog_62_method_2_code 1 (some .boolean) ws Rm13 #[(.ref a1)] h0 (Q13 Z a1 p3 h0 n0) := by
  refine own_body (plainFor_of_name pn_1) (ef13 a1) ?_
  intro p e s m below meth c s₁ hx hby hml hown hnm hret hZ X0 e0
  have N0 := Fr.nil n0
  obtain ⟨T2, X2, e2, st2⟩ := getF X0 hx hZ hown (host := "") (Or.inl (w_16 hw)) Via.refl e0 F_weight_a1 (g := (mkF m 1 #[.val (.ref a1)] [(.ref a1)])) rfl rfl (hb hby d4_1)
  obtain ⟨T4, X4, e4, st4⟩ := getF X2 hx hZ hown (host := "") (Or.inl (w_18 hw)) Via.refl e2 F_entities_a1 (g := (mkF m 10 #[.val (.ref a1)] [(.ref a1)])) rfl rfl (hb hby d4_10)
  refine ⟨T4, _, _, _, (some (.int (0 : Int32))), X4, nofun, by decide, by decide, ?_, fun fs hr => ?_⟩
  · show Q13 Z a1 p3 h0 n0 _ T4.heap _
    rw [e4]
    exact ⟨rfl, N0, rfl⟩
  · show Steps p.tables e below (s₁.setTop (mkF m 0 #[.val (.ref a1)] [])) _
    refine XS.aloadN X0.here hx rfl (hb hby d4_0) rfl rfl ?_
    refine st2 _ ?_
    refine XS.dconst0 X2.here hx rfl (hb hby d4_4) rfl ?_
    refine XS.dcmpS X2.here hx rfl (hb hby d4_5) rfl (by decide +kernel : (cmpValue (FP.dcmp (4604930618986332160 : UInt64) (0 : UInt64)) .l) = (1 : Int32)) ?_
    refine XS.ifNo X2.here hx rfl (hb hby d4_6) rfl ((if0 _ _).trans (tlt ((by decide : (0 : Int32) < (1 : Int32)) : (0 : Int32) < (1 : Int32))).2.2.2) ?_
    refine XS.aloadN X2.here hx rfl (hb hby d4_9) rfl rfl ?_
    refine st4 _ ?_
    refine XS.ifYes X4.here hx rfl (pc0 := 13) (pc' := 27) rfl (hb hby d4_13) rfl ((if0 _ _).trans (flt (c5 : ¬ ((0 : Int32) < p3))).2.2.2) (by decide) (by decide) ?_
    refine XS.iconst X4.here hx rfl (hb hby d4_27) ?_
    exact retN X4 hx (t := .boolean) hret (by simp) (hb hby d4_28) hr
theorem rm0_7 (l : Launch) (Z : State) (a0 : Array Value) (hw : ∀ d ∈ tables_1, d.before a0 Z = true) (ws : List Jvm.Cond) (p1 : Int32) (p2 : Int32) (p3 : Int32) (h0 : Heap) (n0 : Nat) (Z0 : n0 ≤ h0.size) (Od0 : Old Z n0 h0) (hk : ((p1 &&& (2147483647 : Int32)) - ((p1 &&& (2147483647 : Int32)) / (5 : Int32)) * (5 : Int32)) = (3 : Int32)) (cc1 : (p2 &&& (2147483647 : Int32)) = (0 : Int32)) :
    OwnMet l Z x code maxLocals ret ws room_1 #[(.int p1), (.int p2), (.int p3)] h0 (Q0 n0) := by
  refine own_body (plainFor_of_name pn_2) (ef0 p1 p2 p3) ?_
  intro p e s m below meth c s₁ hx hby hml hown hnm hret hZ X0 e0
  have N0 := Fr.nil n0
  obtain ⟨T1, h1, X1, e1, E1, A1, D1, -, st1⟩ := newO X0 hx hZ hown (w_2 hw) (w_3 hw) (w_4 hw) e0 (g := (mkF m 27 #[.val (.int p1), .val (.int p2), .val (.int p3), .val (.int (3 : Int32)), .val (.int (p2 &&& (2147483647 : Int32))), .val (.int (p3 &&& (2147483647 : Int32))), .val (.double (4604930618986332160 : UInt64)), .second, .unset, .unset] [])) rfl (hb hby at_27) (by decide) (by decide)
  obtain ⟨b1, g1⟩ : ∃ z, z = h0.size := ⟨_, rfl⟩
  rw [← g1] at A1 D1 st1
  have s0 := E1.1
  have Fn1_weight : Fld Z h1 b1 "com/example/informal_search/informalsearch/ranking/Feedback" "weight" "D" (.double (0 : UInt64)) := D1 (Or.inr (w_17 hw)) (ty := .double) (by decide)
  have Fn1_entities : Fld Z h1 b1 "com/example/informal_search/informalsearch/ranking/Feedback" "entities" "I" (.int (0 : Int32)) := D1 (Or.inr (w_19 hw)) (ty := .int) (by decide)
  have Fn1_terms : Fld Z h1 b1 "com/example/informal_search/informalsearch/ranking/Feedback" "terms" "I" (.int (0 : Int32)) := D1 (Or.inr (w_21 hw)) (ty := .int) (by decide)
  have cd2 : ¬ ((p2 &&& (2147483647 : Int32)) < (0 : Int32)) := (by rw [Int32.lt_iff_toInt_lt]; have := rng32 (p2 &&& (2147483647 : Int32)); have := rng32 p2; have := own_mask p2 (2147483647 : Int32) 31 (by decide) (by decide) 2147483648 (by decide); have : ((0 : Int32)).toInt = 0 := (by decide); omega)
  have cd3 : ¬ ((p3 &&& (2147483647 : Int32)) < (0 : Int32)) := (by rw [Int32.lt_iff_toInt_lt]; have := rng32 (p3 &&& (2147483647 : Int32)); have := rng32 p3; have := own_mask p3 (2147483647 : Int32) 31 (by decide) (by decide) 2147483648 (by decide); have : ((0 : Int32)).toInt = 0 := (by decide); omega)
  have g_b1 : n0 ≤ b1 := Nat.le_trans Z0 (Nat.le_of_eq g1.symm)
  have z1 := Nat.le_trans Z0 s0
  obtain ⟨_, T4, L4, X4, hQ4, st4⟩ := own_special X1 hx hZ hown (y := y_1) (a := b1) (w_5 hw) (w_6 hw) (w_4 hw) (w_7 hw) (rm12 l Z a0 hw [] b1 (p2 &&& (2147483647 : Int32)) (p3 &&& (2147483647 : Int32)) h1 n0 z1 cd2 cd3 Fn1_weight A1 g_b1 Fn1_entities Fn1_terms) e1 (Ls := #[.val (.int p1), .val (.int p2), .val (.int p3), .val (.int (3 : Int32)), .val (.int (p2 &&& (2147483647 : Int32))), .val (.int (p3 &&& (2147483647 : Int32))), .val (.double (4604930618986332160 : UInt64)), .second, .unset, .unset]) (by rw [hml]; rfl) (argsL := [(.double (4604930618986332160 : UInt64)), (.int (p2 &&& (2147483647 : Int32))), (.int (p3 &&& (2147483647 : Int32)))]) (rest := [(.ref b1)]) (lenOf pd_1 rfl) (hb hby at_37) (W := 1)
  obtain ⟨rfl, Nq4, K4, o4_0, o4_1, o4_2, o4_3⟩ := hQ4
  have N4 := Fr.app N0 Nq4
  have s1 := K4.1
  have cd5 : ¬ ((0 : Int32) < (p2 &&& (2147483647 : Int32))) := (by rw [cc1]; decide)
  have z2 := Nat.le_trans Z0 (Nat.le_trans s0 s1)
  obtain ⟨_, T6, L6, X6, hQ6, st6⟩ := own_virtual X4 hx hZ hown (y := y_2) (z := y_2) o4_0 (w_22 hw) (w_23 hw) (notFace_of_selects (args := #[]) (mvT hZ (w_25 hw))) (w_25 hw) (w_24 hw) (w_4 hw) (w_26 hw) (rm13 l Z a0 hw [] b1 (p2 &&& (2147483647 : Int32)) T4.heap n0 z2 o4_3 o4_1 cd5) rfl (Ls := #[.val (.int p1), .val (.int p2), .val (.int p3), .val (.int (3 : Int32)), .val (.int (p2 &&& (2147483647 : Int32))), .val (.int (p3 &&& (2147483647 : Int32))), .val (.double (4604930618986332160 : UInt64)), .second, .val (.ref b1), .val (.int (0 : Int32))]) (by rw [hml]; rfl) (argsL := []) (rest := []) (lenOf pd_2 rfl) (hb hby at_65) (W := 0)
  obtain ⟨rfl, Nq6, e6⟩ := hQ6
  have N6 := Fr.app N4 Nq6
  refine ⟨T6, _, _, _, (some (.int (1 : Int32))), X6, nofun, by decide, by decide, ?_, fun fs hr => ?_⟩
  · show Q0 n0 _ T6.heap _
    rw [e6]
    exact ⟨rfl, N6⟩
  · show Steps p.tables e below (s₁.setTop (mkF m 0 #[.val (.int p1), .val (.int p2), .val (.int p3), .unset, .unset, .unset, .unset, .unset, .unset, .unset] [])) _
    refine XS.iloadN X0.here hx rfl (hb hby at_0) rfl ?_
    refine X0.ldcInt hx hown (mvT hZ (w_0 hw)) (g := (mkF m 1 #[.val (.int p1), .val (.int p2), .val (.int p3), .unset, .unset, .unset, .unset, .unset, .unset, .unset] [(.int p1)])) rfl (hb hby at_1) _ ?_
    refine XS.iand X0.here hx rfl (hb hby at_3) rfl ?_
    refine XS.iconst X0.here hx rfl (hb hby at_4) ?_
    refine XS.irem X0.here hx rfl (hb hby at_5) rfl (by decide : ¬ ((5 : Int32) = (0 : Int32))) ?_
    show Steps p.tables e below (s₁.setTop (mkF m 6 #[.val (.int p1), .val (.int p2), .val (.int p3), .unset, .unset, .unset, .unset, .unset, .unset, .unset] [(.int ((p1 &&& (2147483647 : Int32)) - ((p1 &&& (2147483647 : Int32)) / (5 : Int32)) * (5 : Int32)))])) _
    rw [hk]
    refine XS.istoreN X0.here hx rfl (hb hby at_6) rfl (l' := #[.val (.int p1), .val (.int p2), .val (.int p3), .val (.int (3 : Int32)), .unset, .unset, .unset, .unset, .unset, .unset]) rfl ?_
    refine XS.iloadN X0.here hx rfl (hb hby at_7) rfl ?_
    refine X0.ldcInt hx hown (mvT hZ (w_0 hw)) (g := (mkF m 8 #[.val (.int p1), .val (.int p2), .val (.int p3), .val (.int (3 : Int32)), .unset, .unset, .unset, .unset, .unset, .unset] [(.int p2)])) rfl (hb hby at_8) _ ?_
    refine XS.iand X0.here hx rfl (hb hby at_10) rfl ?_
    refine XS.istore X0.here hx rfl (hb hby at_11) rfl (l' := #[.val (.int p1), .val (.int p2), .val (.int p3), .val (.int (3 : Int32)), .val (.int (p2 &&& (2147483647 : Int32))), .unset, .unset, .unset, .unset, .unset]) rfl ?_
    refine XS.iloadN X0.here hx rfl (hb hby at_13) rfl ?_
    refine X0.ldcInt hx hown (mvT hZ (w_0 hw)) (g := (mkF m 14 #[.val (.int p1), .val (.int p2), .val (.int p3), .val (.int (3 : Int32)), .val (.int (p2 &&& (2147483647 : Int32))), .unset, .unset, .unset, .unset, .unset] [(.int p3)])) rfl (hb hby at_14) _ ?_
    refine XS.iand X0.here hx rfl (hb hby at_16) rfl ?_
    refine XS.istore X0.here hx rfl (hb hby at_17) rfl (l' := #[.val (.int p1), .val (.int p2), .val (.int p3), .val (.int (3 : Int32)), .val (.int (p2 &&& (2147483647 : Int32))), .val (.int (p3 &&& (2147483647 : Int32))), .unset, .unset, .unset, .unset]) rfl ?_
    refine XS.iloadN X0.here hx rfl (hb hby at_19) rfl ?_
    refine XS.i2dS X0.here hx rfl (hb hby at_20) rfl (by decide +kernel : (FP.i2d (3 : Int32)) = (4613937818241073152 : UInt64)) ?_
    show Steps p.tables e below (s₁.setTop (mkF m 21 #[.val (.int p1), .val (.int p2), .val (.int p3), .val (.int (3 : Int32)), .val (.int (p2 &&& (2147483647 : Int32))), .val (.int (p3 &&& (2147483647 : Int32))), .unset, .unset, .unset, .unset] [(.double (4613937818241073152 : UInt64))])) _
    refine X0.ldc2DoubleC hx hown (mvT hZ (w_1 hw)) (g := (mkF m 21 #[.val (.int p1), .val (.int p2), .val (.int p3), .val (.int (3 : Int32)), .val (.int (p2 &&& (2147483647 : Int32))), .val (.int (p3 &&& (2147483647 : Int32))), .unset, .unset, .unset, .unset] [(.double (4613937818241073152 : UInt64))])) rfl (hb hby at_21) _ ?_
    refine XS.ddivS X0.here hx rfl (hb hby at_24) rfl (by decide +kernel) (by decide +kernel : (FP.ddiv (4613937818241073152 : UInt64) (4616189618054758400 : UInt64)) = (4604930618986332160 : UInt64)) ?_
    refine XS.dstore X0.here hx rfl (hb hby at_25) rfl (l' := #[.val (.int p1), .val (.int p2), .val (.int p3), .val (.int (3 : Int32)), .val (.int (p2 &&& (2147483647 : Int32))), .val (.int (p3 &&& (2147483647 : Int32))), .val (.double (4604930618986332160 : UInt64)), .second, .unset, .unset]) rfl ?_
    refine st1 _ ?_
    refine XS.dup X1.here hx rfl (hb hby at_30) rfl rfl ?_
    refine XS.dload X1.here hx rfl (hb hby at_31) rfl ?_
    refine XS.iload X1.here hx rfl (hb hby at_33) rfl ?_
    refine XS.iload X1.here hx rfl (hb hby at_35) rfl ?_
    refine st4 _ ?_
    refine XS.astore X4.here hx rfl (hb hby at_40) rfl rfl (l' := #[.val (.int p1), .val (.int p2), .val (.int p3), .val (.int (3 : Int32)), .val (.int (p2 &&& (2147483647 : Int32))), .val (.int (p3 &&& (2147483647 : Int32))), .val (.double (4604930618986332160 : UInt64)), .second, .val (.ref b1), .unset]) rfl ?_
    refine XS.iloadN X4.here hx rfl (hb hby at_42) rfl ?_
    refine XS.ifNo X4.here hx rfl (hb hby at_43) rfl ((if0 _ _).trans (feq ((by decide : ¬ ((3 : Int32) = (0 : Int32))) : ¬ ((3 : Int32) = (0 : Int32)))).1) ?_
    show Steps p.tables e below (T4.setTop (mkF m 46 #[.val (.int p1), .val (.int p2), .val (.int p3), .val (.int (3 : Int32)), .val (.int (p2 &&& (2147483647 : Int32))), .val (.int (p3 &&& (2147483647 : Int32))), .val (.double (4604930618986332160 : UInt64)), .second, .val (.ref b1), .unset] [])) _
    refine XS.iload X4.here hx rfl (hb hby at_46) rfl ?_
    refine XS.ifYes X4.here hx rfl (pc0 := 48) (pc' := 60) rfl (hb hby at_48) rfl ((if0 _ _).trans (teq (cc1 : (p2 &&& (2147483647 : Int32)) = (0 : Int32))).1) (by decide) (by decide) ?_
    refine XS.iconst X4.here hx rfl (hb hby at_60) ?_
    refine XS.istore X4.here hx rfl (hb hby at_61) rfl (l' := #[.val (.int p1), .val (.int p2), .val (.int p3), .val (.int (3 : Int32)), .val (.int (p2 &&& (2147483647 : Int32))), .val (.int (p3 &&& (2147483647 : Int32))), .val (.double (4604930618986332160 : UInt64)), .second, .val (.ref b1), .val (.int (0 : Int32))]) rfl ?_
    refine XS.aload X4.here hx rfl (hb hby at_63) rfl rfl ?_
    refine st6 _ ?_
    refine XS.iload X6.here hx rfl (hb hby at_68) rfl ?_
    refine XS.icmpNo X6.here hx rfl (hb hby at_70) rfl (teq ((by decide : (0 : Int32) = (0 : Int32)) : (0 : Int32) = (0 : Int32))).2 ?_
    refine XS.iconst X6.here hx rfl (hb hby at_73) ?_
    refine XS.goto X6.here hx rfl (pc0 := 74) (pc' := 78) rfl (hb hby at_74) (by decide) (by decide) ?_
    exact retN X6 hx (t := .boolean) hret (by simp) (hb hby at_78) hr
-- com/example/informal_search/informalsearch/ranking/Feedback.expands()Z
abbrev Rm14 : Room := { frames := 0, cells := 0, slots := 0, locals := 0 }
def Q14 (Z : State) (a1 : Addr) (p3 : Int32) (p6 : Int32) (h0 : Heap) (n0 : Nat) (v : Option Value) (h : Heap) (L : List Loc) : Prop := v = some (.int (0 : Int32)) ∧ Fr n0 L ∧ h = h0
theorem ef14 (a1 : Addr) (m : MethodId) : entryFrame m #[(.ref a1)] 1 = mkF m 0 #[.val (.ref a1)] [] := by first | (simp [entryFrame, mkF, argsToLocals, Value.category]; done) | rfl
theorem rm14 (l : Launch) (Z : State) (a0 : Array Value) (hw : ∀ d ∈ tables_1, d.before a0 Z = true) (ws : List Jvm.Cond) (a1 : Addr) (p3 : Int32) (p6 : Int32) (h0 : Heap) (n0 : Nat) (Z0 : n0 ≤ h0.size) (F_weight_a1 : Fld Z h0 a1 "com/example/informal_search/informalsearch/ranking/Feedback" "weight" "D" (.double (4604930618986332160 : UInt64))) (F_entities_a1 : Fld Z h0 a1 "com/example/informal_search/informalsearch/ranking/Feedback" "entities" "I" (.int p3)) (c5 : (0 : Int32) < p3) (F_terms_a1 : Fld Z h0 a1 "com/example/informal_search/informalsearch/ranking/Feedback" "terms" "I" (.int p6)) (c8 : ¬ ((0 : Int32) < p6)) :
    OwnMet l Z y_2 prog_62_method_2_code 1 (some .boolean) ws Rm14 #[(.ref a1)] h0 (Q14 Z a1 p3 p6 h0 n0) := by
  refine own_body (plainFor_of_name pn_1) (ef14 a1) ?_
  intro p e s m below meth c s₁ hx hby hml hown hnm hret hZ X0 e0
  have N0 := Fr.nil n0
  obtain ⟨T2, X2, e2, st2⟩ := getF X0 hx hZ hown (host := "") (Or.inl (w_16 hw)) Via.refl e0 F_weight_a1 (g := (mkF m 1 #[.val (.ref a1)] [(.ref a1)])) rfl rfl (hb hby d4_1)
  obtain ⟨T4, X4, e4, st4⟩ := getF X2 hx hZ hown (host := "") (Or.inl (w_18 hw)) Via.refl e2 F_entities_a1 (g := (mkF m 10 #[.val (.ref a1)] [(.ref a1)])) rfl rfl (hb hby d4_10)
  obtain ⟨T7, X7, e7, st7⟩ := getF X4 hx hZ hown (host := "") (Or.inl (w_20 hw)) Via.refl e4 F_terms_a1 (g := (mkF m 17 #[.val (.ref a1)] [(.ref a1)])) rfl rfl (hb hby d4_17)
  refine ⟨T7, _, _, _, (some (.int (0 : Int32))), X7, nofun, by decide, by decide, ?_, fun fs hr => ?_⟩
  · show Q14 Z a1 p3 p6 h0 n0 _ T7.heap _
    rw [e7]
    exact ⟨rfl, N0, rfl⟩
  · show Steps p.tables e below (s₁.setTop (mkF m 0 #[.val (.ref a1)] [])) _
    refine XS.aloadN X0.here hx rfl (hb hby d4_0) rfl rfl ?_
    refine st2 _ ?_
    refine XS.dconst0 X2.here hx rfl (hb hby d4_4) rfl ?_
    refine XS.dcmpS X2.here hx rfl (hb hby d4_5) rfl (by decide +kernel : (cmpValue (FP.dcmp (4604930618986332160 : UInt64) (0 : UInt64)) .l) = (1 : Int32)) ?_
    refine XS.ifNo X2.here hx rfl (hb hby d4_6) rfl ((if0 _ _).trans (tlt ((by decide : (0 : Int32) < (1 : Int32)) : (0 : Int32) < (1 : Int32))).2.2.2) ?_
    refine XS.aloadN X2.here hx rfl (hb hby d4_9) rfl rfl ?_
    refine st4 _ ?_
    refine XS.ifNo X4.here hx rfl (hb hby d4_13) rfl ((if0 _ _).trans (tlt (c5 : (0 : Int32) < p3)).2.2.2) ?_
    refine XS.aloadN X4.here hx rfl (hb hby d4_16) rfl rfl ?_
    refine st7 _ ?_
    refine XS.ifYes X7.here hx rfl (pc0 := 20) (pc' := 27) rfl (hb hby d4_20) rfl ((if0 _ _).trans (flt (c8 : ¬ ((0 : Int32) < p6))).2.2.2) (by decide) (by decide) ?_
    refine XS.iconst X7.here hx rfl (hb hby d4_27) ?_
    show Steps p.tables e below (T7.setTop (mkF m 28 #[.val (.ref a1)] [(.int (0 : Int32))])) _
    exact retN X7 hx (t := .boolean) hret (by simp) (hb hby d4_28) hr
theorem rm0_8 (l : Launch) (Z : State) (a0 : Array Value) (hw : ∀ d ∈ tables_1, d.before a0 Z = true) (ws : List Jvm.Cond) (p1 : Int32) (p2 : Int32) (p3 : Int32) (h0 : Heap) (n0 : Nat) (Z0 : n0 ≤ h0.size) (Od0 : Old Z n0 h0) (hk : ((p1 &&& (2147483647 : Int32)) - ((p1 &&& (2147483647 : Int32)) / (5 : Int32)) * (5 : Int32)) = (3 : Int32)) (cc1 : ¬ ((p2 &&& (2147483647 : Int32)) = (0 : Int32))) (cc2 : (p3 &&& (2147483647 : Int32)) = (0 : Int32)) :
    OwnMet l Z x code maxLocals ret ws room_1 #[(.int p1), (.int p2), (.int p3)] h0 (Q0 n0) := by
  refine own_body (plainFor_of_name pn_2) (ef0 p1 p2 p3) ?_
  intro p e s m below meth c s₁ hx hby hml hown hnm hret hZ X0 e0
  have N0 := Fr.nil n0
  obtain ⟨T1, h1, X1, e1, E1, A1, D1, -, st1⟩ := newO X0 hx hZ hown (w_2 hw) (w_3 hw) (w_4 hw) e0 (g := (mkF m 27 #[.val (.int p1), .val (.int p2), .val (.int p3), .val (.int (3 : Int32)), .val (.int (p2 &&& (2147483647 : Int32))), .val (.int (p3 &&& (2147483647 : Int32))), .val (.double (4604930618986332160 : UInt64)), .second, .unset, .unset] [])) rfl (hb hby at_27) (by decide) (by decide)
  obtain ⟨b1, g1⟩ : ∃ z, z = h0.size := ⟨_, rfl⟩
  rw [← g1] at A1 D1 st1
  have s0 := E1.1
  have Fn1_weight : Fld Z h1 b1 "com/example/informal_search/informalsearch/ranking/Feedback" "weight" "D" (.double (0 : UInt64)) := D1 (Or.inr (w_17 hw)) (ty := .double) (by decide)
  have Fn1_entities : Fld Z h1 b1 "com/example/informal_search/informalsearch/ranking/Feedback" "entities" "I" (.int (0 : Int32)) := D1 (Or.inr (w_19 hw)) (ty := .int) (by decide)
  have Fn1_terms : Fld Z h1 b1 "com/example/informal_search/informalsearch/ranking/Feedback" "terms" "I" (.int (0 : Int32)) := D1 (Or.inr (w_21 hw)) (ty := .int) (by decide)
  have cd2 : ¬ ((p2 &&& (2147483647 : Int32)) < (0 : Int32)) := (by rw [Int32.lt_iff_toInt_lt]; have := rng32 (p2 &&& (2147483647 : Int32)); have := rng32 p2; have := own_mask p2 (2147483647 : Int32) 31 (by decide) (by decide) 2147483648 (by decide); have : ((0 : Int32)).toInt = 0 := (by decide); omega)
  have cd3 : ¬ ((p3 &&& (2147483647 : Int32)) < (0 : Int32)) := (by rw [Int32.lt_iff_toInt_lt]; have := rng32 (p3 &&& (2147483647 : Int32)); have := rng32 p3; have := own_mask p3 (2147483647 : Int32) 31 (by decide) (by decide) 2147483648 (by decide); have : ((0 : Int32)).toInt = 0 := (by decide); omega)
  have g_b1 : n0 ≤ b1 := Nat.le_trans Z0 (Nat.le_of_eq g1.symm)
  have z1 := Nat.le_trans Z0 s0
  obtain ⟨_, T4, L4, X4, hQ4, st4⟩ := own_special X1 hx hZ hown (y := y_1) (a := b1) (w_5 hw) (w_6 hw) (w_4 hw) (w_7 hw) (rm12 l Z a0 hw [] b1 (p2 &&& (2147483647 : Int32)) (p3 &&& (2147483647 : Int32)) h1 n0 z1 cd2 cd3 Fn1_weight A1 g_b1 Fn1_entities Fn1_terms) e1 (Ls := #[.val (.int p1), .val (.int p2), .val (.int p3), .val (.int (3 : Int32)), .val (.int (p2 &&& (2147483647 : Int32))), .val (.int (p3 &&& (2147483647 : Int32))), .val (.double (4604930618986332160 : UInt64)), .second, .unset, .unset]) (by rw [hml]; rfl) (argsL := [(.double (4604930618986332160 : UInt64)), (.int (p2 &&& (2147483647 : Int32))), (.int (p3 &&& (2147483647 : Int32)))]) (rest := [(.ref b1)]) (lenOf pd_1 rfl) (hb hby at_37) (W := 1)
  obtain ⟨rfl, Nq4, K4, o4_0, o4_1, o4_2, o4_3⟩ := hQ4
  have N4 := Fr.app N0 Nq4
  have s1 := K4.1
  have cd5 : (0 : Int32) < (p2 &&& (2147483647 : Int32)) := (by rw [Int32.lt_iff_toInt_lt]; have hz : ((p2 &&& (2147483647 : Int32))).toInt ≠ ((0 : Int32)).toInt := fun q => cc1 (Int32.toInt_inj.mp q); have : ((0 : Int32)).toInt = 0 := (by decide); have := rng32 (p2 &&& (2147483647 : Int32)); have := rng32 p2; have := own_mask p2 (2147483647 : Int32) 31 (by decide) (by decide) 2147483648 (by decide); omega)
  have cd6 : ¬ ((0 : Int32) < (p3 &&& (2147483647 : Int32))) := (by rw [cc2]; decide)
  have z2 := Nat.le_trans Z0 (Nat.le_trans s0 s1)
  obtain ⟨_, T7, L7, X7, hQ7, st7⟩ := own_virtual X4 hx hZ hown (y := y_2) (z := y_2) o4_0 (w_22 hw) (w_23 hw) (notFace_of_selects (args := #[]) (mvT hZ (w_25 hw))) (w_25 hw) (w_24 hw) (w_4 hw) (w_26 hw) (rm14 l Z a0 hw [] b1 (p2 &&& (2147483647 : Int32)) (p3 &&& (2147483647 : Int32)) T4.heap n0 z2 o4_3 o4_1 cd5 o4_2 cd6) rfl (Ls := #[.val (.int p1), .val (.int p2), .val (.int p3), .val (.int (3 : Int32)), .val (.int (p2 &&& (2147483647 : Int32))), .val (.int (p3 &&& (2147483647 : Int32))), .val (.double (4604930618986332160 : UInt64)), .second, .val (.ref b1), .val (.int (0 : Int32))]) (by rw [hml]; rfl) (argsL := []) (rest := []) (lenOf pd_2 rfl) (hb hby at_65) (W := 0)
  obtain ⟨rfl, Nq7, e7⟩ := hQ7
  have N7 := Fr.app N4 Nq7
  refine ⟨T7, _, _, _, (some (.int (1 : Int32))), X7, nofun, by decide, by decide, ?_, fun fs hr => ?_⟩
  · show Q0 n0 _ T7.heap _
    rw [e7]
    exact ⟨rfl, N7⟩
  · show Steps p.tables e below (s₁.setTop (mkF m 0 #[.val (.int p1), .val (.int p2), .val (.int p3), .unset, .unset, .unset, .unset, .unset, .unset, .unset] [])) _
    refine XS.iloadN X0.here hx rfl (hb hby at_0) rfl ?_
    refine X0.ldcInt hx hown (mvT hZ (w_0 hw)) (g := (mkF m 1 #[.val (.int p1), .val (.int p2), .val (.int p3), .unset, .unset, .unset, .unset, .unset, .unset, .unset] [(.int p1)])) rfl (hb hby at_1) _ ?_
    refine XS.iand X0.here hx rfl (hb hby at_3) rfl ?_
    refine XS.iconst X0.here hx rfl (hb hby at_4) ?_
    refine XS.irem X0.here hx rfl (hb hby at_5) rfl (by decide : ¬ ((5 : Int32) = (0 : Int32))) ?_
    show Steps p.tables e below (s₁.setTop (mkF m 6 #[.val (.int p1), .val (.int p2), .val (.int p3), .unset, .unset, .unset, .unset, .unset, .unset, .unset] [(.int ((p1 &&& (2147483647 : Int32)) - ((p1 &&& (2147483647 : Int32)) / (5 : Int32)) * (5 : Int32)))])) _
    rw [hk]
    refine XS.istoreN X0.here hx rfl (hb hby at_6) rfl (l' := #[.val (.int p1), .val (.int p2), .val (.int p3), .val (.int (3 : Int32)), .unset, .unset, .unset, .unset, .unset, .unset]) rfl ?_
    refine XS.iloadN X0.here hx rfl (hb hby at_7) rfl ?_
    refine X0.ldcInt hx hown (mvT hZ (w_0 hw)) (g := (mkF m 8 #[.val (.int p1), .val (.int p2), .val (.int p3), .val (.int (3 : Int32)), .unset, .unset, .unset, .unset, .unset, .unset] [(.int p2)])) rfl (hb hby at_8) _ ?_
    refine XS.iand X0.here hx rfl (hb hby at_10) rfl ?_
    refine XS.istore X0.here hx rfl (hb hby at_11) rfl (l' := #[.val (.int p1), .val (.int p2), .val (.int p3), .val (.int (3 : Int32)), .val (.int (p2 &&& (2147483647 : Int32))), .unset, .unset, .unset, .unset, .unset]) rfl ?_
    refine XS.iloadN X0.here hx rfl (hb hby at_13) rfl ?_
    refine X0.ldcInt hx hown (mvT hZ (w_0 hw)) (g := (mkF m 14 #[.val (.int p1), .val (.int p2), .val (.int p3), .val (.int (3 : Int32)), .val (.int (p2 &&& (2147483647 : Int32))), .unset, .unset, .unset, .unset, .unset] [(.int p3)])) rfl (hb hby at_14) _ ?_
    refine XS.iand X0.here hx rfl (hb hby at_16) rfl ?_
    refine XS.istore X0.here hx rfl (hb hby at_17) rfl (l' := #[.val (.int p1), .val (.int p2), .val (.int p3), .val (.int (3 : Int32)), .val (.int (p2 &&& (2147483647 : Int32))), .val (.int (p3 &&& (2147483647 : Int32))), .unset, .unset, .unset, .unset]) rfl ?_
    refine XS.iloadN X0.here hx rfl (hb hby at_19) rfl ?_
    refine XS.i2dS X0.here hx rfl (hb hby at_20) rfl (by decide +kernel : (FP.i2d (3 : Int32)) = (4613937818241073152 : UInt64)) ?_
    show Steps p.tables e below (s₁.setTop (mkF m 21 #[.val (.int p1), .val (.int p2), .val (.int p3), .val (.int (3 : Int32)), .val (.int (p2 &&& (2147483647 : Int32))), .val (.int (p3 &&& (2147483647 : Int32))), .unset, .unset, .unset, .unset] [(.double (4613937818241073152 : UInt64))])) _
    refine X0.ldc2DoubleC hx hown (mvT hZ (w_1 hw)) (g := (mkF m 21 #[.val (.int p1), .val (.int p2), .val (.int p3), .val (.int (3 : Int32)), .val (.int (p2 &&& (2147483647 : Int32))), .val (.int (p3 &&& (2147483647 : Int32))), .unset, .unset, .unset, .unset] [(.double (4613937818241073152 : UInt64))])) rfl (hb hby at_21) _ ?_
    refine XS.ddivS X0.here hx rfl (hb hby at_24) rfl (by decide +kernel) (by decide +kernel : (FP.ddiv (4613937818241073152 : UInt64) (4616189618054758400 : UInt64)) = (4604930618986332160 : UInt64)) ?_
    refine XS.dstore X0.here hx rfl (hb hby at_25) rfl (l' := #[.val (.int p1), .val (.int p2), .val (.int p3), .val (.int (3 : Int32)), .val (.int (p2 &&& (2147483647 : Int32))), .val (.int (p3 &&& (2147483647 : Int32))), .val (.double (4604930618986332160 : UInt64)), .second, .unset, .unset]) rfl ?_
    refine st1 _ ?_
    refine XS.dup X1.here hx rfl (hb hby at_30) rfl rfl ?_
    refine XS.dload X1.here hx rfl (hb hby at_31) rfl ?_
    refine XS.iload X1.here hx rfl (hb hby at_33) rfl ?_
    refine XS.iload X1.here hx rfl (hb hby at_35) rfl ?_
    refine st4 _ ?_
    refine XS.astore X4.here hx rfl (hb hby at_40) rfl rfl (l' := #[.val (.int p1), .val (.int p2), .val (.int p3), .val (.int (3 : Int32)), .val (.int (p2 &&& (2147483647 : Int32))), .val (.int (p3 &&& (2147483647 : Int32))), .val (.double (4604930618986332160 : UInt64)), .second, .val (.ref b1), .unset]) rfl ?_
    refine XS.iloadN X4.here hx rfl (hb hby at_42) rfl ?_
    refine XS.ifNo X4.here hx rfl (hb hby at_43) rfl ((if0 _ _).trans (feq ((by decide : ¬ ((3 : Int32) = (0 : Int32))) : ¬ ((3 : Int32) = (0 : Int32)))).1) ?_
    show Steps p.tables e below (T4.setTop (mkF m 46 #[.val (.int p1), .val (.int p2), .val (.int p3), .val (.int (3 : Int32)), .val (.int (p2 &&& (2147483647 : Int32))), .val (.int (p3 &&& (2147483647 : Int32))), .val (.double (4604930618986332160 : UInt64)), .second, .val (.ref b1), .unset] [])) _
    refine XS.iload X4.here hx rfl (hb hby at_46) rfl ?_
    refine XS.ifNo X4.here hx rfl (hb hby at_48) rfl ((if0 _ _).trans (feq (cc1 : ¬ ((p2 &&& (2147483647 : Int32)) = (0 : Int32)))).1) ?_
    refine XS.iload X4.here hx rfl (hb hby at_51) rfl ?_
    refine XS.ifYes X4.here hx rfl (pc0 := 53) (pc' := 60) rfl (hb hby at_53) rfl ((if0 _ _).trans (teq (cc2 : (p3 &&& (2147483647 : Int32)) = (0 : Int32))).1) (by decide) (by decide) ?_
    refine XS.iconst X4.here hx rfl (hb hby at_60) ?_
    refine XS.istore X4.here hx rfl (hb hby at_61) rfl (l' := #[.val (.int p1), .val (.int p2), .val (.int p3), .val (.int (3 : Int32)), .val (.int (p2 &&& (2147483647 : Int32))), .val (.int (p3 &&& (2147483647 : Int32))), .val (.double (4604930618986332160 : UInt64)), .second, .val (.ref b1), .val (.int (0 : Int32))]) rfl ?_
    refine XS.aload X4.here hx rfl (hb hby at_63) rfl rfl ?_
    refine st7 _ ?_
    refine XS.iload X7.here hx rfl (hb hby at_68) rfl ?_
    refine XS.icmpNo X7.here hx rfl (hb hby at_70) rfl (teq ((by decide : (0 : Int32) = (0 : Int32)) : (0 : Int32) = (0 : Int32))).2 ?_
    refine XS.iconst X7.here hx rfl (hb hby at_73) ?_
    refine XS.goto X7.here hx rfl (pc0 := 74) (pc' := 78) rfl (hb hby at_74) (by decide) (by decide) ?_
    show Steps p.tables e below (T7.setTop (mkF m 78 #[.val (.int p1), .val (.int p2), .val (.int p3), .val (.int (3 : Int32)), .val (.int (p2 &&& (2147483647 : Int32))), .val (.int (p3 &&& (2147483647 : Int32))), .val (.double (4604930618986332160 : UInt64)), .second, .val (.ref b1), .val (.int (0 : Int32))] [(.int (1 : Int32))])) _
    exact retN X7 hx (t := .boolean) hret (by simp) (hb hby at_78) hr
-- com/example/informal_search/informalsearch/ranking/Feedback.expands()Z
abbrev Rm15 : Room := { frames := 0, cells := 0, slots := 0, locals := 0 }
def Q15 (Z : State) (a1 : Addr) (p3 : Int32) (p6 : Int32) (h0 : Heap) (n0 : Nat) (v : Option Value) (h : Heap) (L : List Loc) : Prop := v = some (.int (1 : Int32)) ∧ Fr n0 L ∧ h = h0
theorem ef15 (a1 : Addr) (m : MethodId) : entryFrame m #[(.ref a1)] 1 = mkF m 0 #[.val (.ref a1)] [] := by first | (simp [entryFrame, mkF, argsToLocals, Value.category]; done) | rfl
theorem rm15 (l : Launch) (Z : State) (a0 : Array Value) (hw : ∀ d ∈ tables_1, d.before a0 Z = true) (ws : List Jvm.Cond) (a1 : Addr) (p3 : Int32) (p6 : Int32) (h0 : Heap) (n0 : Nat) (Z0 : n0 ≤ h0.size) (F_weight_a1 : Fld Z h0 a1 "com/example/informal_search/informalsearch/ranking/Feedback" "weight" "D" (.double (4604930618986332160 : UInt64))) (F_entities_a1 : Fld Z h0 a1 "com/example/informal_search/informalsearch/ranking/Feedback" "entities" "I" (.int p3)) (c5 : (0 : Int32) < p3) (F_terms_a1 : Fld Z h0 a1 "com/example/informal_search/informalsearch/ranking/Feedback" "terms" "I" (.int p6)) (c8 : (0 : Int32) < p6) :
    OwnMet l Z y_2 prog_62_method_2_code 1 (some .boolean) ws Rm15 #[(.ref a1)] h0 (Q15 Z a1 p3 p6 h0 n0) := by
  refine own_body (plainFor_of_name pn_1) (ef15 a1) ?_
  intro p e s m below meth c s₁ hx hby hml hown hnm hret hZ X0 e0
  have N0 := Fr.nil n0
  obtain ⟨T2, X2, e2, st2⟩ := getF X0 hx hZ hown (host := "") (Or.inl (w_16 hw)) Via.refl e0 F_weight_a1 (g := (mkF m 1 #[.val (.ref a1)] [(.ref a1)])) rfl rfl (hb hby d4_1)
  obtain ⟨T4, X4, e4, st4⟩ := getF X2 hx hZ hown (host := "") (Or.inl (w_18 hw)) Via.refl e2 F_entities_a1 (g := (mkF m 10 #[.val (.ref a1)] [(.ref a1)])) rfl rfl (hb hby d4_10)
  obtain ⟨T7, X7, e7, st7⟩ := getF X4 hx hZ hown (host := "") (Or.inl (w_20 hw)) Via.refl e4 F_terms_a1 (g := (mkF m 17 #[.val (.ref a1)] [(.ref a1)])) rfl rfl (hb hby d4_17)
  refine ⟨T7, _, _, _, (some (.int (1 : Int32))), X7, nofun, by decide, by decide, ?_, fun fs hr => ?_⟩
  · show Q15 Z a1 p3 p6 h0 n0 _ T7.heap _
    rw [e7]
    exact ⟨rfl, N0, rfl⟩
  · show Steps p.tables e below (s₁.setTop (mkF m 0 #[.val (.ref a1)] [])) _
    refine XS.aloadN X0.here hx rfl (hb hby d4_0) rfl rfl ?_
    refine st2 _ ?_
    refine XS.dconst0 X2.here hx rfl (hb hby d4_4) rfl ?_
    refine XS.dcmpS X2.here hx rfl (hb hby d4_5) rfl (by decide +kernel : (cmpValue (FP.dcmp (4604930618986332160 : UInt64) (0 : UInt64)) .l) = (1 : Int32)) ?_
    refine XS.ifNo X2.here hx rfl (hb hby d4_6) rfl ((if0 _ _).trans (tlt ((by decide : (0 : Int32) < (1 : Int32)) : (0 : Int32) < (1 : Int32))).2.2.2) ?_
    refine XS.aloadN X2.here hx rfl (hb hby d4_9) rfl rfl ?_
    refine st4 _ ?_
    refine XS.ifNo X4.here hx rfl (hb hby d4_13) rfl ((if0 _ _).trans (tlt (c5 : (0 : Int32) < p3)).2.2.2) ?_
    refine XS.aloadN X4.here hx rfl (hb hby d4_16) rfl rfl ?_
    refine st7 _ ?_
    refine XS.ifNo X7.here hx rfl (hb hby d4_20) rfl ((if0 _ _).trans (tlt (c8 : (0 : Int32) < p6)).2.2.2) ?_
    refine XS.iconst X7.here hx rfl (hb hby d4_23) ?_
    show Steps p.tables e below (T7.setTop (mkF m 24 #[.val (.ref a1)] [(.int (1 : Int32))])) _
    refine XS.goto X7.here hx rfl (pc0 := 24) (pc' := 28) rfl (hb hby d4_24) (by decide) (by decide) ?_
    exact retN X7 hx (t := .boolean) hret (by simp) (hb hby d4_28) hr
theorem rm0_9 (l : Launch) (Z : State) (a0 : Array Value) (hw : ∀ d ∈ tables_1, d.before a0 Z = true) (ws : List Jvm.Cond) (p1 : Int32) (p2 : Int32) (p3 : Int32) (h0 : Heap) (n0 : Nat) (Z0 : n0 ≤ h0.size) (Od0 : Old Z n0 h0) (hk : ((p1 &&& (2147483647 : Int32)) - ((p1 &&& (2147483647 : Int32)) / (5 : Int32)) * (5 : Int32)) = (3 : Int32)) (cc1 : ¬ ((p2 &&& (2147483647 : Int32)) = (0 : Int32))) (cc2 : ¬ ((p3 &&& (2147483647 : Int32)) = (0 : Int32))) :
    OwnMet l Z x code maxLocals ret ws room_1 #[(.int p1), (.int p2), (.int p3)] h0 (Q0 n0) := by
  refine own_body (plainFor_of_name pn_2) (ef0 p1 p2 p3) ?_
  intro p e s m below meth c s₁ hx hby hml hown hnm hret hZ X0 e0
  have N0 := Fr.nil n0
  obtain ⟨T1, h1, X1, e1, E1, A1, D1, -, st1⟩ := newO X0 hx hZ hown (w_2 hw) (w_3 hw) (w_4 hw) e0 (g := (mkF m 27 #[.val (.int p1), .val (.int p2), .val (.int p3), .val (.int (3 : Int32)), .val (.int (p2 &&& (2147483647 : Int32))), .val (.int (p3 &&& (2147483647 : Int32))), .val (.double (4604930618986332160 : UInt64)), .second, .unset, .unset] [])) rfl (hb hby at_27) (by decide) (by decide)
  obtain ⟨b1, g1⟩ : ∃ z, z = h0.size := ⟨_, rfl⟩
  rw [← g1] at A1 D1 st1
  have s0 := E1.1
  have Fn1_weight : Fld Z h1 b1 "com/example/informal_search/informalsearch/ranking/Feedback" "weight" "D" (.double (0 : UInt64)) := D1 (Or.inr (w_17 hw)) (ty := .double) (by decide)
  have Fn1_entities : Fld Z h1 b1 "com/example/informal_search/informalsearch/ranking/Feedback" "entities" "I" (.int (0 : Int32)) := D1 (Or.inr (w_19 hw)) (ty := .int) (by decide)
  have Fn1_terms : Fld Z h1 b1 "com/example/informal_search/informalsearch/ranking/Feedback" "terms" "I" (.int (0 : Int32)) := D1 (Or.inr (w_21 hw)) (ty := .int) (by decide)
  have cd2 : ¬ ((p2 &&& (2147483647 : Int32)) < (0 : Int32)) := (by rw [Int32.lt_iff_toInt_lt]; have := rng32 (p2 &&& (2147483647 : Int32)); have := rng32 p2; have := own_mask p2 (2147483647 : Int32) 31 (by decide) (by decide) 2147483648 (by decide); have : ((0 : Int32)).toInt = 0 := (by decide); omega)
  have cd3 : ¬ ((p3 &&& (2147483647 : Int32)) < (0 : Int32)) := (by rw [Int32.lt_iff_toInt_lt]; have := rng32 (p3 &&& (2147483647 : Int32)); have := rng32 p3; have := own_mask p3 (2147483647 : Int32) 31 (by decide) (by decide) 2147483648 (by decide); have : ((0 : Int32)).toInt = 0 := (by decide); omega)
  have g_b1 : n0 ≤ b1 := Nat.le_trans Z0 (Nat.le_of_eq g1.symm)
  have z1 := Nat.le_trans Z0 s0
  obtain ⟨_, T4, L4, X4, hQ4, st4⟩ := own_special X1 hx hZ hown (y := y_1) (a := b1) (w_5 hw) (w_6 hw) (w_4 hw) (w_7 hw) (rm12 l Z a0 hw [] b1 (p2 &&& (2147483647 : Int32)) (p3 &&& (2147483647 : Int32)) h1 n0 z1 cd2 cd3 Fn1_weight A1 g_b1 Fn1_entities Fn1_terms) e1 (Ls := #[.val (.int p1), .val (.int p2), .val (.int p3), .val (.int (3 : Int32)), .val (.int (p2 &&& (2147483647 : Int32))), .val (.int (p3 &&& (2147483647 : Int32))), .val (.double (4604930618986332160 : UInt64)), .second, .unset, .unset]) (by rw [hml]; rfl) (argsL := [(.double (4604930618986332160 : UInt64)), (.int (p2 &&& (2147483647 : Int32))), (.int (p3 &&& (2147483647 : Int32)))]) (rest := [(.ref b1)]) (lenOf pd_1 rfl) (hb hby at_37) (W := 1)
  obtain ⟨rfl, Nq4, K4, o4_0, o4_1, o4_2, o4_3⟩ := hQ4
  have N4 := Fr.app N0 Nq4
  have s1 := K4.1
  have cd5 : (0 : Int32) < (p2 &&& (2147483647 : Int32)) := (by rw [Int32.lt_iff_toInt_lt]; have hz : ((p2 &&& (2147483647 : Int32))).toInt ≠ ((0 : Int32)).toInt := fun q => cc1 (Int32.toInt_inj.mp q); have : ((0 : Int32)).toInt = 0 := (by decide); have := rng32 (p2 &&& (2147483647 : Int32)); have := rng32 p2; have := own_mask p2 (2147483647 : Int32) 31 (by decide) (by decide) 2147483648 (by decide); omega)
  have cd6 : (0 : Int32) < (p3 &&& (2147483647 : Int32)) := (by rw [Int32.lt_iff_toInt_lt]; have hz : ((p3 &&& (2147483647 : Int32))).toInt ≠ ((0 : Int32)).toInt := fun q => cc2 (Int32.toInt_inj.mp q); have : ((0 : Int32)).toInt = 0 := (by decide); have := rng32 (p3 &&& (2147483647 : Int32)); have := rng32 p3; have := own_mask p3 (2147483647 : Int32) 31 (by decide) (by decide) 2147483648 (by decide); omega)
  have z2 := Nat.le_trans Z0 (Nat.le_trans s0 s1)
  obtain ⟨_, T7, L7, X7, hQ7, st7⟩ := own_virtual X4 hx hZ hown (y := y_2) (z := y_2) o4_0 (w_22 hw) (w_23 hw) (notFace_of_selects (args := #[]) (mvT hZ (w_25 hw))) (w_25 hw) (w_24 hw) (w_4 hw) (w_26 hw) (rm15 l Z a0 hw [] b1 (p2 &&& (2147483647 : Int32)) (p3 &&& (2147483647 : Int32)) T4.heap n0 z2 o4_3 o4_1 cd5 o4_2 cd6) rfl (Ls := #[.val (.int p1), .val (.int p2), .val (.int p3), .val (.int (3 : Int32)), .val (.int (p2 &&& (2147483647 : Int32))), .val (.int (p3 &&& (2147483647 : Int32))), .val (.double (4604930618986332160 : UInt64)), .second, .val (.ref b1), .val (.int (1 : Int32))]) (by rw [hml]; rfl) (argsL := []) (rest := []) (lenOf pd_2 rfl) (hb hby at_65) (W := 0)
  obtain ⟨rfl, Nq7, e7⟩ := hQ7
  have N7 := Fr.app N4 Nq7
  refine ⟨T7, _, _, _, (some (.int (1 : Int32))), X7, nofun, by decide, by decide, ?_, fun fs hr => ?_⟩
  · show Q0 n0 _ T7.heap _
    rw [e7]
    exact ⟨rfl, N7⟩
  · show Steps p.tables e below (s₁.setTop (mkF m 0 #[.val (.int p1), .val (.int p2), .val (.int p3), .unset, .unset, .unset, .unset, .unset, .unset, .unset] [])) _
    refine XS.iloadN X0.here hx rfl (hb hby at_0) rfl ?_
    refine X0.ldcInt hx hown (mvT hZ (w_0 hw)) (g := (mkF m 1 #[.val (.int p1), .val (.int p2), .val (.int p3), .unset, .unset, .unset, .unset, .unset, .unset, .unset] [(.int p1)])) rfl (hb hby at_1) _ ?_
    refine XS.iand X0.here hx rfl (hb hby at_3) rfl ?_
    refine XS.iconst X0.here hx rfl (hb hby at_4) ?_
    refine XS.irem X0.here hx rfl (hb hby at_5) rfl (by decide : ¬ ((5 : Int32) = (0 : Int32))) ?_
    show Steps p.tables e below (s₁.setTop (mkF m 6 #[.val (.int p1), .val (.int p2), .val (.int p3), .unset, .unset, .unset, .unset, .unset, .unset, .unset] [(.int ((p1 &&& (2147483647 : Int32)) - ((p1 &&& (2147483647 : Int32)) / (5 : Int32)) * (5 : Int32)))])) _
    rw [hk]
    refine XS.istoreN X0.here hx rfl (hb hby at_6) rfl (l' := #[.val (.int p1), .val (.int p2), .val (.int p3), .val (.int (3 : Int32)), .unset, .unset, .unset, .unset, .unset, .unset]) rfl ?_
    refine XS.iloadN X0.here hx rfl (hb hby at_7) rfl ?_
    refine X0.ldcInt hx hown (mvT hZ (w_0 hw)) (g := (mkF m 8 #[.val (.int p1), .val (.int p2), .val (.int p3), .val (.int (3 : Int32)), .unset, .unset, .unset, .unset, .unset, .unset] [(.int p2)])) rfl (hb hby at_8) _ ?_
    refine XS.iand X0.here hx rfl (hb hby at_10) rfl ?_
    refine XS.istore X0.here hx rfl (hb hby at_11) rfl (l' := #[.val (.int p1), .val (.int p2), .val (.int p3), .val (.int (3 : Int32)), .val (.int (p2 &&& (2147483647 : Int32))), .unset, .unset, .unset, .unset, .unset]) rfl ?_
    refine XS.iloadN X0.here hx rfl (hb hby at_13) rfl ?_
    refine X0.ldcInt hx hown (mvT hZ (w_0 hw)) (g := (mkF m 14 #[.val (.int p1), .val (.int p2), .val (.int p3), .val (.int (3 : Int32)), .val (.int (p2 &&& (2147483647 : Int32))), .unset, .unset, .unset, .unset, .unset] [(.int p3)])) rfl (hb hby at_14) _ ?_
    refine XS.iand X0.here hx rfl (hb hby at_16) rfl ?_
    refine XS.istore X0.here hx rfl (hb hby at_17) rfl (l' := #[.val (.int p1), .val (.int p2), .val (.int p3), .val (.int (3 : Int32)), .val (.int (p2 &&& (2147483647 : Int32))), .val (.int (p3 &&& (2147483647 : Int32))), .unset, .unset, .unset, .unset]) rfl ?_
    refine XS.iloadN X0.here hx rfl (hb hby at_19) rfl ?_
    refine XS.i2dS X0.here hx rfl (hb hby at_20) rfl (by decide +kernel : (FP.i2d (3 : Int32)) = (4613937818241073152 : UInt64)) ?_
    show Steps p.tables e below (s₁.setTop (mkF m 21 #[.val (.int p1), .val (.int p2), .val (.int p3), .val (.int (3 : Int32)), .val (.int (p2 &&& (2147483647 : Int32))), .val (.int (p3 &&& (2147483647 : Int32))), .unset, .unset, .unset, .unset] [(.double (4613937818241073152 : UInt64))])) _
    refine X0.ldc2DoubleC hx hown (mvT hZ (w_1 hw)) (g := (mkF m 21 #[.val (.int p1), .val (.int p2), .val (.int p3), .val (.int (3 : Int32)), .val (.int (p2 &&& (2147483647 : Int32))), .val (.int (p3 &&& (2147483647 : Int32))), .unset, .unset, .unset, .unset] [(.double (4613937818241073152 : UInt64))])) rfl (hb hby at_21) _ ?_
    refine XS.ddivS X0.here hx rfl (hb hby at_24) rfl (by decide +kernel) (by decide +kernel : (FP.ddiv (4613937818241073152 : UInt64) (4616189618054758400 : UInt64)) = (4604930618986332160 : UInt64)) ?_
    refine XS.dstore X0.here hx rfl (hb hby at_25) rfl (l' := #[.val (.int p1), .val (.int p2), .val (.int p3), .val (.int (3 : Int32)), .val (.int (p2 &&& (2147483647 : Int32))), .val (.int (p3 &&& (2147483647 : Int32))), .val (.double (4604930618986332160 : UInt64)), .second, .unset, .unset]) rfl ?_
    refine st1 _ ?_
    refine XS.dup X1.here hx rfl (hb hby at_30) rfl rfl ?_
    refine XS.dload X1.here hx rfl (hb hby at_31) rfl ?_
    refine XS.iload X1.here hx rfl (hb hby at_33) rfl ?_
    refine XS.iload X1.here hx rfl (hb hby at_35) rfl ?_
    refine st4 _ ?_
    refine XS.astore X4.here hx rfl (hb hby at_40) rfl rfl (l' := #[.val (.int p1), .val (.int p2), .val (.int p3), .val (.int (3 : Int32)), .val (.int (p2 &&& (2147483647 : Int32))), .val (.int (p3 &&& (2147483647 : Int32))), .val (.double (4604930618986332160 : UInt64)), .second, .val (.ref b1), .unset]) rfl ?_
    refine XS.iloadN X4.here hx rfl (hb hby at_42) rfl ?_
    refine XS.ifNo X4.here hx rfl (hb hby at_43) rfl ((if0 _ _).trans (feq ((by decide : ¬ ((3 : Int32) = (0 : Int32))) : ¬ ((3 : Int32) = (0 : Int32)))).1) ?_
    show Steps p.tables e below (T4.setTop (mkF m 46 #[.val (.int p1), .val (.int p2), .val (.int p3), .val (.int (3 : Int32)), .val (.int (p2 &&& (2147483647 : Int32))), .val (.int (p3 &&& (2147483647 : Int32))), .val (.double (4604930618986332160 : UInt64)), .second, .val (.ref b1), .unset] [])) _
    refine XS.iload X4.here hx rfl (hb hby at_46) rfl ?_
    refine XS.ifNo X4.here hx rfl (hb hby at_48) rfl ((if0 _ _).trans (feq (cc1 : ¬ ((p2 &&& (2147483647 : Int32)) = (0 : Int32)))).1) ?_
    refine XS.iload X4.here hx rfl (hb hby at_51) rfl ?_
    refine XS.ifNo X4.here hx rfl (hb hby at_53) rfl ((if0 _ _).trans (feq (cc2 : ¬ ((p3 &&& (2147483647 : Int32)) = (0 : Int32)))).1) ?_
    refine XS.iconst X4.here hx rfl (hb hby at_56) ?_
    refine XS.goto X4.here hx rfl (pc0 := 57) (pc' := 61) rfl (hb hby at_57) (by decide) (by decide) ?_
    refine XS.istore X4.here hx rfl (hb hby at_61) rfl (l' := #[.val (.int p1), .val (.int p2), .val (.int p3), .val (.int (3 : Int32)), .val (.int (p2 &&& (2147483647 : Int32))), .val (.int (p3 &&& (2147483647 : Int32))), .val (.double (4604930618986332160 : UInt64)), .second, .val (.ref b1), .val (.int (1 : Int32))]) rfl ?_
    refine XS.aload X4.here hx rfl (hb hby at_63) rfl rfl ?_
    refine st7 _ ?_
    refine XS.iload X7.here hx rfl (hb hby at_68) rfl ?_
    refine XS.icmpNo X7.here hx rfl (hb hby at_70) rfl (teq ((by decide : (1 : Int32) = (1 : Int32)) : (1 : Int32) = (1 : Int32))).2 ?_
    refine XS.iconst X7.here hx rfl (hb hby at_73) ?_
    show Steps p.tables e below (T7.setTop (mkF m 74 #[.val (.int p1), .val (.int p2), .val (.int p3), .val (.int (3 : Int32)), .val (.int (p2 &&& (2147483647 : Int32))), .val (.int (p3 &&& (2147483647 : Int32))), .val (.double (4604930618986332160 : UInt64)), .second, .val (.ref b1), .val (.int (1 : Int32))] [(.int (1 : Int32))])) _
    refine XS.goto X7.here hx rfl (pc0 := 74) (pc' := 78) rfl (hb hby at_74) (by decide) (by decide) ?_
    exact retN X7 hx (t := .boolean) hret (by simp) (hb hby at_78) hr
-- com/example/informal_search/informalsearch/ranking/Feedback.<init>(DII)V
abbrev Rm16 : Room := { frames := 2, cells := 0, slots := 0, locals := 24 }
def Q16 (Z : State) (a1 : Addr) (p2 : Int32) (p3 : Int32) (h0 : Heap) (n0 : Nat) (v : Option Value) (h : Heap) (L : List Loc) : Prop := v = none ∧ Fr n0 L ∧ Keep h0 h [a1] ∧ Exa Z h a1 "com/example/informal_search/informalsearch/ranking/Feedback" ∧ Fld Z h a1 "com/example/informal_search/informalsearch/ranking/Feedback" "entities" "I" (.int p2) ∧ Fld Z h a1 "com/example/informal_search/informalsearch/ranking/Feedback" "terms" "I" (.int p3) ∧ Fld Z h a1 "com/example/informal_search/informalsearch/ranking/Feedback" "weight" "D" (.double (4607182418800017408 : UInt64))
theorem ef16 (a1 : Addr) (p2 : Int32) (p3 : Int32) (m : MethodId) : entryFrame m #[(.ref a1), (.double (4607182418800017408 : UInt64)), (.int p2), (.int p3)] 5 = mkF m 0 #[.val (.ref a1), .val (.double (4607182418800017408 : UInt64)), .second, .val (.int p2), .val (.int p3)] [] := by first | (simp [entryFrame, mkF, argsToLocals, Value.category]; done) | rfl
theorem rm16 (l : Launch) (Z : State) (a0 : Array Value) (hw : ∀ d ∈ tables_1, d.before a0 Z = true) (ws : List Jvm.Cond) (a1 : Addr) (p2 : Int32) (p3 : Int32) (h0 : Heap) (n0 : Nat) (Z0 : n0 ≤ h0.size) (c5 : ¬ (p2 < (0 : Int32))) (c6 : ¬ (p3 < (0 : Int32))) (F_weight_a1 : Fld Z h0 a1 "com/example/informal_search/informalsearch/ranking/Feedback" "weight" "D" (.double (0 : UInt64))) (E_a1 : Exa Z h0 a1 "com/example/informal_search/informalsearch/ranking/Feedback") (g_a1 : n0 ≤ a1) (F_entities_a1 : Fld Z h0 a1 "com/example/informal_search/informalsearch/ranking/Feedback" "entities" "I" (.int (0 : Int32))) (F_terms_a1 : Fld Z h0 a1 "com/example/informal_search/informalsearch/ranking/Feedback" "terms" "I" (.int (0 : Int32))) :
    OwnMet l Z y_1 prog_62_method_1_code 5 none ws Rm16 #[(.ref a1), (.double (4607182418800017408 : UInt64)), (.int p2), (.int p3)] h0 (Q16 Z a1 p2 p3 h0 n0) := by
  refine own_body (plainFor_of_name pn_1) (ef16 a1 p2 p3) ?_
  intro p e s m below meth c s₁ hx hby hml hown hnm hret hZ X0 e0
  have N0 := Fr.nil n0
  obtain ⟨_, T4, L4, X4, hQ4, st4⟩ := own_special X0 hx hZ hown (y := y_0) (a := a1) (w_8 hw) (w_9 hw) (w_11 hw) (w_12 hw) (rm1 l Z a0 hw [] a1 h0 n0 Z0) e0 (Ls := #[.val (.ref a1), .val (.double (4607182418800017408 : UInt64)), .second, .val (.int p2), .val (.int p3)]) (by rw [hml]; rfl) (argsL := []) (rest := []) (lenOf pd_0 rfl) (hb hby d1_1) (W := 0)
  obtain ⟨rfl, Nq4, e4⟩ := hQ4
  have N4 := Fr.app N0 Nq4
  obtain ⟨T7, h7, X7, e7, W7, st7⟩ := putF X4 hx hZ hown (host := "") (Or.inl (w_16 hw)) Via.refl e4 F_weight_a1 E_a1 (Or.inr ⟨(w_17 hw), rfl, hnm⟩) (w_3 hw) (ty := .double) (by decide) rfl rfl (g := (mkF m 57 #[.val (.ref a1), .val (.double (4607182418800017408 : UInt64)), .second, .val (.int p2), .val (.int p3)] [(.double (4607182418800017408 : UInt64)), (.ref a1)])) rfl rfl (hb hby d1_57)
  have s0 := (Keep.of_wr W7).1
  have N7 := Fr.snoc X7 N4 g_a1
  have Fw7 : Fld Z h7 a1 "com/example/informal_search/informalsearch/ranking/Feedback" "weight" "D" (.double (4607182418800017408 : UInt64)) := F_weight_a1.same W7
  have Ex8 := (E_a1.wr W7)
  have Fl9 := (F_entities_a1.other W7 (Or.inr (slot_ne (Or.inr (w_19 hw)) (Or.inr (w_17 hw)) (by decide) (t := .int) (t' := .double) (by decide) (by decide))))
  obtain ⟨T10, h10, X10, e10, W10, st10⟩ := putF X7 hx hZ hown (host := "") (Or.inl (w_18 hw)) Via.refl e7 Fl9 Ex8 (Or.inr ⟨(w_19 hw), rfl, hnm⟩) (w_3 hw) (ty := .int) (by decide) rfl rfl (g := (mkF m 62 #[.val (.ref a1), .val (.double (4607182418800017408 : UInt64)), .second, .val (.int p2), .val (.int p3)] [(.int p2), (.ref a1)])) rfl rfl (hb hby d1_62)
  have s1 := (Keep.of_wr W10).1
  have N10 := Fr.snoc X10 N7 g_a1
  have Fw10 : Fld Z h10 a1 "com/example/informal_search/informalsearch/ranking/Feedback" "entities" "I" (.int p2) := Fl9.same W10
  have Ex11 := (Ex8.wr W10)
  have Fl12 := ((F_terms_a1.other W7 (Or.inr (slot_ne (Or.inr (w_21 hw)) (Or.inr (w_17 hw)) (by decide) (t := .int) (t' := .double) (by decide) (by decide)))).other W10 (Or.inr (slot_ne (Or.inr (w_21 hw)) (Or.inr (w_19 hw)) (by decide) (t := .int) (t' := .int) (by decide) (by decide))))
  obtain ⟨T13, h13, X13, e13, W13, st13⟩ := putF X10 hx hZ hown (host := "") (Or.inl (w_20 hw)) Via.refl e10 Fl12 Ex11 (Or.inr ⟨(w_21 hw), rfl, hnm⟩) (w_3 hw) (ty := .int) (by decide) rfl rfl (g := (mkF m 68 #[.val (.ref a1), .val (.double (4607182418800017408 : UInt64)), .second, .val (.int p2), .val (.int p3)] [(.int p3), (.ref a1)])) rfl rfl (hb hby d1_68)
  have s2 := (Keep.of_wr W13).1
  have N13 := Fr.snoc X13 N10 g_a1
  have Fw13 : Fld Z h13 a1 "com/example/informal_search/informalsearch/ranking/Feedback" "terms" "I" (.int p3) := Fl12.same W13
  have Ex14 := (Ex11.wr W13)
  have Fl15 := (Fw10.other W13 (Or.inr (slot_ne (Or.inr (w_19 hw)) (Or.inr (w_21 hw)) (by decide) (t := .int) (t' := .int) (by decide) (by decide))))
  have Fl16 := ((Fw7.other W10 (Or.inr (slot_ne (Or.inr (w_17 hw)) (Or.inr (w_19 hw)) (by decide) (t := .double) (t' := .int) (by decide) (by decide)))).other W13 (Or.inr (slot_ne (Or.inr (w_17 hw)) (Or.inr (w_21 hw)) (by decide) (t := .double) (t' := .int) (by decide) (by decide))))
  have Kp0 : Keep h0 h7 [a1] := (Keep.refl h0 [a1]).wr W7 (Or.inl (List.mem_of_getElem? (i := 0) rfl))
  have Kp1 : Keep h0 h10 [a1] := Kp0.wr W10 (Or.inl (List.mem_of_getElem? (i := 0) rfl))
  have Kp2 : Keep h0 h13 [a1] := Kp1.wr W13 (Or.inl (List.mem_of_getElem? (i := 0) rfl))
  refine ⟨T13, _, _, _, none, X13, (fun _ => rfl), by decide, by decide, ?_, fun fs hr => ?_⟩
  · show Q16 Z a1 p2 p3 h0 n0 _ T13.heap _
    rw [e13]
    exact ⟨rfl, N13, Kp2, Ex14, Fl15, Fw13, Fl16⟩
  · show Steps p.tables e below (s₁.setTop (mkF m 0 #[.val (.ref a1), .val (.double (4607182418800017408 : UInt64)), .second, .val (.int p2), .val (.int p3)] [])) _
    refine XS.aloadN X0.here hx rfl (hb hby d1_0) rfl rfl ?_
    refine st4 _ ?_
    refine XS.dloadN X4.here hx rfl (hb hby d1_4) rfl ?_
    refine XS.dconst0 X4.here hx rfl (hb hby d1_5) rfl ?_
    refine XS.dcmpS X4.here hx rfl (hb hby d1_6) rfl (by decide +kernel : (cmpValue (FP.dcmp (4607182418800017408 : UInt64) (0 : UInt64)) .l) = (1 : Int32)) ?_
    refine XS.ifNo X4.here hx rfl (hb hby d1_7) rfl ((if0 _ _).trans (flt ((by decide : ¬ ((1 : Int32) < (0 : Int32))) : ¬ ((1 : Int32) < (0 : Int32)))).1) ?_
    refine XS.dloadN X4.here hx rfl (hb hby d1_10) rfl ?_
    refine XS.dconst1 X4.here hx rfl (hb hby d1_11) rfl ?_
    refine XS.dcmpS X4.here hx rfl (hb hby d1_12) rfl (by decide +kernel : (cmpValue (FP.dcmp (4607182418800017408 : UInt64) (4607182418800017408 : UInt64)) .g) = (0 : Int32)) ?_
    refine XS.ifYes X4.here hx rfl (pc0 := 13) (pc' := 30) rfl (hb hby d1_13) rfl ((if0 _ _).trans (flt ((by decide : ¬ ((0 : Int32) < (0 : Int32))) : ¬ ((0 : Int32) < (0 : Int32)))).2.2.2) (by decide) (by decide) ?_
    refine XS.iloadN X4.here hx rfl (hb hby d1_30) rfl ?_
    refine XS.ifNo X4.here hx rfl (hb hby d1_31) rfl ((if0 _ _).trans (flt (c5 : ¬ (p2 < (0 : Int32)))).1) ?_
    show Steps p.tables e below (T4.setTop (mkF m 34 #[.val (.ref a1), .val (.double (4607182418800017408 : UInt64)), .second, .val (.int p2), .val (.int p3)] [])) _
    refine XS.iload X4.here hx rfl (hb hby d1_34) rfl ?_
    refine XS.ifYes X4.here hx rfl (pc0 := 36) (pc' := 55) rfl (hb hby d1_36) rfl ((if0 _ _).trans (flt (c6 : ¬ (p3 < (0 : Int32)))).2.1) (by decide) (by decide) ?_
    refine XS.aloadN X4.here hx rfl (hb hby d1_55) rfl rfl ?_
    refine XS.dloadN X4.here hx rfl (hb hby d1_56) rfl ?_
    refine st7 _ ?_
    refine XS.aloadN X7.here hx rfl (hb hby d1_60) rfl rfl ?_
    refine XS.iloadN X7.here hx rfl (hb hby d1_61) rfl ?_
    refine st10 _ ?_
    refine XS.aloadN X10.here hx rfl (hb hby d1_65) rfl rfl ?_
    refine XS.iload X10.here hx rfl (hb hby d1_66) rfl ?_
    refine st13 _ ?_
    exact X13.returnOut hx hret (hb hby d1_71) hr
-- com/example/informal_search/informalsearch/ranking/Feedback.expands()Z
abbrev Rm17 : Room := { frames := 0, cells := 0, slots := 0, locals := 0 }
def Q17 (Z : State) (a1 : Addr) (p3 : Int32) (h0 : Heap) (n0 : Nat) (v : Option Value) (h : Heap) (L : List Loc) : Prop := v = some (.int (0 : Int32)) ∧ Fr n0 L ∧ h = h0
theorem ef17 (a1 : Addr) (m : MethodId) : entryFrame m #[(.ref a1)] 1 = mkF m 0 #[.val (.ref a1)] [] := by first | (simp [entryFrame, mkF, argsToLocals, Value.category]; done) | rfl
theorem rm17 (l : Launch) (Z : State) (a0 : Array Value) (hw : ∀ d ∈ tables_1, d.before a0 Z = true) (ws : List Jvm.Cond) (a1 : Addr) (p3 : Int32) (h0 : Heap) (n0 : Nat) (Z0 : n0 ≤ h0.size) (F_weight_a1 : Fld Z h0 a1 "com/example/informal_search/informalsearch/ranking/Feedback" "weight" "D" (.double (4607182418800017408 : UInt64))) (F_entities_a1 : Fld Z h0 a1 "com/example/informal_search/informalsearch/ranking/Feedback" "entities" "I" (.int p3)) (c5 : ¬ ((0 : Int32) < p3)) :
    OwnMet l Z y_2 prog_62_method_2_code 1 (some .boolean) ws Rm17 #[(.ref a1)] h0 (Q17 Z a1 p3 h0 n0) := by
  refine own_body (plainFor_of_name pn_1) (ef17 a1) ?_
  intro p e s m below meth c s₁ hx hby hml hown hnm hret hZ X0 e0
  have N0 := Fr.nil n0
  obtain ⟨T2, X2, e2, st2⟩ := getF X0 hx hZ hown (host := "") (Or.inl (w_16 hw)) Via.refl e0 F_weight_a1 (g := (mkF m 1 #[.val (.ref a1)] [(.ref a1)])) rfl rfl (hb hby d4_1)
  obtain ⟨T4, X4, e4, st4⟩ := getF X2 hx hZ hown (host := "") (Or.inl (w_18 hw)) Via.refl e2 F_entities_a1 (g := (mkF m 10 #[.val (.ref a1)] [(.ref a1)])) rfl rfl (hb hby d4_10)
  refine ⟨T4, _, _, _, (some (.int (0 : Int32))), X4, nofun, by decide, by decide, ?_, fun fs hr => ?_⟩
  · show Q17 Z a1 p3 h0 n0 _ T4.heap _
    rw [e4]
    exact ⟨rfl, N0, rfl⟩
  · show Steps p.tables e below (s₁.setTop (mkF m 0 #[.val (.ref a1)] [])) _
    refine XS.aloadN X0.here hx rfl (hb hby d4_0) rfl rfl ?_
    refine st2 _ ?_
    refine XS.dconst0 X2.here hx rfl (hb hby d4_4) rfl ?_
    refine XS.dcmpS X2.here hx rfl (hb hby d4_5) rfl (by decide +kernel : (cmpValue (FP.dcmp (4607182418800017408 : UInt64) (0 : UInt64)) .l) = (1 : Int32)) ?_
    refine XS.ifNo X2.here hx rfl (hb hby d4_6) rfl ((if0 _ _).trans (tlt ((by decide : (0 : Int32) < (1 : Int32)) : (0 : Int32) < (1 : Int32))).2.2.2) ?_
    refine XS.aloadN X2.here hx rfl (hb hby d4_9) rfl rfl ?_
    refine st4 _ ?_
    refine XS.ifYes X4.here hx rfl (pc0 := 13) (pc' := 27) rfl (hb hby d4_13) rfl ((if0 _ _).trans (flt (c5 : ¬ ((0 : Int32) < p3))).2.2.2) (by decide) (by decide) ?_
    refine XS.iconst X4.here hx rfl (hb hby d4_27) ?_
    exact retN X4 hx (t := .boolean) hret (by simp) (hb hby d4_28) hr
theorem rm0_10 (l : Launch) (Z : State) (a0 : Array Value) (hw : ∀ d ∈ tables_1, d.before a0 Z = true) (ws : List Jvm.Cond) (p1 : Int32) (p2 : Int32) (p3 : Int32) (h0 : Heap) (n0 : Nat) (Z0 : n0 ≤ h0.size) (Od0 : Old Z n0 h0) (hk : ((p1 &&& (2147483647 : Int32)) - ((p1 &&& (2147483647 : Int32)) / (5 : Int32)) * (5 : Int32)) = (4 : Int32)) (cc1 : (p2 &&& (2147483647 : Int32)) = (0 : Int32)) :
    OwnMet l Z x code maxLocals ret ws room_1 #[(.int p1), (.int p2), (.int p3)] h0 (Q0 n0) := by
  refine own_body (plainFor_of_name pn_2) (ef0 p1 p2 p3) ?_
  intro p e s m below meth c s₁ hx hby hml hown hnm hret hZ X0 e0
  have N0 := Fr.nil n0
  obtain ⟨T1, h1, X1, e1, E1, A1, D1, -, st1⟩ := newO X0 hx hZ hown (w_2 hw) (w_3 hw) (w_4 hw) e0 (g := (mkF m 27 #[.val (.int p1), .val (.int p2), .val (.int p3), .val (.int (4 : Int32)), .val (.int (p2 &&& (2147483647 : Int32))), .val (.int (p3 &&& (2147483647 : Int32))), .val (.double (4607182418800017408 : UInt64)), .second, .unset, .unset] [])) rfl (hb hby at_27) (by decide) (by decide)
  obtain ⟨b1, g1⟩ : ∃ z, z = h0.size := ⟨_, rfl⟩
  rw [← g1] at A1 D1 st1
  have s0 := E1.1
  have Fn1_weight : Fld Z h1 b1 "com/example/informal_search/informalsearch/ranking/Feedback" "weight" "D" (.double (0 : UInt64)) := D1 (Or.inr (w_17 hw)) (ty := .double) (by decide)
  have Fn1_entities : Fld Z h1 b1 "com/example/informal_search/informalsearch/ranking/Feedback" "entities" "I" (.int (0 : Int32)) := D1 (Or.inr (w_19 hw)) (ty := .int) (by decide)
  have Fn1_terms : Fld Z h1 b1 "com/example/informal_search/informalsearch/ranking/Feedback" "terms" "I" (.int (0 : Int32)) := D1 (Or.inr (w_21 hw)) (ty := .int) (by decide)
  have cd2 : ¬ ((p2 &&& (2147483647 : Int32)) < (0 : Int32)) := (by rw [Int32.lt_iff_toInt_lt]; have := rng32 (p2 &&& (2147483647 : Int32)); have := rng32 p2; have := own_mask p2 (2147483647 : Int32) 31 (by decide) (by decide) 2147483648 (by decide); have : ((0 : Int32)).toInt = 0 := (by decide); omega)
  have cd3 : ¬ ((p3 &&& (2147483647 : Int32)) < (0 : Int32)) := (by rw [Int32.lt_iff_toInt_lt]; have := rng32 (p3 &&& (2147483647 : Int32)); have := rng32 p3; have := own_mask p3 (2147483647 : Int32) 31 (by decide) (by decide) 2147483648 (by decide); have : ((0 : Int32)).toInt = 0 := (by decide); omega)
  have g_b1 : n0 ≤ b1 := Nat.le_trans Z0 (Nat.le_of_eq g1.symm)
  have z1 := Nat.le_trans Z0 s0
  obtain ⟨_, T4, L4, X4, hQ4, st4⟩ := own_special X1 hx hZ hown (y := y_1) (a := b1) (w_5 hw) (w_6 hw) (w_4 hw) (w_7 hw) (rm16 l Z a0 hw [] b1 (p2 &&& (2147483647 : Int32)) (p3 &&& (2147483647 : Int32)) h1 n0 z1 cd2 cd3 Fn1_weight A1 g_b1 Fn1_entities Fn1_terms) e1 (Ls := #[.val (.int p1), .val (.int p2), .val (.int p3), .val (.int (4 : Int32)), .val (.int (p2 &&& (2147483647 : Int32))), .val (.int (p3 &&& (2147483647 : Int32))), .val (.double (4607182418800017408 : UInt64)), .second, .unset, .unset]) (by rw [hml]; rfl) (argsL := [(.double (4607182418800017408 : UInt64)), (.int (p2 &&& (2147483647 : Int32))), (.int (p3 &&& (2147483647 : Int32)))]) (rest := [(.ref b1)]) (lenOf pd_1 rfl) (hb hby at_37) (W := 1)
  obtain ⟨rfl, Nq4, K4, o4_0, o4_1, o4_2, o4_3⟩ := hQ4
  have N4 := Fr.app N0 Nq4
  have s1 := K4.1
  have cd5 : ¬ ((0 : Int32) < (p2 &&& (2147483647 : Int32))) := (by rw [cc1]; decide)
  have z2 := Nat.le_trans Z0 (Nat.le_trans s0 s1)
  obtain ⟨_, T6, L6, X6, hQ6, st6⟩ := own_virtual X4 hx hZ hown (y := y_2) (z := y_2) o4_0 (w_22 hw) (w_23 hw) (notFace_of_selects (args := #[]) (mvT hZ (w_25 hw))) (w_25 hw) (w_24 hw) (w_4 hw) (w_26 hw) (rm17 l Z a0 hw [] b1 (p2 &&& (2147483647 : Int32)) T4.heap n0 z2 o4_3 o4_1 cd5) rfl (Ls := #[.val (.int p1), .val (.int p2), .val (.int p3), .val (.int (4 : Int32)), .val (.int (p2 &&& (2147483647 : Int32))), .val (.int (p3 &&& (2147483647 : Int32))), .val (.double (4607182418800017408 : UInt64)), .second, .val (.ref b1), .val (.int (0 : Int32))]) (by rw [hml]; rfl) (argsL := []) (rest := []) (lenOf pd_2 rfl) (hb hby at_65) (W := 0)
  obtain ⟨rfl, Nq6, e6⟩ := hQ6
  have N6 := Fr.app N4 Nq6
  refine ⟨T6, _, _, _, (some (.int (1 : Int32))), X6, nofun, by decide, by decide, ?_, fun fs hr => ?_⟩
  · show Q0 n0 _ T6.heap _
    rw [e6]
    exact ⟨rfl, N6⟩
  · show Steps p.tables e below (s₁.setTop (mkF m 0 #[.val (.int p1), .val (.int p2), .val (.int p3), .unset, .unset, .unset, .unset, .unset, .unset, .unset] [])) _
    refine XS.iloadN X0.here hx rfl (hb hby at_0) rfl ?_
    refine X0.ldcInt hx hown (mvT hZ (w_0 hw)) (g := (mkF m 1 #[.val (.int p1), .val (.int p2), .val (.int p3), .unset, .unset, .unset, .unset, .unset, .unset, .unset] [(.int p1)])) rfl (hb hby at_1) _ ?_
    refine XS.iand X0.here hx rfl (hb hby at_3) rfl ?_
    refine XS.iconst X0.here hx rfl (hb hby at_4) ?_
    refine XS.irem X0.here hx rfl (hb hby at_5) rfl (by decide : ¬ ((5 : Int32) = (0 : Int32))) ?_
    show Steps p.tables e below (s₁.setTop (mkF m 6 #[.val (.int p1), .val (.int p2), .val (.int p3), .unset, .unset, .unset, .unset, .unset, .unset, .unset] [(.int ((p1 &&& (2147483647 : Int32)) - ((p1 &&& (2147483647 : Int32)) / (5 : Int32)) * (5 : Int32)))])) _
    rw [hk]
    refine XS.istoreN X0.here hx rfl (hb hby at_6) rfl (l' := #[.val (.int p1), .val (.int p2), .val (.int p3), .val (.int (4 : Int32)), .unset, .unset, .unset, .unset, .unset, .unset]) rfl ?_
    refine XS.iloadN X0.here hx rfl (hb hby at_7) rfl ?_
    refine X0.ldcInt hx hown (mvT hZ (w_0 hw)) (g := (mkF m 8 #[.val (.int p1), .val (.int p2), .val (.int p3), .val (.int (4 : Int32)), .unset, .unset, .unset, .unset, .unset, .unset] [(.int p2)])) rfl (hb hby at_8) _ ?_
    refine XS.iand X0.here hx rfl (hb hby at_10) rfl ?_
    refine XS.istore X0.here hx rfl (hb hby at_11) rfl (l' := #[.val (.int p1), .val (.int p2), .val (.int p3), .val (.int (4 : Int32)), .val (.int (p2 &&& (2147483647 : Int32))), .unset, .unset, .unset, .unset, .unset]) rfl ?_
    refine XS.iloadN X0.here hx rfl (hb hby at_13) rfl ?_
    refine X0.ldcInt hx hown (mvT hZ (w_0 hw)) (g := (mkF m 14 #[.val (.int p1), .val (.int p2), .val (.int p3), .val (.int (4 : Int32)), .val (.int (p2 &&& (2147483647 : Int32))), .unset, .unset, .unset, .unset, .unset] [(.int p3)])) rfl (hb hby at_14) _ ?_
    refine XS.iand X0.here hx rfl (hb hby at_16) rfl ?_
    refine XS.istore X0.here hx rfl (hb hby at_17) rfl (l' := #[.val (.int p1), .val (.int p2), .val (.int p3), .val (.int (4 : Int32)), .val (.int (p2 &&& (2147483647 : Int32))), .val (.int (p3 &&& (2147483647 : Int32))), .unset, .unset, .unset, .unset]) rfl ?_
    refine XS.iloadN X0.here hx rfl (hb hby at_19) rfl ?_
    refine XS.i2dS X0.here hx rfl (hb hby at_20) rfl (by decide +kernel : (FP.i2d (4 : Int32)) = (4616189618054758400 : UInt64)) ?_
    show Steps p.tables e below (s₁.setTop (mkF m 21 #[.val (.int p1), .val (.int p2), .val (.int p3), .val (.int (4 : Int32)), .val (.int (p2 &&& (2147483647 : Int32))), .val (.int (p3 &&& (2147483647 : Int32))), .unset, .unset, .unset, .unset] [(.double (4616189618054758400 : UInt64))])) _
    refine X0.ldc2DoubleC hx hown (mvT hZ (w_1 hw)) (g := (mkF m 21 #[.val (.int p1), .val (.int p2), .val (.int p3), .val (.int (4 : Int32)), .val (.int (p2 &&& (2147483647 : Int32))), .val (.int (p3 &&& (2147483647 : Int32))), .unset, .unset, .unset, .unset] [(.double (4616189618054758400 : UInt64))])) rfl (hb hby at_21) _ ?_
    refine XS.ddivS X0.here hx rfl (hb hby at_24) rfl (by decide +kernel) (by decide +kernel : (FP.ddiv (4616189618054758400 : UInt64) (4616189618054758400 : UInt64)) = (4607182418800017408 : UInt64)) ?_
    refine XS.dstore X0.here hx rfl (hb hby at_25) rfl (l' := #[.val (.int p1), .val (.int p2), .val (.int p3), .val (.int (4 : Int32)), .val (.int (p2 &&& (2147483647 : Int32))), .val (.int (p3 &&& (2147483647 : Int32))), .val (.double (4607182418800017408 : UInt64)), .second, .unset, .unset]) rfl ?_
    refine st1 _ ?_
    refine XS.dup X1.here hx rfl (hb hby at_30) rfl rfl ?_
    refine XS.dload X1.here hx rfl (hb hby at_31) rfl ?_
    refine XS.iload X1.here hx rfl (hb hby at_33) rfl ?_
    refine XS.iload X1.here hx rfl (hb hby at_35) rfl ?_
    refine st4 _ ?_
    refine XS.astore X4.here hx rfl (hb hby at_40) rfl rfl (l' := #[.val (.int p1), .val (.int p2), .val (.int p3), .val (.int (4 : Int32)), .val (.int (p2 &&& (2147483647 : Int32))), .val (.int (p3 &&& (2147483647 : Int32))), .val (.double (4607182418800017408 : UInt64)), .second, .val (.ref b1), .unset]) rfl ?_
    refine XS.iloadN X4.here hx rfl (hb hby at_42) rfl ?_
    refine XS.ifNo X4.here hx rfl (hb hby at_43) rfl ((if0 _ _).trans (feq ((by decide : ¬ ((4 : Int32) = (0 : Int32))) : ¬ ((4 : Int32) = (0 : Int32)))).1) ?_
    show Steps p.tables e below (T4.setTop (mkF m 46 #[.val (.int p1), .val (.int p2), .val (.int p3), .val (.int (4 : Int32)), .val (.int (p2 &&& (2147483647 : Int32))), .val (.int (p3 &&& (2147483647 : Int32))), .val (.double (4607182418800017408 : UInt64)), .second, .val (.ref b1), .unset] [])) _
    refine XS.iload X4.here hx rfl (hb hby at_46) rfl ?_
    refine XS.ifYes X4.here hx rfl (pc0 := 48) (pc' := 60) rfl (hb hby at_48) rfl ((if0 _ _).trans (teq (cc1 : (p2 &&& (2147483647 : Int32)) = (0 : Int32))).1) (by decide) (by decide) ?_
    refine XS.iconst X4.here hx rfl (hb hby at_60) ?_
    refine XS.istore X4.here hx rfl (hb hby at_61) rfl (l' := #[.val (.int p1), .val (.int p2), .val (.int p3), .val (.int (4 : Int32)), .val (.int (p2 &&& (2147483647 : Int32))), .val (.int (p3 &&& (2147483647 : Int32))), .val (.double (4607182418800017408 : UInt64)), .second, .val (.ref b1), .val (.int (0 : Int32))]) rfl ?_
    refine XS.aload X4.here hx rfl (hb hby at_63) rfl rfl ?_
    refine st6 _ ?_
    refine XS.iload X6.here hx rfl (hb hby at_68) rfl ?_
    refine XS.icmpNo X6.here hx rfl (hb hby at_70) rfl (teq ((by decide : (0 : Int32) = (0 : Int32)) : (0 : Int32) = (0 : Int32))).2 ?_
    refine XS.iconst X6.here hx rfl (hb hby at_73) ?_
    refine XS.goto X6.here hx rfl (pc0 := 74) (pc' := 78) rfl (hb hby at_74) (by decide) (by decide) ?_
    exact retN X6 hx (t := .boolean) hret (by simp) (hb hby at_78) hr
-- com/example/informal_search/informalsearch/ranking/Feedback.expands()Z
abbrev Rm18 : Room := { frames := 0, cells := 0, slots := 0, locals := 0 }
def Q18 (Z : State) (a1 : Addr) (p3 : Int32) (p6 : Int32) (h0 : Heap) (n0 : Nat) (v : Option Value) (h : Heap) (L : List Loc) : Prop := v = some (.int (0 : Int32)) ∧ Fr n0 L ∧ h = h0
theorem ef18 (a1 : Addr) (m : MethodId) : entryFrame m #[(.ref a1)] 1 = mkF m 0 #[.val (.ref a1)] [] := by first | (simp [entryFrame, mkF, argsToLocals, Value.category]; done) | rfl
theorem rm18 (l : Launch) (Z : State) (a0 : Array Value) (hw : ∀ d ∈ tables_1, d.before a0 Z = true) (ws : List Jvm.Cond) (a1 : Addr) (p3 : Int32) (p6 : Int32) (h0 : Heap) (n0 : Nat) (Z0 : n0 ≤ h0.size) (F_weight_a1 : Fld Z h0 a1 "com/example/informal_search/informalsearch/ranking/Feedback" "weight" "D" (.double (4607182418800017408 : UInt64))) (F_entities_a1 : Fld Z h0 a1 "com/example/informal_search/informalsearch/ranking/Feedback" "entities" "I" (.int p3)) (c5 : (0 : Int32) < p3) (F_terms_a1 : Fld Z h0 a1 "com/example/informal_search/informalsearch/ranking/Feedback" "terms" "I" (.int p6)) (c8 : ¬ ((0 : Int32) < p6)) :
    OwnMet l Z y_2 prog_62_method_2_code 1 (some .boolean) ws Rm18 #[(.ref a1)] h0 (Q18 Z a1 p3 p6 h0 n0) := by
  refine own_body (plainFor_of_name pn_1) (ef18 a1) ?_
  intro p e s m below meth c s₁ hx hby hml hown hnm hret hZ X0 e0
  have N0 := Fr.nil n0
  obtain ⟨T2, X2, e2, st2⟩ := getF X0 hx hZ hown (host := "") (Or.inl (w_16 hw)) Via.refl e0 F_weight_a1 (g := (mkF m 1 #[.val (.ref a1)] [(.ref a1)])) rfl rfl (hb hby d4_1)
  obtain ⟨T4, X4, e4, st4⟩ := getF X2 hx hZ hown (host := "") (Or.inl (w_18 hw)) Via.refl e2 F_entities_a1 (g := (mkF m 10 #[.val (.ref a1)] [(.ref a1)])) rfl rfl (hb hby d4_10)
  obtain ⟨T7, X7, e7, st7⟩ := getF X4 hx hZ hown (host := "") (Or.inl (w_20 hw)) Via.refl e4 F_terms_a1 (g := (mkF m 17 #[.val (.ref a1)] [(.ref a1)])) rfl rfl (hb hby d4_17)
  refine ⟨T7, _, _, _, (some (.int (0 : Int32))), X7, nofun, by decide, by decide, ?_, fun fs hr => ?_⟩
  · show Q18 Z a1 p3 p6 h0 n0 _ T7.heap _
    rw [e7]
    exact ⟨rfl, N0, rfl⟩
  · show Steps p.tables e below (s₁.setTop (mkF m 0 #[.val (.ref a1)] [])) _
    refine XS.aloadN X0.here hx rfl (hb hby d4_0) rfl rfl ?_
    refine st2 _ ?_
    refine XS.dconst0 X2.here hx rfl (hb hby d4_4) rfl ?_
    refine XS.dcmpS X2.here hx rfl (hb hby d4_5) rfl (by decide +kernel : (cmpValue (FP.dcmp (4607182418800017408 : UInt64) (0 : UInt64)) .l) = (1 : Int32)) ?_
    refine XS.ifNo X2.here hx rfl (hb hby d4_6) rfl ((if0 _ _).trans (tlt ((by decide : (0 : Int32) < (1 : Int32)) : (0 : Int32) < (1 : Int32))).2.2.2) ?_
    refine XS.aloadN X2.here hx rfl (hb hby d4_9) rfl rfl ?_
    refine st4 _ ?_
    refine XS.ifNo X4.here hx rfl (hb hby d4_13) rfl ((if0 _ _).trans (tlt (c5 : (0 : Int32) < p3)).2.2.2) ?_
    refine XS.aloadN X4.here hx rfl (hb hby d4_16) rfl rfl ?_
    refine st7 _ ?_
    refine XS.ifYes X7.here hx rfl (pc0 := 20) (pc' := 27) rfl (hb hby d4_20) rfl ((if0 _ _).trans (flt (c8 : ¬ ((0 : Int32) < p6))).2.2.2) (by decide) (by decide) ?_
    refine XS.iconst X7.here hx rfl (hb hby d4_27) ?_
    show Steps p.tables e below (T7.setTop (mkF m 28 #[.val (.ref a1)] [(.int (0 : Int32))])) _
    exact retN X7 hx (t := .boolean) hret (by simp) (hb hby d4_28) hr
theorem rm0_11 (l : Launch) (Z : State) (a0 : Array Value) (hw : ∀ d ∈ tables_1, d.before a0 Z = true) (ws : List Jvm.Cond) (p1 : Int32) (p2 : Int32) (p3 : Int32) (h0 : Heap) (n0 : Nat) (Z0 : n0 ≤ h0.size) (Od0 : Old Z n0 h0) (hk : ((p1 &&& (2147483647 : Int32)) - ((p1 &&& (2147483647 : Int32)) / (5 : Int32)) * (5 : Int32)) = (4 : Int32)) (cc1 : ¬ ((p2 &&& (2147483647 : Int32)) = (0 : Int32))) (cc2 : (p3 &&& (2147483647 : Int32)) = (0 : Int32)) :
    OwnMet l Z x code maxLocals ret ws room_1 #[(.int p1), (.int p2), (.int p3)] h0 (Q0 n0) := by
  refine own_body (plainFor_of_name pn_2) (ef0 p1 p2 p3) ?_
  intro p e s m below meth c s₁ hx hby hml hown hnm hret hZ X0 e0
  have N0 := Fr.nil n0
  obtain ⟨T1, h1, X1, e1, E1, A1, D1, -, st1⟩ := newO X0 hx hZ hown (w_2 hw) (w_3 hw) (w_4 hw) e0 (g := (mkF m 27 #[.val (.int p1), .val (.int p2), .val (.int p3), .val (.int (4 : Int32)), .val (.int (p2 &&& (2147483647 : Int32))), .val (.int (p3 &&& (2147483647 : Int32))), .val (.double (4607182418800017408 : UInt64)), .second, .unset, .unset] [])) rfl (hb hby at_27) (by decide) (by decide)
  obtain ⟨b1, g1⟩ : ∃ z, z = h0.size := ⟨_, rfl⟩
  rw [← g1] at A1 D1 st1
  have s0 := E1.1
  have Fn1_weight : Fld Z h1 b1 "com/example/informal_search/informalsearch/ranking/Feedback" "weight" "D" (.double (0 : UInt64)) := D1 (Or.inr (w_17 hw)) (ty := .double) (by decide)
  have Fn1_entities : Fld Z h1 b1 "com/example/informal_search/informalsearch/ranking/Feedback" "entities" "I" (.int (0 : Int32)) := D1 (Or.inr (w_19 hw)) (ty := .int) (by decide)
  have Fn1_terms : Fld Z h1 b1 "com/example/informal_search/informalsearch/ranking/Feedback" "terms" "I" (.int (0 : Int32)) := D1 (Or.inr (w_21 hw)) (ty := .int) (by decide)
  have cd2 : ¬ ((p2 &&& (2147483647 : Int32)) < (0 : Int32)) := (by rw [Int32.lt_iff_toInt_lt]; have := rng32 (p2 &&& (2147483647 : Int32)); have := rng32 p2; have := own_mask p2 (2147483647 : Int32) 31 (by decide) (by decide) 2147483648 (by decide); have : ((0 : Int32)).toInt = 0 := (by decide); omega)
  have cd3 : ¬ ((p3 &&& (2147483647 : Int32)) < (0 : Int32)) := (by rw [Int32.lt_iff_toInt_lt]; have := rng32 (p3 &&& (2147483647 : Int32)); have := rng32 p3; have := own_mask p3 (2147483647 : Int32) 31 (by decide) (by decide) 2147483648 (by decide); have : ((0 : Int32)).toInt = 0 := (by decide); omega)
  have g_b1 : n0 ≤ b1 := Nat.le_trans Z0 (Nat.le_of_eq g1.symm)
  have z1 := Nat.le_trans Z0 s0
  obtain ⟨_, T4, L4, X4, hQ4, st4⟩ := own_special X1 hx hZ hown (y := y_1) (a := b1) (w_5 hw) (w_6 hw) (w_4 hw) (w_7 hw) (rm16 l Z a0 hw [] b1 (p2 &&& (2147483647 : Int32)) (p3 &&& (2147483647 : Int32)) h1 n0 z1 cd2 cd3 Fn1_weight A1 g_b1 Fn1_entities Fn1_terms) e1 (Ls := #[.val (.int p1), .val (.int p2), .val (.int p3), .val (.int (4 : Int32)), .val (.int (p2 &&& (2147483647 : Int32))), .val (.int (p3 &&& (2147483647 : Int32))), .val (.double (4607182418800017408 : UInt64)), .second, .unset, .unset]) (by rw [hml]; rfl) (argsL := [(.double (4607182418800017408 : UInt64)), (.int (p2 &&& (2147483647 : Int32))), (.int (p3 &&& (2147483647 : Int32)))]) (rest := [(.ref b1)]) (lenOf pd_1 rfl) (hb hby at_37) (W := 1)
  obtain ⟨rfl, Nq4, K4, o4_0, o4_1, o4_2, o4_3⟩ := hQ4
  have N4 := Fr.app N0 Nq4
  have s1 := K4.1
  have cd5 : (0 : Int32) < (p2 &&& (2147483647 : Int32)) := (by rw [Int32.lt_iff_toInt_lt]; have hz : ((p2 &&& (2147483647 : Int32))).toInt ≠ ((0 : Int32)).toInt := fun q => cc1 (Int32.toInt_inj.mp q); have : ((0 : Int32)).toInt = 0 := (by decide); have := rng32 (p2 &&& (2147483647 : Int32)); have := rng32 p2; have := own_mask p2 (2147483647 : Int32) 31 (by decide) (by decide) 2147483648 (by decide); omega)
  have cd6 : ¬ ((0 : Int32) < (p3 &&& (2147483647 : Int32))) := (by rw [cc2]; decide)
  have z2 := Nat.le_trans Z0 (Nat.le_trans s0 s1)
  obtain ⟨_, T7, L7, X7, hQ7, st7⟩ := own_virtual X4 hx hZ hown (y := y_2) (z := y_2) o4_0 (w_22 hw) (w_23 hw) (notFace_of_selects (args := #[]) (mvT hZ (w_25 hw))) (w_25 hw) (w_24 hw) (w_4 hw) (w_26 hw) (rm18 l Z a0 hw [] b1 (p2 &&& (2147483647 : Int32)) (p3 &&& (2147483647 : Int32)) T4.heap n0 z2 o4_3 o4_1 cd5 o4_2 cd6) rfl (Ls := #[.val (.int p1), .val (.int p2), .val (.int p3), .val (.int (4 : Int32)), .val (.int (p2 &&& (2147483647 : Int32))), .val (.int (p3 &&& (2147483647 : Int32))), .val (.double (4607182418800017408 : UInt64)), .second, .val (.ref b1), .val (.int (0 : Int32))]) (by rw [hml]; rfl) (argsL := []) (rest := []) (lenOf pd_2 rfl) (hb hby at_65) (W := 0)
  obtain ⟨rfl, Nq7, e7⟩ := hQ7
  have N7 := Fr.app N4 Nq7
  refine ⟨T7, _, _, _, (some (.int (1 : Int32))), X7, nofun, by decide, by decide, ?_, fun fs hr => ?_⟩
  · show Q0 n0 _ T7.heap _
    rw [e7]
    exact ⟨rfl, N7⟩
  · show Steps p.tables e below (s₁.setTop (mkF m 0 #[.val (.int p1), .val (.int p2), .val (.int p3), .unset, .unset, .unset, .unset, .unset, .unset, .unset] [])) _
    refine XS.iloadN X0.here hx rfl (hb hby at_0) rfl ?_
    refine X0.ldcInt hx hown (mvT hZ (w_0 hw)) (g := (mkF m 1 #[.val (.int p1), .val (.int p2), .val (.int p3), .unset, .unset, .unset, .unset, .unset, .unset, .unset] [(.int p1)])) rfl (hb hby at_1) _ ?_
    refine XS.iand X0.here hx rfl (hb hby at_3) rfl ?_
    refine XS.iconst X0.here hx rfl (hb hby at_4) ?_
    refine XS.irem X0.here hx rfl (hb hby at_5) rfl (by decide : ¬ ((5 : Int32) = (0 : Int32))) ?_
    show Steps p.tables e below (s₁.setTop (mkF m 6 #[.val (.int p1), .val (.int p2), .val (.int p3), .unset, .unset, .unset, .unset, .unset, .unset, .unset] [(.int ((p1 &&& (2147483647 : Int32)) - ((p1 &&& (2147483647 : Int32)) / (5 : Int32)) * (5 : Int32)))])) _
    rw [hk]
    refine XS.istoreN X0.here hx rfl (hb hby at_6) rfl (l' := #[.val (.int p1), .val (.int p2), .val (.int p3), .val (.int (4 : Int32)), .unset, .unset, .unset, .unset, .unset, .unset]) rfl ?_
    refine XS.iloadN X0.here hx rfl (hb hby at_7) rfl ?_
    refine X0.ldcInt hx hown (mvT hZ (w_0 hw)) (g := (mkF m 8 #[.val (.int p1), .val (.int p2), .val (.int p3), .val (.int (4 : Int32)), .unset, .unset, .unset, .unset, .unset, .unset] [(.int p2)])) rfl (hb hby at_8) _ ?_
    refine XS.iand X0.here hx rfl (hb hby at_10) rfl ?_
    refine XS.istore X0.here hx rfl (hb hby at_11) rfl (l' := #[.val (.int p1), .val (.int p2), .val (.int p3), .val (.int (4 : Int32)), .val (.int (p2 &&& (2147483647 : Int32))), .unset, .unset, .unset, .unset, .unset]) rfl ?_
    refine XS.iloadN X0.here hx rfl (hb hby at_13) rfl ?_
    refine X0.ldcInt hx hown (mvT hZ (w_0 hw)) (g := (mkF m 14 #[.val (.int p1), .val (.int p2), .val (.int p3), .val (.int (4 : Int32)), .val (.int (p2 &&& (2147483647 : Int32))), .unset, .unset, .unset, .unset, .unset] [(.int p3)])) rfl (hb hby at_14) _ ?_
    refine XS.iand X0.here hx rfl (hb hby at_16) rfl ?_
    refine XS.istore X0.here hx rfl (hb hby at_17) rfl (l' := #[.val (.int p1), .val (.int p2), .val (.int p3), .val (.int (4 : Int32)), .val (.int (p2 &&& (2147483647 : Int32))), .val (.int (p3 &&& (2147483647 : Int32))), .unset, .unset, .unset, .unset]) rfl ?_
    refine XS.iloadN X0.here hx rfl (hb hby at_19) rfl ?_
    refine XS.i2dS X0.here hx rfl (hb hby at_20) rfl (by decide +kernel : (FP.i2d (4 : Int32)) = (4616189618054758400 : UInt64)) ?_
    show Steps p.tables e below (s₁.setTop (mkF m 21 #[.val (.int p1), .val (.int p2), .val (.int p3), .val (.int (4 : Int32)), .val (.int (p2 &&& (2147483647 : Int32))), .val (.int (p3 &&& (2147483647 : Int32))), .unset, .unset, .unset, .unset] [(.double (4616189618054758400 : UInt64))])) _
    refine X0.ldc2DoubleC hx hown (mvT hZ (w_1 hw)) (g := (mkF m 21 #[.val (.int p1), .val (.int p2), .val (.int p3), .val (.int (4 : Int32)), .val (.int (p2 &&& (2147483647 : Int32))), .val (.int (p3 &&& (2147483647 : Int32))), .unset, .unset, .unset, .unset] [(.double (4616189618054758400 : UInt64))])) rfl (hb hby at_21) _ ?_
    refine XS.ddivS X0.here hx rfl (hb hby at_24) rfl (by decide +kernel) (by decide +kernel : (FP.ddiv (4616189618054758400 : UInt64) (4616189618054758400 : UInt64)) = (4607182418800017408 : UInt64)) ?_
    refine XS.dstore X0.here hx rfl (hb hby at_25) rfl (l' := #[.val (.int p1), .val (.int p2), .val (.int p3), .val (.int (4 : Int32)), .val (.int (p2 &&& (2147483647 : Int32))), .val (.int (p3 &&& (2147483647 : Int32))), .val (.double (4607182418800017408 : UInt64)), .second, .unset, .unset]) rfl ?_
    refine st1 _ ?_
    refine XS.dup X1.here hx rfl (hb hby at_30) rfl rfl ?_
    refine XS.dload X1.here hx rfl (hb hby at_31) rfl ?_
    refine XS.iload X1.here hx rfl (hb hby at_33) rfl ?_
    refine XS.iload X1.here hx rfl (hb hby at_35) rfl ?_
    refine st4 _ ?_
    refine XS.astore X4.here hx rfl (hb hby at_40) rfl rfl (l' := #[.val (.int p1), .val (.int p2), .val (.int p3), .val (.int (4 : Int32)), .val (.int (p2 &&& (2147483647 : Int32))), .val (.int (p3 &&& (2147483647 : Int32))), .val (.double (4607182418800017408 : UInt64)), .second, .val (.ref b1), .unset]) rfl ?_
    refine XS.iloadN X4.here hx rfl (hb hby at_42) rfl ?_
    refine XS.ifNo X4.here hx rfl (hb hby at_43) rfl ((if0 _ _).trans (feq ((by decide : ¬ ((4 : Int32) = (0 : Int32))) : ¬ ((4 : Int32) = (0 : Int32)))).1) ?_
    show Steps p.tables e below (T4.setTop (mkF m 46 #[.val (.int p1), .val (.int p2), .val (.int p3), .val (.int (4 : Int32)), .val (.int (p2 &&& (2147483647 : Int32))), .val (.int (p3 &&& (2147483647 : Int32))), .val (.double (4607182418800017408 : UInt64)), .second, .val (.ref b1), .unset] [])) _
    refine XS.iload X4.here hx rfl (hb hby at_46) rfl ?_
    refine XS.ifNo X4.here hx rfl (hb hby at_48) rfl ((if0 _ _).trans (feq (cc1 : ¬ ((p2 &&& (2147483647 : Int32)) = (0 : Int32)))).1) ?_
    refine XS.iload X4.here hx rfl (hb hby at_51) rfl ?_
    refine XS.ifYes X4.here hx rfl (pc0 := 53) (pc' := 60) rfl (hb hby at_53) rfl ((if0 _ _).trans (teq (cc2 : (p3 &&& (2147483647 : Int32)) = (0 : Int32))).1) (by decide) (by decide) ?_
    refine XS.iconst X4.here hx rfl (hb hby at_60) ?_
    refine XS.istore X4.here hx rfl (hb hby at_61) rfl (l' := #[.val (.int p1), .val (.int p2), .val (.int p3), .val (.int (4 : Int32)), .val (.int (p2 &&& (2147483647 : Int32))), .val (.int (p3 &&& (2147483647 : Int32))), .val (.double (4607182418800017408 : UInt64)), .second, .val (.ref b1), .val (.int (0 : Int32))]) rfl ?_
    refine XS.aload X4.here hx rfl (hb hby at_63) rfl rfl ?_
    refine st7 _ ?_
    refine XS.iload X7.here hx rfl (hb hby at_68) rfl ?_
    refine XS.icmpNo X7.here hx rfl (hb hby at_70) rfl (teq ((by decide : (0 : Int32) = (0 : Int32)) : (0 : Int32) = (0 : Int32))).2 ?_
    refine XS.iconst X7.here hx rfl (hb hby at_73) ?_
    refine XS.goto X7.here hx rfl (pc0 := 74) (pc' := 78) rfl (hb hby at_74) (by decide) (by decide) ?_
    show Steps p.tables e below (T7.setTop (mkF m 78 #[.val (.int p1), .val (.int p2), .val (.int p3), .val (.int (4 : Int32)), .val (.int (p2 &&& (2147483647 : Int32))), .val (.int (p3 &&& (2147483647 : Int32))), .val (.double (4607182418800017408 : UInt64)), .second, .val (.ref b1), .val (.int (0 : Int32))] [(.int (1 : Int32))])) _
    exact retN X7 hx (t := .boolean) hret (by simp) (hb hby at_78) hr
-- com/example/informal_search/informalsearch/ranking/Feedback.expands()Z
abbrev Rm19 : Room := { frames := 0, cells := 0, slots := 0, locals := 0 }
def Q19 (Z : State) (a1 : Addr) (p3 : Int32) (p6 : Int32) (h0 : Heap) (n0 : Nat) (v : Option Value) (h : Heap) (L : List Loc) : Prop := v = some (.int (1 : Int32)) ∧ Fr n0 L ∧ h = h0
theorem ef19 (a1 : Addr) (m : MethodId) : entryFrame m #[(.ref a1)] 1 = mkF m 0 #[.val (.ref a1)] [] := by first | (simp [entryFrame, mkF, argsToLocals, Value.category]; done) | rfl
theorem rm19 (l : Launch) (Z : State) (a0 : Array Value) (hw : ∀ d ∈ tables_1, d.before a0 Z = true) (ws : List Jvm.Cond) (a1 : Addr) (p3 : Int32) (p6 : Int32) (h0 : Heap) (n0 : Nat) (Z0 : n0 ≤ h0.size) (F_weight_a1 : Fld Z h0 a1 "com/example/informal_search/informalsearch/ranking/Feedback" "weight" "D" (.double (4607182418800017408 : UInt64))) (F_entities_a1 : Fld Z h0 a1 "com/example/informal_search/informalsearch/ranking/Feedback" "entities" "I" (.int p3)) (c5 : (0 : Int32) < p3) (F_terms_a1 : Fld Z h0 a1 "com/example/informal_search/informalsearch/ranking/Feedback" "terms" "I" (.int p6)) (c8 : (0 : Int32) < p6) :
    OwnMet l Z y_2 prog_62_method_2_code 1 (some .boolean) ws Rm19 #[(.ref a1)] h0 (Q19 Z a1 p3 p6 h0 n0) := by
  refine own_body (plainFor_of_name pn_1) (ef19 a1) ?_
  intro p e s m below meth c s₁ hx hby hml hown hnm hret hZ X0 e0
  have N0 := Fr.nil n0
  obtain ⟨T2, X2, e2, st2⟩ := getF X0 hx hZ hown (host := "") (Or.inl (w_16 hw)) Via.refl e0 F_weight_a1 (g := (mkF m 1 #[.val (.ref a1)] [(.ref a1)])) rfl rfl (hb hby d4_1)
  obtain ⟨T4, X4, e4, st4⟩ := getF X2 hx hZ hown (host := "") (Or.inl (w_18 hw)) Via.refl e2 F_entities_a1 (g := (mkF m 10 #[.val (.ref a1)] [(.ref a1)])) rfl rfl (hb hby d4_10)
  obtain ⟨T7, X7, e7, st7⟩ := getF X4 hx hZ hown (host := "") (Or.inl (w_20 hw)) Via.refl e4 F_terms_a1 (g := (mkF m 17 #[.val (.ref a1)] [(.ref a1)])) rfl rfl (hb hby d4_17)
  refine ⟨T7, _, _, _, (some (.int (1 : Int32))), X7, nofun, by decide, by decide, ?_, fun fs hr => ?_⟩
  · show Q19 Z a1 p3 p6 h0 n0 _ T7.heap _
    rw [e7]
    exact ⟨rfl, N0, rfl⟩
  · show Steps p.tables e below (s₁.setTop (mkF m 0 #[.val (.ref a1)] [])) _
    refine XS.aloadN X0.here hx rfl (hb hby d4_0) rfl rfl ?_
    refine st2 _ ?_
    refine XS.dconst0 X2.here hx rfl (hb hby d4_4) rfl ?_
    refine XS.dcmpS X2.here hx rfl (hb hby d4_5) rfl (by decide +kernel : (cmpValue (FP.dcmp (4607182418800017408 : UInt64) (0 : UInt64)) .l) = (1 : Int32)) ?_
    refine XS.ifNo X2.here hx rfl (hb hby d4_6) rfl ((if0 _ _).trans (tlt ((by decide : (0 : Int32) < (1 : Int32)) : (0 : Int32) < (1 : Int32))).2.2.2) ?_
    refine XS.aloadN X2.here hx rfl (hb hby d4_9) rfl rfl ?_
    refine st4 _ ?_
    refine XS.ifNo X4.here hx rfl (hb hby d4_13) rfl ((if0 _ _).trans (tlt (c5 : (0 : Int32) < p3)).2.2.2) ?_
    refine XS.aloadN X4.here hx rfl (hb hby d4_16) rfl rfl ?_
    refine st7 _ ?_
    refine XS.ifNo X7.here hx rfl (hb hby d4_20) rfl ((if0 _ _).trans (tlt (c8 : (0 : Int32) < p6)).2.2.2) ?_
    refine XS.iconst X7.here hx rfl (hb hby d4_23) ?_
    show Steps p.tables e below (T7.setTop (mkF m 24 #[.val (.ref a1)] [(.int (1 : Int32))])) _
    refine XS.goto X7.here hx rfl (pc0 := 24) (pc' := 28) rfl (hb hby d4_24) (by decide) (by decide) ?_
    exact retN X7 hx (t := .boolean) hret (by simp) (hb hby d4_28) hr
theorem rm0_12 (l : Launch) (Z : State) (a0 : Array Value) (hw : ∀ d ∈ tables_1, d.before a0 Z = true) (ws : List Jvm.Cond) (p1 : Int32) (p2 : Int32) (p3 : Int32) (h0 : Heap) (n0 : Nat) (Z0 : n0 ≤ h0.size) (Od0 : Old Z n0 h0) (hk : ((p1 &&& (2147483647 : Int32)) - ((p1 &&& (2147483647 : Int32)) / (5 : Int32)) * (5 : Int32)) = (4 : Int32)) (cc1 : ¬ ((p2 &&& (2147483647 : Int32)) = (0 : Int32))) (cc2 : ¬ ((p3 &&& (2147483647 : Int32)) = (0 : Int32))) :
    OwnMet l Z x code maxLocals ret ws room_1 #[(.int p1), (.int p2), (.int p3)] h0 (Q0 n0) := by
  refine own_body (plainFor_of_name pn_2) (ef0 p1 p2 p3) ?_
  intro p e s m below meth c s₁ hx hby hml hown hnm hret hZ X0 e0
  have N0 := Fr.nil n0
  obtain ⟨T1, h1, X1, e1, E1, A1, D1, -, st1⟩ := newO X0 hx hZ hown (w_2 hw) (w_3 hw) (w_4 hw) e0 (g := (mkF m 27 #[.val (.int p1), .val (.int p2), .val (.int p3), .val (.int (4 : Int32)), .val (.int (p2 &&& (2147483647 : Int32))), .val (.int (p3 &&& (2147483647 : Int32))), .val (.double (4607182418800017408 : UInt64)), .second, .unset, .unset] [])) rfl (hb hby at_27) (by decide) (by decide)
  obtain ⟨b1, g1⟩ : ∃ z, z = h0.size := ⟨_, rfl⟩
  rw [← g1] at A1 D1 st1
  have s0 := E1.1
  have Fn1_weight : Fld Z h1 b1 "com/example/informal_search/informalsearch/ranking/Feedback" "weight" "D" (.double (0 : UInt64)) := D1 (Or.inr (w_17 hw)) (ty := .double) (by decide)
  have Fn1_entities : Fld Z h1 b1 "com/example/informal_search/informalsearch/ranking/Feedback" "entities" "I" (.int (0 : Int32)) := D1 (Or.inr (w_19 hw)) (ty := .int) (by decide)
  have Fn1_terms : Fld Z h1 b1 "com/example/informal_search/informalsearch/ranking/Feedback" "terms" "I" (.int (0 : Int32)) := D1 (Or.inr (w_21 hw)) (ty := .int) (by decide)
  have cd2 : ¬ ((p2 &&& (2147483647 : Int32)) < (0 : Int32)) := (by rw [Int32.lt_iff_toInt_lt]; have := rng32 (p2 &&& (2147483647 : Int32)); have := rng32 p2; have := own_mask p2 (2147483647 : Int32) 31 (by decide) (by decide) 2147483648 (by decide); have : ((0 : Int32)).toInt = 0 := (by decide); omega)
  have cd3 : ¬ ((p3 &&& (2147483647 : Int32)) < (0 : Int32)) := (by rw [Int32.lt_iff_toInt_lt]; have := rng32 (p3 &&& (2147483647 : Int32)); have := rng32 p3; have := own_mask p3 (2147483647 : Int32) 31 (by decide) (by decide) 2147483648 (by decide); have : ((0 : Int32)).toInt = 0 := (by decide); omega)
  have g_b1 : n0 ≤ b1 := Nat.le_trans Z0 (Nat.le_of_eq g1.symm)
  have z1 := Nat.le_trans Z0 s0
  obtain ⟨_, T4, L4, X4, hQ4, st4⟩ := own_special X1 hx hZ hown (y := y_1) (a := b1) (w_5 hw) (w_6 hw) (w_4 hw) (w_7 hw) (rm16 l Z a0 hw [] b1 (p2 &&& (2147483647 : Int32)) (p3 &&& (2147483647 : Int32)) h1 n0 z1 cd2 cd3 Fn1_weight A1 g_b1 Fn1_entities Fn1_terms) e1 (Ls := #[.val (.int p1), .val (.int p2), .val (.int p3), .val (.int (4 : Int32)), .val (.int (p2 &&& (2147483647 : Int32))), .val (.int (p3 &&& (2147483647 : Int32))), .val (.double (4607182418800017408 : UInt64)), .second, .unset, .unset]) (by rw [hml]; rfl) (argsL := [(.double (4607182418800017408 : UInt64)), (.int (p2 &&& (2147483647 : Int32))), (.int (p3 &&& (2147483647 : Int32)))]) (rest := [(.ref b1)]) (lenOf pd_1 rfl) (hb hby at_37) (W := 1)
  obtain ⟨rfl, Nq4, K4, o4_0, o4_1, o4_2, o4_3⟩ := hQ4
  have N4 := Fr.app N0 Nq4
  have s1 := K4.1
  have cd5 : (0 : Int32) < (p2 &&& (2147483647 : Int32)) := (by rw [Int32.lt_iff_toInt_lt]; have hz : ((p2 &&& (2147483647 : Int32))).toInt ≠ ((0 : Int32)).toInt := fun q => cc1 (Int32.toInt_inj.mp q); have : ((0 : Int32)).toInt = 0 := (by decide); have := rng32 (p2 &&& (2147483647 : Int32)); have := rng32 p2; have := own_mask p2 (2147483647 : Int32) 31 (by decide) (by decide) 2147483648 (by decide); omega)
  have cd6 : (0 : Int32) < (p3 &&& (2147483647 : Int32)) := (by rw [Int32.lt_iff_toInt_lt]; have hz : ((p3 &&& (2147483647 : Int32))).toInt ≠ ((0 : Int32)).toInt := fun q => cc2 (Int32.toInt_inj.mp q); have : ((0 : Int32)).toInt = 0 := (by decide); have := rng32 (p3 &&& (2147483647 : Int32)); have := rng32 p3; have := own_mask p3 (2147483647 : Int32) 31 (by decide) (by decide) 2147483648 (by decide); omega)
  have z2 := Nat.le_trans Z0 (Nat.le_trans s0 s1)
  obtain ⟨_, T7, L7, X7, hQ7, st7⟩ := own_virtual X4 hx hZ hown (y := y_2) (z := y_2) o4_0 (w_22 hw) (w_23 hw) (notFace_of_selects (args := #[]) (mvT hZ (w_25 hw))) (w_25 hw) (w_24 hw) (w_4 hw) (w_26 hw) (rm19 l Z a0 hw [] b1 (p2 &&& (2147483647 : Int32)) (p3 &&& (2147483647 : Int32)) T4.heap n0 z2 o4_3 o4_1 cd5 o4_2 cd6) rfl (Ls := #[.val (.int p1), .val (.int p2), .val (.int p3), .val (.int (4 : Int32)), .val (.int (p2 &&& (2147483647 : Int32))), .val (.int (p3 &&& (2147483647 : Int32))), .val (.double (4607182418800017408 : UInt64)), .second, .val (.ref b1), .val (.int (1 : Int32))]) (by rw [hml]; rfl) (argsL := []) (rest := []) (lenOf pd_2 rfl) (hb hby at_65) (W := 0)
  obtain ⟨rfl, Nq7, e7⟩ := hQ7
  have N7 := Fr.app N4 Nq7
  refine ⟨T7, _, _, _, (some (.int (1 : Int32))), X7, nofun, by decide, by decide, ?_, fun fs hr => ?_⟩
  · show Q0 n0 _ T7.heap _
    rw [e7]
    exact ⟨rfl, N7⟩
  · show Steps p.tables e below (s₁.setTop (mkF m 0 #[.val (.int p1), .val (.int p2), .val (.int p3), .unset, .unset, .unset, .unset, .unset, .unset, .unset] [])) _
    refine XS.iloadN X0.here hx rfl (hb hby at_0) rfl ?_
    refine X0.ldcInt hx hown (mvT hZ (w_0 hw)) (g := (mkF m 1 #[.val (.int p1), .val (.int p2), .val (.int p3), .unset, .unset, .unset, .unset, .unset, .unset, .unset] [(.int p1)])) rfl (hb hby at_1) _ ?_
    refine XS.iand X0.here hx rfl (hb hby at_3) rfl ?_
    refine XS.iconst X0.here hx rfl (hb hby at_4) ?_
    refine XS.irem X0.here hx rfl (hb hby at_5) rfl (by decide : ¬ ((5 : Int32) = (0 : Int32))) ?_
    show Steps p.tables e below (s₁.setTop (mkF m 6 #[.val (.int p1), .val (.int p2), .val (.int p3), .unset, .unset, .unset, .unset, .unset, .unset, .unset] [(.int ((p1 &&& (2147483647 : Int32)) - ((p1 &&& (2147483647 : Int32)) / (5 : Int32)) * (5 : Int32)))])) _
    rw [hk]
    refine XS.istoreN X0.here hx rfl (hb hby at_6) rfl (l' := #[.val (.int p1), .val (.int p2), .val (.int p3), .val (.int (4 : Int32)), .unset, .unset, .unset, .unset, .unset, .unset]) rfl ?_
    refine XS.iloadN X0.here hx rfl (hb hby at_7) rfl ?_
    refine X0.ldcInt hx hown (mvT hZ (w_0 hw)) (g := (mkF m 8 #[.val (.int p1), .val (.int p2), .val (.int p3), .val (.int (4 : Int32)), .unset, .unset, .unset, .unset, .unset, .unset] [(.int p2)])) rfl (hb hby at_8) _ ?_
    refine XS.iand X0.here hx rfl (hb hby at_10) rfl ?_
    refine XS.istore X0.here hx rfl (hb hby at_11) rfl (l' := #[.val (.int p1), .val (.int p2), .val (.int p3), .val (.int (4 : Int32)), .val (.int (p2 &&& (2147483647 : Int32))), .unset, .unset, .unset, .unset, .unset]) rfl ?_
    refine XS.iloadN X0.here hx rfl (hb hby at_13) rfl ?_
    refine X0.ldcInt hx hown (mvT hZ (w_0 hw)) (g := (mkF m 14 #[.val (.int p1), .val (.int p2), .val (.int p3), .val (.int (4 : Int32)), .val (.int (p2 &&& (2147483647 : Int32))), .unset, .unset, .unset, .unset, .unset] [(.int p3)])) rfl (hb hby at_14) _ ?_
    refine XS.iand X0.here hx rfl (hb hby at_16) rfl ?_
    refine XS.istore X0.here hx rfl (hb hby at_17) rfl (l' := #[.val (.int p1), .val (.int p2), .val (.int p3), .val (.int (4 : Int32)), .val (.int (p2 &&& (2147483647 : Int32))), .val (.int (p3 &&& (2147483647 : Int32))), .unset, .unset, .unset, .unset]) rfl ?_
    refine XS.iloadN X0.here hx rfl (hb hby at_19) rfl ?_
    refine XS.i2dS X0.here hx rfl (hb hby at_20) rfl (by decide +kernel : (FP.i2d (4 : Int32)) = (4616189618054758400 : UInt64)) ?_
    show Steps p.tables e below (s₁.setTop (mkF m 21 #[.val (.int p1), .val (.int p2), .val (.int p3), .val (.int (4 : Int32)), .val (.int (p2 &&& (2147483647 : Int32))), .val (.int (p3 &&& (2147483647 : Int32))), .unset, .unset, .unset, .unset] [(.double (4616189618054758400 : UInt64))])) _
    refine X0.ldc2DoubleC hx hown (mvT hZ (w_1 hw)) (g := (mkF m 21 #[.val (.int p1), .val (.int p2), .val (.int p3), .val (.int (4 : Int32)), .val (.int (p2 &&& (2147483647 : Int32))), .val (.int (p3 &&& (2147483647 : Int32))), .unset, .unset, .unset, .unset] [(.double (4616189618054758400 : UInt64))])) rfl (hb hby at_21) _ ?_
    refine XS.ddivS X0.here hx rfl (hb hby at_24) rfl (by decide +kernel) (by decide +kernel : (FP.ddiv (4616189618054758400 : UInt64) (4616189618054758400 : UInt64)) = (4607182418800017408 : UInt64)) ?_
    refine XS.dstore X0.here hx rfl (hb hby at_25) rfl (l' := #[.val (.int p1), .val (.int p2), .val (.int p3), .val (.int (4 : Int32)), .val (.int (p2 &&& (2147483647 : Int32))), .val (.int (p3 &&& (2147483647 : Int32))), .val (.double (4607182418800017408 : UInt64)), .second, .unset, .unset]) rfl ?_
    refine st1 _ ?_
    refine XS.dup X1.here hx rfl (hb hby at_30) rfl rfl ?_
    refine XS.dload X1.here hx rfl (hb hby at_31) rfl ?_
    refine XS.iload X1.here hx rfl (hb hby at_33) rfl ?_
    refine XS.iload X1.here hx rfl (hb hby at_35) rfl ?_
    refine st4 _ ?_
    refine XS.astore X4.here hx rfl (hb hby at_40) rfl rfl (l' := #[.val (.int p1), .val (.int p2), .val (.int p3), .val (.int (4 : Int32)), .val (.int (p2 &&& (2147483647 : Int32))), .val (.int (p3 &&& (2147483647 : Int32))), .val (.double (4607182418800017408 : UInt64)), .second, .val (.ref b1), .unset]) rfl ?_
    refine XS.iloadN X4.here hx rfl (hb hby at_42) rfl ?_
    refine XS.ifNo X4.here hx rfl (hb hby at_43) rfl ((if0 _ _).trans (feq ((by decide : ¬ ((4 : Int32) = (0 : Int32))) : ¬ ((4 : Int32) = (0 : Int32)))).1) ?_
    show Steps p.tables e below (T4.setTop (mkF m 46 #[.val (.int p1), .val (.int p2), .val (.int p3), .val (.int (4 : Int32)), .val (.int (p2 &&& (2147483647 : Int32))), .val (.int (p3 &&& (2147483647 : Int32))), .val (.double (4607182418800017408 : UInt64)), .second, .val (.ref b1), .unset] [])) _
    refine XS.iload X4.here hx rfl (hb hby at_46) rfl ?_
    refine XS.ifNo X4.here hx rfl (hb hby at_48) rfl ((if0 _ _).trans (feq (cc1 : ¬ ((p2 &&& (2147483647 : Int32)) = (0 : Int32)))).1) ?_
    refine XS.iload X4.here hx rfl (hb hby at_51) rfl ?_
    refine XS.ifNo X4.here hx rfl (hb hby at_53) rfl ((if0 _ _).trans (feq (cc2 : ¬ ((p3 &&& (2147483647 : Int32)) = (0 : Int32)))).1) ?_
    refine XS.iconst X4.here hx rfl (hb hby at_56) ?_
    refine XS.goto X4.here hx rfl (pc0 := 57) (pc' := 61) rfl (hb hby at_57) (by decide) (by decide) ?_
    refine XS.istore X4.here hx rfl (hb hby at_61) rfl (l' := #[.val (.int p1), .val (.int p2), .val (.int p3), .val (.int (4 : Int32)), .val (.int (p2 &&& (2147483647 : Int32))), .val (.int (p3 &&& (2147483647 : Int32))), .val (.double (4607182418800017408 : UInt64)), .second, .val (.ref b1), .val (.int (1 : Int32))]) rfl ?_
    refine XS.aload X4.here hx rfl (hb hby at_63) rfl rfl ?_
    refine st7 _ ?_
    refine XS.iload X7.here hx rfl (hb hby at_68) rfl ?_
    refine XS.icmpNo X7.here hx rfl (hb hby at_70) rfl (teq ((by decide : (1 : Int32) = (1 : Int32)) : (1 : Int32) = (1 : Int32))).2 ?_
    refine XS.iconst X7.here hx rfl (hb hby at_73) ?_
    show Steps p.tables e below (T7.setTop (mkF m 74 #[.val (.int p1), .val (.int p2), .val (.int p3), .val (.int (4 : Int32)), .val (.int (p2 &&& (2147483647 : Int32))), .val (.int (p3 &&& (2147483647 : Int32))), .val (.double (4607182418800017408 : UInt64)), .second, .val (.ref b1), .val (.int (1 : Int32))] [(.int (1 : Int32))])) _
    refine XS.goto X7.here hx rfl (pc0 := 74) (pc' := 78) rfl (hb hby at_74) (by decide) (by decide) ?_
    exact retN X7 hx (t := .boolean) hret (by simp) (hb hby at_78) hr
theorem own_k5 (p1 : Int32) : ((p1 &&& (2147483647 : Int32)) - ((p1 &&& (2147483647 : Int32)) / (5 : Int32)) * (5 : Int32)) = (0 : Int32) ∨ ((p1 &&& (2147483647 : Int32)) - ((p1 &&& (2147483647 : Int32)) / (5 : Int32)) * (5 : Int32)) = (1 : Int32) ∨ ((p1 &&& (2147483647 : Int32)) - ((p1 &&& (2147483647 : Int32)) / (5 : Int32)) * (5 : Int32)) = (2 : Int32) ∨ ((p1 &&& (2147483647 : Int32)) - ((p1 &&& (2147483647 : Int32)) / (5 : Int32)) * (5 : Int32)) = (3 : Int32) ∨ ((p1 &&& (2147483647 : Int32)) - ((p1 &&& (2147483647 : Int32)) / (5 : Int32)) * (5 : Int32)) = (4 : Int32) := by
  have h1 := own_irem (p1 &&& (2147483647 : Int32)) (5 : Int32) 5 (by decide)
  have h2 := own_mask p1 (2147483647 : Int32) 31 (by decide) (by decide) 2147483648 (by decide)
  have h3 : (((p1 &&& (2147483647 : Int32)) - ((p1 &&& (2147483647 : Int32)) / (5 : Int32)) * (5 : Int32))).toInt = 0 ∨ (((p1 &&& (2147483647 : Int32)) - ((p1 &&& (2147483647 : Int32)) / (5 : Int32)) * (5 : Int32))).toInt = 1 ∨ (((p1 &&& (2147483647 : Int32)) - ((p1 &&& (2147483647 : Int32)) / (5 : Int32)) * (5 : Int32))).toInt = 2 ∨ (((p1 &&& (2147483647 : Int32)) - ((p1 &&& (2147483647 : Int32)) / (5 : Int32)) * (5 : Int32))).toInt = 3 ∨ (((p1 &&& (2147483647 : Int32)) - ((p1 &&& (2147483647 : Int32)) / (5 : Int32)) * (5 : Int32))).toInt = 4 := by omega
  rcases h3 with h | h | h | h | h
  · exact Or.inl (Int32.toInt_inj.mp h)
  · exact Or.inr (Or.inl (Int32.toInt_inj.mp h))
  · exact Or.inr (Or.inr (Or.inl (Int32.toInt_inj.mp h)))
  · exact Or.inr (Or.inr (Or.inr (Or.inl (Int32.toInt_inj.mp h))))
  · exact Or.inr (Or.inr (Or.inr (Or.inr (Int32.toInt_inj.mp h))))
theorem rm0 (l : Launch) (Z : State) (a0 : Array Value) (hw : ∀ d ∈ tables_1, d.before a0 Z = true) (ws : List Jvm.Cond) (p1 : Int32) (p2 : Int32) (p3 : Int32) (h0 : Heap) (n0 : Nat) (Z0 : n0 ≤ h0.size) (Od0 : Old Z n0 h0) :
    OwnMet l Z x code maxLocals ret ws room_1 #[(.int p1), (.int p2), (.int p3)] h0 (Q0 n0) := by
  rcases own_k5 p1 with hk | hk | hk | hk | hk
  · exact rm0_0 l Z a0 hw ws p1 p2 p3 h0 n0 Z0 Od0 hk
  · by_cases cc1 : (p2 &&& (2147483647 : Int32)) = (0 : Int32)
    · exact rm0_1 l Z a0 hw ws p1 p2 p3 h0 n0 Z0 Od0 hk cc1
    · by_cases cc2 : (p3 &&& (2147483647 : Int32)) = (0 : Int32)
      · exact rm0_2 l Z a0 hw ws p1 p2 p3 h0 n0 Z0 Od0 hk cc1 cc2
      · exact rm0_3 l Z a0 hw ws p1 p2 p3 h0 n0 Z0 Od0 hk cc1 cc2
  · by_cases cc1 : (p2 &&& (2147483647 : Int32)) = (0 : Int32)
    · exact rm0_4 l Z a0 hw ws p1 p2 p3 h0 n0 Z0 Od0 hk cc1
    · by_cases cc2 : (p3 &&& (2147483647 : Int32)) = (0 : Int32)
      · exact rm0_5 l Z a0 hw ws p1 p2 p3 h0 n0 Z0 Od0 hk cc1 cc2
      · exact rm0_6 l Z a0 hw ws p1 p2 p3 h0 n0 Z0 Od0 hk cc1 cc2
  · by_cases cc1 : (p2 &&& (2147483647 : Int32)) = (0 : Int32)
    · exact rm0_7 l Z a0 hw ws p1 p2 p3 h0 n0 Z0 Od0 hk cc1
    · by_cases cc2 : (p3 &&& (2147483647 : Int32)) = (0 : Int32)
      · exact rm0_8 l Z a0 hw ws p1 p2 p3 h0 n0 Z0 Od0 hk cc1 cc2
      · exact rm0_9 l Z a0 hw ws p1 p2 p3 h0 n0 Z0 Od0 hk cc1 cc2
  · by_cases cc1 : (p2 &&& (2147483647 : Int32)) = (0 : Int32)
    · exact rm0_10 l Z a0 hw ws p1 p2 p3 h0 n0 Z0 Od0 hk cc1
    · by_cases cc2 : (p3 &&& (2147483647 : Int32)) = (0 : Int32)
      · exact rm0_11 l Z a0 hw ws p1 p2 p3 h0 n0 Z0 Od0 hk cc1 cc2
      · exact rm0_12 l Z a0 hw ws p1 p2 p3 h0 n0 Z0 Od0 hk cc1 cc2
theorem comes_1 {Post : Tables → Env → Array Value → State → Outcome → State → Prop} (hpost : ∀ tb e args s v u, (limb_1_1.after args s (.returned v) u = true ∧ limb_1_2.after args s (.returned v) u = true ∧ True) → FrameEnd s (.returned v) u (Jvm.fieldLocs frame_1_writes args s ++ Jvm.arrayLocs frame_1_arrays args s ++ Jvm.staticLocs frame_1_statics s) 16 128 → Post tb e args s (.returned v) u) :
    ArmFor flags0 classFile x code maxLocals ret World_1 tables_1 room_1 Calls_1 rest_1 Pre_1 Post := by
  intro l hfl _ _ p e ha hc hk s m args below hf hA hF happ hP
  obtain ⟨hcalls, hrest, hpre⟩ := hP
  obtain ⟨-, -, -, hnamed, -, -, -, hat⟩ := (Spec.applies_iff hf).mp happ
  obtain ⟨hg, hn⟩ := and_e (Cond.before_iff.mp (show (Jvm.Cond.and given_1 narrow_1).before args s = true from hpre))
  obtain ⟨hg0, hr0⟩ := and_e hg
  obtain ⟨hg1, hr1⟩ := and_e hr0
  obtain ⟨hg2, hr2⟩ := and_e hr1
  obtain ⟨w0, w1, w2, rfl⟩ : ∃ w0 w1 w2 : Value, args = #[w0, w1, w2] := by
    have hs : args.size = 3 := by simpa [Cond.value, given_1] using hg0
    obtain ⟨L⟩ := args
    match L, hs with
    | [w0, w1, w2], _ => exact ⟨w0, w1, w2, rfl⟩
  have hw := fun d (hd : d ∈ tables_1) => atoms_spec (ws := Jvm.Cond.code x code maxLocals ret :: tables_1) hat d (List.mem_cons_of_mem _ hd)
  have hfit : Fit s := fun {y c} hc i hi => by
    obtain ⟨ha, rfl⟩ := Array.getElem?_eq_some_iff.mp hc
    have q := List.all_eq_true.mp ((Array.all_eq_true_iff_forall_mem.mp hF) _ (Array.getElem_mem ha)) i (List.mem_range.mpr hi)
    simpa [Array.getElem?_eq_getElem hi] using q
  obtain ⟨p1, ei0⟩ := is_v hg1
  obtain rfl : w0 = (.int p1) := Option.some.inj ei0
  obtain ⟨p2, ei1⟩ := is_v hg2
  obtain rfl : w1 = (.int p2) := Option.some.inj ei1
  obtain ⟨p3, ei2⟩ := is_v hr2
  obtain rfl : w2 = (.int p3) := Option.some.inj ei2
  obtain ⟨n, o, h1, h2, h3, _, L, rfl, ⟨rfl, N⟩, hq⟩ := rm0 l s _ hw tables_1 p1 p2 p3 s.heap s.heap.size (Nat.le_refl _) (Old.start s) p e ha hc hk s m _ below hf ((Spec.applies_iff_loose hf).mp happ).1 ⟨rfl, State.Warmed39.refl s, rfl⟩ trivial
  refine ⟨n, _, h1, h2, h3, hpost _ _ _ _ _ _ ⟨Cond.after_iff.mpr rfl, Cond.after_iff.mpr (eq_i res_at (Term.int_eval (1)) rfl), trivial⟩ ⟨hq.1, hq.2.1, (hq.2.2.sift fun y hy => Or.inr (N y hy)).mono (by decide) (by decide)⟩⟩
theorem main_1_1 : Claimed_1_1 := comes_1 fun _ _ _ _ _ _ h hF => ⟨h.1, hF⟩
theorem main_1_2 : Claimed_1_2 := comes_1 fun _ _ _ _ _ _ h hF => ⟨h.2.1, hF⟩
end Jvm.Pilot.@@N@@
namespace Jvm.Pilot.@@N@@
open Jvm Jvm.ClassFile Sem Op Lib Jvm.Free Jvm.Stand Jvm.Pilot.@@N@@.Jvm.D
/-! MADE BY PROGRAM (witnessworld.py) out of the Statement's table words and the real class files: 10 classes; the members and pool entries that the words name. The judged class is class 1, her method 1. -/
namespace start1
open Jvm.ClassFile
def u (s : String) : CpInfo := .utf8 (stringToUtf16 s)
/-- a pool by its gaps: so many unusable entries, then the entry; so many at the end -/
def gap : Nat → List CpInfo → List CpInfo
  | 0, r => r
  | n + 1, r => .unusable :: gap n r
def poolList (es : List (Nat × CpInfo)) (last : Nat) : List CpInfo := es.foldr (fun e r => gap e.1 (e.2 :: r)) (gap last [])
def pool (es : List (Nat × CpInfo)) (last : Nat) : Array CpInfo := ⟨poolList es last⟩
def fileOf (pool : Array CpInfo) (this : Nat) (attrs : Array Attribute := #[]) (ms : Array MethodInfo := #[]) (fl : Nat := 33) (sup : Nat := 0) (ifs : Array Nat := #[]) (fds : Array FieldInfo := #[]) : ClassFile where
  minorVersion := 0
  majorVersion := 65
  constantPool := pool
  accessFlags := fl
  thisClass := this
  superClass := sup
  interfaces := ifs
  fields := fds
  methods := ms
  attributes := attrs
def plain (name : String) (sup : Option ClassId) : Class where
  name := name
  kind := .ordinary
  loader := none
  accessFlags := 33
  super := sup
  interfaces := #[]
  cf := none
  fields := #[]
  methods := #[]
  instanceTypes := #[]
  staticTypes := #[]
  resolved := #[]
  callSites := []
  init := .initialized
  statics := none
  mirror := none

def pool0 : Array CpInfo := pool [(5, u "<init>"), (0, u "()V"), (1, .class_ 10), (1, u "java/lang/Object")] 113

def k0c0 : Code := { maxStack := 0, maxLocals := 1, code := object_method_1_code, exceptionTable := #[], attributes := #[] }
def k0m0 : Method := { name := "<init>", desc := "()V", sig := { parameters := [], returnType := none }, accessFlags := 1, code := some k0c0 }
/-- java/lang/Object -/
def k0 : Class := { plain "java/lang/Object" none with
  accessFlags := 33
  interfaces := #[]
  cf := some (fileOf pool0 8 #[] #[{ accessFlags := 1, nameIndex := 5, descriptorIndex := 6, attributes := #[] }] 33 0 #[] #[])
  fields := #[]
  methods := #[k0m0]
  instanceTypes := #[]
  staticTypes := #[]
  resolved := Array.replicate 124 none
  statics := none }

def pool1 : Array CpInfo := pool [(2, .class_ 4), (1, u "java/lang/Object"), (0, u "<init>"), (0, u "()V"), (0, .integer 2147483647), (0, .double 4616189618054758400), (1, .class_ 11), (0, u "com/example/informal_search/informalsearch/ranking/Feedback"), (0, .methodref 10 13), (0, .nameAndType 5 14), (0, u "(DII)V"), (0, .methodref 10 16), (0, .nameAndType 17 18), (0, u "expands"), (0, u "()Z"), (0, .class_ 20), (0, u "com/example/informal_search/informalsearch/ranking/FeedbackExpandsPinLaw"), (2, u "law"), (0, u "(III)Z")] 3

def k1m0 : Method := { name := "<init>", desc := "()V", sig := { parameters := [], returnType := none }, accessFlags := 1, code := none }
def k1c1 : Code := { maxStack := 6, maxLocals := 10, code := code, exceptionTable := #[], attributes := #[] }
def k1m1 : Method := { name := "law", desc := "(III)Z", sig := { parameters := [.int, .int, .int], returnType := some .boolean }, accessFlags := 9, code := some k1c1 }
/-- com/example/informal_search/informalsearch/ranking/FeedbackExpandsPinLaw -/
def k1 : Class := { plain "com/example/informal_search/informalsearch/ranking/FeedbackExpandsPinLaw" (some 0) with
  accessFlags := 49
  interfaces := #[]
  cf := some (fileOf pool1 19 #[] #[{ accessFlags := 1, nameIndex := 5, descriptorIndex := 6, attributes := #[] }, { accessFlags := 9, nameIndex := 23, descriptorIndex := 24, attributes := #[] }] 49 2 #[] #[])
  fields := #[]
  methods := #[k1m0, k1m1]
  instanceTypes := #[]
  staticTypes := #[]
  resolved := Array.replicate 28 none
  statics := none }

def pool2 : Array CpInfo := pool [(1, .methodref 2 3), (0, .class_ 4), (0, .nameAndType 5 6), (0, u "java/lang/Object"), (0, u "<init>"), (0, u "()V"), (0, .class_ 8), (0, u "java/lang/Record")] 13

def k2c0 : Code := { maxStack := 1, maxLocals := 1, code := jdk_30_method_1_code, exceptionTable := #[], attributes := #[] }
def k2m0 : Method := { name := "<init>", desc := "()V", sig := { parameters := [], returnType := none }, accessFlags := 4, code := some k2c0 }
/-- java/lang/Record -/
def k2 : Class := { plain "java/lang/Record" (some 0) with
  accessFlags := 1057
  interfaces := #[]
  cf := some (fileOf pool2 7 #[] #[{ accessFlags := 4, nameIndex := 5, descriptorIndex := 6, attributes := #[] }] 1057 2 #[] #[])
  fields := #[]
  methods := #[k2m0]
  instanceTypes := #[]
  staticTypes := #[]
  resolved := Array.replicate 22 none
  statics := none }

def pool3 : Array CpInfo := pool [(1, .methodref 2 3), (0, .class_ 4), (0, .nameAndType 5 6), (0, u "java/lang/Record"), (0, u "<init>"), (0, u "()V"), (12, .fieldref 20 21), (0, .class_ 22), (0, .nameAndType 23 24), (0, u "com/example/informal_search/informalsearch/ranking/Feedback"), (0, u "weight"), (0, u "D"), (0, .fieldref 20 26), (0, .nameAndType 27 28), (0, u "entities"), (0, u "I"), (0, .fieldref 20 30), (0, .nameAndType 31 28), (0, u "terms"), (14, u "(DII)V"), (2, u "DEFAULTS"), (0, u "Lcom/example/informal_search/informalsearch/ranking/Feedback;"), (4, u "expands"), (0, u "()Z")] 37

def k3c0 : Code := { maxStack := 4, maxLocals := 5, code := prog_62_method_1_code, exceptionTable := #[], attributes := #[] }
def k3m0 : Method := { name := "<init>", desc := "(DII)V", sig := { parameters := [.double, .int, .int], returnType := none }, accessFlags := 1, code := some k3c0 }
def k3c1 : Code := { maxStack := 4, maxLocals := 1, code := prog_62_method_2_code, exceptionTable := #[], attributes := #[] }
def k3m1 : Method := { name := "expands", desc := "()Z", sig := { parameters := [], returnType := some .boolean }, accessFlags := 1, code := some k3c1 }
/-- com/example/informal_search/informalsearch/ranking/Feedback -/
def k3 : Class := { plain "com/example/informal_search/informalsearch/ranking/Feedback" (some 2) with
  accessFlags := 49
  interfaces := #[]
  cf := some (fileOf pool3 20 #[] #[{ accessFlags := 1, nameIndex := 5, descriptorIndex := 46, attributes := #[] }, { accessFlags := 1, nameIndex := 55, descriptorIndex := 56, attributes := #[] }] 49 2 #[] #[{ accessFlags := 18, nameIndex := 23, descriptorIndex := 24, attributes := #[] }, { accessFlags := 18, nameIndex := 27, descriptorIndex := 28, attributes := #[] }, { accessFlags := 18, nameIndex := 31, descriptorIndex := 28, attributes := #[] }, { accessFlags := 25, nameIndex := 49, descriptorIndex := 50, attributes := #[] }])
  fields := #[{ name := "weight", type := .double, accessFlags := 18, slot := 0, constantValue := 0 }, { name := "entities", type := .int, accessFlags := 18, slot := 1, constantValue := 0 }, { name := "terms", type := .int, accessFlags := 18, slot := 2, constantValue := 0 }, { name := "DEFAULTS", type := (.object "com/example/informal_search/informalsearch/ranking/Feedback"), accessFlags := 25, slot := 0, constantValue := 0 }]
  methods := #[k3m0, k3m1]
  instanceTypes := #[.double, .int, .int]
  staticTypes := #[(.object "com/example/informal_search/informalsearch/ranking/Feedback")]
  resolved := Array.replicate 94 none
  statics := none }

def pool4 : Array CpInfo := pool [(1, u "java/lang/Cloneable"), (0, .class_ 1), (0, u "java/lang/Object"), (0, .class_ 3)] 3

/-- java/lang/Cloneable -/
def k4 : Class := { plain "java/lang/Cloneable" (some 0) with
  accessFlags := 1537
  interfaces := #[]
  cf := some (fileOf pool4 2 #[] #[] 1537 4 #[] #[])
  fields := #[]
  methods := #[]
  instanceTypes := #[]
  staticTypes := #[]
  resolved := Array.replicate 8 none
  statics := none }

def pool5 : Array CpInfo := pool [(1, u "java/io/Serializable"), (0, .class_ 1), (0, u "java/lang/Object"), (0, .class_ 3)] 3

/-- java/io/Serializable -/
def k5 : Class := { plain "java/io/Serializable" (some 0) with
  accessFlags := 1537
  interfaces := #[]
  cf := some (fileOf pool5 2 #[] #[] 1537 4 #[] #[])
  fields := #[]
  methods := #[]
  instanceTypes := #[]
  staticTypes := #[]
  resolved := Array.replicate 8 none
  statics := none }

/-- the primitive byte -/
def k6 : Class := { plain "byte" none with kind := .primitive 'B', accessFlags := 0x411 }
/-- [B -/
def k7 : Class := { plain "[B" (some 0) with kind := .array 6 .byte, interfaces := #[4, 5], accessFlags := 1041 }

/-- the primitive int -/
def k8 : Class := { plain "int" none with kind := .primitive 'I', accessFlags := 0x411 }
/-- [I -/
def k9 : Class := { plain "[I" (some 0) with kind := .array 8 .int, interfaces := #[4, 5], accessFlags := 1041 }

def heap : Heap := #[]
def classes : Array Class := #[k0, k1, k2, k3, k4, k5, k6, k7, k8, k9]
def interned : List (Array UInt16 × Addr) := []
def slotsUsed : Nat := 0
def theMethod : MethodId := ⟨1, 1⟩
def args0 : Array Value := #[.int 5, .int 6, .int 7]
def aboutOver (below : List Frame) : State where
  vm := { classes := classes, interned := interned.toArray }
  heap := heap
  slotsUsed := slotsUsed
  threads := #[{ frames := .invoking theMethod args0 :: below }]
def below0 : List Frame := [.native { method := ⟨0, 0⟩, args := #[] }]
def about1 : State := aboutOver below0
def p0 : Program := .bare "" "" ""
def e0 : Env := launch0.env 0 0 0
theorem w_frames : about1.frames = Frame.invoking theMethod args0 :: below0 := rfl
set_option maxRecDepth 65536 in
theorem w_args : argsFit about1.vm theMethod args0 = true := by decide +kernel
set_option maxRecDepth 65536 in
theorem w_heap : heapFits about1 = true := by decide +kernel
set_option maxRecDepth 65536 in
theorem w_runnable : about1.curStatus? = some .runnable := by decide +kernel
set_option maxRecDepth 65536 in
theorem w_alone : about1.alone = true := by decide +kernel
set_option maxRecDepth 65536 in
theorem w_named : about1.methodNamed? x = some theMethod := by decide +kernel
set_option maxRecDepth 65536 in
theorem w_hears : about1.hears theMethod below0 = true := by decide +kernel
set_option maxRecDepth 65536 in
theorem w_ripe : about1.ripe theMethod args0 below0 = true := by decide +kernel
theorem w_running : about1.status = .running := rfl
set_option maxRecDepth 65536 in
theorem w_room : about1.hasRoom e0.platform room_1 = true :=
  launch0.hasRoom_least _ room_1 (by decide +kernel) (by decide +kernel) (by decide +kernel) (by decide +kernel) (by decide +kernel) (by decide +kernel)
theorem allAtoms_all (ts : List Jvm.Cond) (a : Array Jvm.Value) (st : Jvm.State) : (allAtoms ts).before a st = ts.all (fun c => c.before a st) := by
  induction ts with
  | nil => rfl
  | cons c t ih =>
    show (Jvm.Cond.and c (allAtoms t)).before a st = _
    rw [Jvm.Cond.before_and, ih, List.all_cons]
def words1 : List Jvm.Cond := Jvm.Cond.code x code maxLocals ret :: tables_1
/-- a 'code' word, met by the world's own term for the bytes: nothing is compared byte by byte -/
theorem code_word {y : MethodName} {bytes : ByteArray} {mx : Nat} {rt : Option FieldType} {a : Array Value} {s : State} {m : MethodId} {meth : Method} {c : Code} (h1 : s.methodNamed? y = some m) (h2 : s.vm.method? m = some meth) (h3 : meth.code = some c) (h4 : c.code = bytes)
    (h5 : (c.maxLocals == mx && c.exceptionTable.isEmpty && decide (c.maxStack ≤ mostOperands) && decide (meth.sig.returnType = rt) && !meth.locks && decide (parseMethodDescriptor y.desc = some meth.sig)) = true) : (Jvm.Cond.code y bytes mx rt).before a s = true := by
  simp only [Bool.and_eq_true, beq_iff_eq, Bool.not_eq_true', decide_eq_true_eq] at h5
  obtain ⟨⟨⟨⟨⟨g1, g2⟩, g3⟩, g4⟩, g5⟩, g6⟩ := h5
  simp [Cond.before, Cond.holds, Cond.value, h1, h2, h3, h4, g1, g2, g3, g4, g5, g6]
def isCode : Jvm.Cond → Bool
  | .code _ _ _ _ => true
  | _ => false
theorem all_split {L : List Jvm.Cond} {P : Jvm.Cond → Bool} (h1 : L.all (fun c => isCode c || P c) = true) (h2 : ∀ c ∈ L.filter isCode, P c = true) : L.all P = true := by
  refine List.all_eq_true.mpr fun c hc => ?_
  have h := List.all_eq_true.mp h1 c hc
  rcases Bool.eq_false_or_eq_true (isCode c) with hi | hi
  · exact h2 c (List.mem_filter.mpr ⟨hc, hi⟩)
  · simpa [hi] using h
set_option maxRecDepth 65536 in
theorem w_c0 : (Jvm.Cond.code x code maxLocals ret).before args0 about1 = true := code_word (m := ⟨1, 1⟩) (meth := k1m1) (c := k1c1) (by decide +kernel) rfl rfl rfl (by decide +kernel)
set_option maxRecDepth 65536 in
theorem w_c1 : (Jvm.Cond.code ({ cls := "com/example/informal_search/informalsearch/ranking/Feedback", name := "<init>", desc := "(DII)V" } : Jvm.MethodName) prog_62_method_1_code (5 : Nat) (Option.none : Option Jvm.ClassFile.FieldType)).before args0 about1 = true := code_word (m := ⟨3, 0⟩) (meth := k3m0) (c := k3c0) (by decide +kernel) rfl rfl rfl (by decide +kernel)
set_option maxRecDepth 65536 in
theorem w_c2 : (Jvm.Cond.code ({ cls := "java/lang/Record", name := "<init>", desc := "()V" } : Jvm.MethodName) jdk_30_method_1_code (1 : Nat) (Option.none : Option Jvm.ClassFile.FieldType)).before args0 about1 = true := code_word (m := ⟨2, 0⟩) (meth := k2m0) (c := k2c0) (by decide +kernel) rfl rfl rfl (by decide +kernel)
set_option maxRecDepth 65536 in
theorem w_c3 : (Jvm.Cond.code ({ cls := "java/lang/Object", name := "<init>", desc := "()V" } : Jvm.MethodName) object_method_1_code (1 : Nat) (Option.none : Option Jvm.ClassFile.FieldType)).before args0 about1 = true := code_word (m := ⟨0, 0⟩) (meth := k0m0) (c := k0c0) (by decide +kernel) rfl rfl rfl (by decide +kernel)
set_option maxRecDepth 65536 in
theorem w_c4 : (Jvm.Cond.code ({ cls := "com/example/informal_search/informalsearch/ranking/Feedback", name := "expands", desc := "()Z" } : Jvm.MethodName) prog_62_method_2_code (1 : Nat) (Option.some Jvm.ClassFile.FieldType.boolean)).before args0 about1 = true := code_word (m := ⟨3, 1⟩) (meth := k3m1) (c := k3c1) (by decide +kernel) rfl rfl rfl (by decide +kernel)
def codes1 : List Jvm.Cond := [Jvm.Cond.code x code maxLocals ret, Jvm.Cond.code ({ cls := "com/example/informal_search/informalsearch/ranking/Feedback", name := "<init>", desc := "(DII)V" } : Jvm.MethodName) prog_62_method_1_code (5 : Nat) (Option.none : Option Jvm.ClassFile.FieldType), Jvm.Cond.code ({ cls := "java/lang/Record", name := "<init>", desc := "()V" } : Jvm.MethodName) jdk_30_method_1_code (1 : Nat) (Option.none : Option Jvm.ClassFile.FieldType), Jvm.Cond.code ({ cls := "java/lang/Object", name := "<init>", desc := "()V" } : Jvm.MethodName) object_method_1_code (1 : Nat) (Option.none : Option Jvm.ClassFile.FieldType), Jvm.Cond.code ({ cls := "com/example/informal_search/informalsearch/ranking/Feedback", name := "expands", desc := "()Z" } : Jvm.MethodName) prog_62_method_2_code (1 : Nat) (Option.some Jvm.ClassFile.FieldType.boolean)]
set_option maxRecDepth 65536 in
theorem codes_eq : words1.filter isCode = codes1 := rfl
theorem w_codes : ∀ c ∈ words1.filter isCode, c.before args0 about1 = true := by
  rw [codes_eq]
  intro c hc
  simp only [codes1, List.mem_cons, List.not_mem_nil, or_false] at hc
  rcases hc with rfl | rfl | rfl | rfl | rfl
  · exact w_c0
  · exact w_c1
  · exact w_c2
  · exact w_c3
  · exact w_c4
set_option maxRecDepth 65536 in
theorem w_t1 : (words1.take 24).all (fun c => isCode c || c.before args0 about1) = true := by decide +kernel
set_option maxRecDepth 65536 in
theorem w_t2 : (words1.drop 24).all (fun c => isCode c || c.before args0 about1) = true := by decide +kernel
theorem w_tables : (allAtoms (Jvm.Cond.code x code maxLocals ret :: tables_1)).before args0 about1 = true := by
  rw [allAtoms_all]
  show words1.all (fun c => c.before args0 about1) = true
  refine all_split ?_ w_codes
  rw [← List.take_append_drop 24 words1, List.all_append, w_t1, w_t2]
  rfl
set_option maxRecDepth 65536 in
theorem w_case : (Jvm.Cond.and given_1 narrow_1).before args0 about1 = true := by decide +kernel
theorem w_applies : (headSpec (Jvm.Cond.code x code maxLocals ret :: tables_1) room_1).applies x e0.platform about1 = true :=
  (Spec.applies_iff w_frames).mpr ⟨w_running, w_runnable, w_alone, w_named, w_hears, w_ripe, w_room, w_tables⟩
theorem atStart : AtStart classFile x code maxLocals ret World_1 tables_1 room_1 Calls_1 rest_1 Pre_1 launch0 p0 e0 about1 theMethod args0 below0 :=
  ⟨lists_1, trivial, launch0.admits_env _ _ _, launch0.least_env, fairChoices_fair.cas, fairChoices_fair.clock, w_frames, w_args, w_heap, w_applies, trivial, trivial, w_case⟩
end start1
theorem witness_1 : WitnessClaimed_1 := ⟨start1.p0, start1.e0, start1.about1, start1.theMethod, start1.args0, start1.below0, start1.atStart⟩
end Jvm.Pilot.@@N@@
