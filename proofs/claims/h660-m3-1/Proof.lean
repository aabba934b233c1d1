import JvmDerived
import JvmDerived.Pilot.@@N@@Statement
import JvmDerived.Pilot.@@N@@Code
set_option linter.unusedVariables false
set_option linter.unusedSimpArgs false
set_option maxRecDepth 65536
set_option maxHeartbeats 40000000
namespace Jvm.RoadKit
open Sem ClassFile Op Lib Jvm.Stand Jvm.Free Jvm.LawKit
section New
variable {p : Program} {l : Launch} {e : Env} {R : Room} {s : State} {m : MethodId} {args : Array Value} {below : List Frame} {meth : Method} {c : Code} {T : State} {locs : List Loc} {cells slots : Nat}
theorem retI (X : Stand p l e R s m args below meth c T locs cells slots) (hx : p.tables.exec = Jvm.exec) {pc : Nat} {Ls : Array Slot} {z : Int32} {rest : List Value} (hret : meth.sig.returnType = some .int) (hd : decode c.code pc = .ok (.ireturn, 1)) {fs : List Frame}
    (hl : ∀ (f : JFrame) (acts : List Action), f.method = m → f.locked = none → f.entered = [] → (doReturn e (T.setTop f) acts (some (.int z))).1 = T.setFrames fs) : Steps p.tables e below (T.setTop (mkF m pc Ls (.int z :: rest))) (T.setFrames fs) := by
  have hm' : T.vm.method? m = some meth := X.method'
  have hn : narrow .int (.int z) = .int z := rfl
  show Steps p.tables e below (T.setTop { method := m, pc := pc, locals := Ls, stack := _ :: rest, locked := none }) _
  jvm_step X.here [X.here.top, hx, hd, hm', hret, hn]
  first | (intro acts; rw [hl _ acts rfl rfl rfl]) | rw [hl _ _ rfl rfl rfl]
  exact Steps.refl _
end New
/-- a body's contract, written short -/
abbrev OwnMet (l : Launch) (Z : State) (y : MethodName) (bytes : ByteArray) (maxL : Nat) (ret : Option FieldType) (ws : List Cond) (rm : Room) (as' : Array Value) (h0 : Heap) (Q : Option Value → Heap → List Loc → Prop) : Prop :=
  MetFree l y (head1 (Cond.code y bytes maxL ret :: ws) rm) (fun a U => a = as' ∧ Z.Warmed39 U.vm ∧ U.heap = h0) (fun _ _ _ _ _ => True) (fun _ U o U' => ∃ v L, o = .returned v ∧ Q v U'.heap L ∧ FrameEnd U o U' L rm.cells rm.slots)
theorem own_body {l : Launch} {Z : State} {y : MethodName} {bytes : ByteArray} {maxL : Nat} {ret : Option FieldType} {ws : List Cond} {rm : Room} {as' : Array Value} {h0 : Heap} {Q : Option Value → Heap → List Loc → Prop} {L0 : Array Slot} (hp : plainFor y = true) (hef : ∀ m, entryFrame m as' maxL = mkF m 0 L0 [])
    (k : ∀ (p : Program) (e : Env) (s : State) (m : MethodId) (below : List Frame) (meth : Method) (c : Code) (s₁ : State), p.tables.exec = Jvm.exec → c.code = bytes → c.maxLocals = maxL → s.vm.findClass y.cls = some m.cls → meth.name = y.name → meth.sig.returnType = ret → Z.Warmed39 s.vm → Stand p l e rm s m as' below meth c s₁ [] 0 0 → s₁.heap = h0 →
      ∃ (T : State) (L : List Loc) (ce sl : Nat) (v : Option Value), Stand p l e rm s m as' below meth c T L ce sl ∧ (ret = none → v = none) ∧ ce ≤ rm.cells ∧ sl ≤ rm.slots ∧ Q v T.heap L ∧
        ∀ fs, (∀ (f : JFrame) (acts : List Action), f.method = m → f.locked = none → f.entered = [] → (doReturn e (T.setTop f) acts v).1 = T.setFrames fs) → Steps p.tables e below (s₁.setTop (mkF m 0 L0 [])) (T.setFrames fs)) :
    OwnMet l Z y bytes maxL ret ws rm as' h0 Q := by
  refine MetFree.of_bodySF hp hisR ?_
  intro p e s m args below meth c s₁ Bd hml hP hK
  obtain ⟨hargs, hZ, hh⟩ := hP
  subst hargs
  obtain ⟨T, L, ce, sl, v, X, hv, hc, hs, hq, st⟩ := k p e s m below meth c s₁ Bd.exec Bd.bytes hml (findClass_of_methodNamed Bd.named) (name_of_methodNamed Bd.named Bd.method).1 Bd.returns hZ (Stand.of_body Bd) (by rw [← hh, Bd.state]; rfl)
  obtain ⟨fs, hr, hrun, hended, hW, hsame⟩ := X.leave (v := v) (fun h => hv (Bd.returns ▸ h))
  exact ⟨_, _, castTop (hef m) (st fs hr), hrun, hended, v, L, rfl, hq, ⟨_, rfl⟩, hW, hsame.mono hc hs⟩
theorem own_mvNest {Z s : State} {a0 args : Array Value} {own host : String} {index : Nat} {y : MethodName} (hZ : Z.Warmed39 s.vm) (w : (Cond.methodLinkNest own index y host).before a0 Z = true) : (Cond.methodLinkNest own index y host).before args s = true := (Cond.methodLinkNest_wide hZ w :)
section Calls
variable {p : Program} {l : Launch} {e : Env} {R : Room} {s : State} {m : MethodId} {args : Array Value} {below : List Frame} {meth : Method} {c : Code} {T : State} {locs : List Loc} {cells slots : Nat} {Z : State} {a0 : Array Value} {h : Heap}
  {own : String} {index : Nat} {y z : MethodName} {bytes : ByteArray} {maxL : Nat} {ret : Option FieldType} {rm : Room} {as' : Array Value} {Q : Option Value → Heap → List Loc → Prop} {pc : Nat} {Ls : Array Slot} {argsL rest : List Value} {W : Nat}
/-- what a call leaves -/
abbrev OwnCame (p : Program) (l : Launch) (e : Env) (R : Room) (s : State) (m : MethodId) (args : Array Value) (below : List Frame) (meth : Method) (c : Code) (T : State) (locs : List Loc) (cells slots : Nat) (rm : Room) (Q : Option Value → Heap → List Loc → Prop) (pc pc' : Nat) (Ls : Array Slot) (st rest : List Value) : Prop :=
  ∃ (v : Option Value) (T' : State) (L : List Loc), Stand p l e R s m args below meth c T' (locs ++ L) (cells + rm.cells) (slots + rm.slots) ∧ Q v T'.heap L ∧
    ∀ target, Steps p.tables e below (T'.setTop (mkF m pc' Ls (v.toList ++ rest))) target → Steps p.tables e below (T.setTop (mkF m pc Ls st)) target
theorem own_callS (X : Stand p l e R s m args below meth c T locs cells slots) (hx : p.tables.exec = Jvm.exec) (hZ : Z.Warmed39 s.vm) (hown : s.vm.findClass own = some m.cls)
    (w1 : (Cond.methodLink own index y).before a0 Z = true) (w2 : (Cond.static y).before a0 Z = true) (w3 : (Cond.initialized y.cls).before a0 Z = true) (w4 : (Cond.code y bytes maxL ret).before a0 Z = true)
    (hM : OwnMet l Z y bytes maxL ret [] rm as' h Q) (eT : T.heap = h) (hsize : Ls.size = c.maxLocals) (hlen : ∀ sig, parseMethodDescriptor y.desc = some sig → argsL.length = sig.parameters.length) (hd : decode c.code pc = .ok (.invokestatic index, 3))
    (has : argsL.toArray = as' := by rfl) (hW : (rest.map fun v => v.category).sum ≤ W := by exact Nat.le_of_eq rfl) (hf : rm.frames + 1 ≤ R.frames := by decide) (hl : W + (maxL + 11) + rm.locals ≤ R.locals := by decide) (hc : cells + rm.cells ≤ R.cells := by decide) (hs : slots + rm.slots ≤ R.slots := by decide) (hy : y.cls ≠ "java/lang/invoke/MethodHandle" ∧ y.cls ≠ "java/lang/invoke/VarHandle" := by decide) :
    OwnCame p l e R s m args below meth c T locs cells slots rm Q pc (pc + 3) Ls (argsL.reverse ++ rest) rest := by
  obtain ⟨v, vm1, ⟨T', L', c', n'⟩, -, XB, ⟨L, hQ, l1, y1, z1⟩, st⟩ := Jvm.LawKit.callS X hx (y := y) hown (mvT hZ w1) (mvT hZ w2) (mvT hZ w3) (mvT hZ w4) hy (backOf (W := W) hM hZ w4 w3 hf hl) (g := mkF m pc Ls (argsL.reverse ++ rest)) rfl hsize (argsL := argsL) (rest := rest) hlen rfl (by show 2 * 0 + _ ≤ _; omega) hd (fun _ _ => ⟨has, eT, hc, hs⟩)
  dsimp only at XB l1 y1 z1 st hQ
  subst l1 y1 z1
  exact ⟨v, T', L, XB, hQ, st⟩
theorem own_special (X : Stand p l e R s m args below meth c T locs cells slots) (hx : p.tables.exec = Jvm.exec) (hZ : Z.Warmed39 s.vm) (hown : s.vm.findClass own = some m.cls) {a : Addr}
    (w1 : (Cond.methodLink own index y).before a0 Z = true) (w2 : (Cond.instanceMethod y).before a0 Z = true) (w3 : (Cond.initialized y.cls).before a0 Z = true) (w4 : (Cond.code y bytes maxL none).before a0 Z = true)
    (hM : OwnMet l Z y bytes maxL none [] rm as' h Q) (eT : T.heap = h) (hsize : Ls.size = c.maxLocals) (hlen : ∀ sig, parseMethodDescriptor y.desc = some sig → argsL.length = sig.parameters.length) (hd : decode c.code pc = .ok (.invokespecial index, 3))
    (has : (.ref a :: argsL).toArray = as' := by rfl) (hW : (rest.map fun v => v.category).sum ≤ W := by exact Nat.le_of_eq rfl) (hf : rm.frames + 1 ≤ R.frames := by decide) (hl : W + (maxL + 11) + rm.locals ≤ R.locals := by decide) (hc : cells + rm.cells ≤ R.cells := by decide) (hs : slots + rm.slots ≤ R.slots := by decide) (hy : y.cls ≠ "java/lang/invoke/MethodHandle" ∧ y.cls ≠ "java/lang/invoke/VarHandle" := by decide) (hy1 : y.name = "<init>" := by rfl) :
    OwnCame p l e R s m args below meth c T locs cells slots rm Q pc (pc + 3) Ls (argsL.reverse ++ .ref a :: rest) rest := by
  obtain ⟨v, vm1, ⟨T', L', c', n'⟩, -, XB, ⟨L, hQ, l1, y1, z1⟩, st⟩ := X.specialBack hx (y := y) hy1 hown (mvT hZ w1) (mvT hZ w2) (mvT hZ w4) hy (backOf (W := W) hM hZ w4 w3 hf hl) (g := mkF m pc Ls (argsL.reverse ++ .ref a :: rest)) rfl hsize (Steps.refl _) (a := a) (argsL := argsL) (rest := rest) hlen rfl (by show 2 * 0 + _ ≤ _; omega) hd (fun _ _ => ⟨has, eT, hc, hs⟩)
  dsimp only at XB l1 y1 z1 st hQ
  subst l1 y1 z1
  exact ⟨v, T', L, XB, hQ, fun t k => st.trans k⟩
theorem own_virtual (X : Stand p l e R s m args below meth c T locs cells slots) (hx : p.tables.exec = Jvm.exec) (hZ : Z.Warmed39 s.vm) (hown : s.vm.findClass own = some m.cls) {a : Addr} {C : String} (E : Exa Z h a C)
    (w1 : (Cond.methodLink own index y).before a0 Z = true) (w2 : (Cond.declares y).before a0 Z = true) (nf : NotFace s y) (w5 : (Cond.selects C y z).before a0 Z = true) (w6 : (Cond.instanceMethod z).before a0 Z = true) (w3 : (Cond.initialized z.cls).before a0 Z = true) (w4 : (Cond.code z bytes maxL ret).before a0 Z = true)
    (hM : OwnMet l Z z bytes maxL ret [] rm as' h Q) (eT : T.heap = h) (hsize : Ls.size = c.maxLocals) (hlen : ∀ sig, parseMethodDescriptor y.desc = some sig → argsL.length = sig.parameters.length) (hd : decode c.code pc = .ok (.invokevirtual index, 3))
    (has : (.ref a :: argsL).toArray = as' := by rfl) (hW : (rest.map fun v => v.category).sum ≤ W := by exact Nat.le_of_eq rfl) (hf : rm.frames + 1 ≤ R.frames := by decide) (hl : W + (maxL + 11) + rm.locals ≤ R.locals := by decide) (hc : cells + rm.cells ≤ R.cells := by decide) (hs : slots + rm.slots ≤ R.slots := by decide) (hy : y.cls ≠ "java/lang/invoke/MethodHandle" ∧ y.cls ≠ "java/lang/invoke/VarHandle" := by decide) :
    OwnCame p l e R s m args below meth c T locs cells slots rm Q pc (pc + 3) Ls (argsL.reverse ++ .ref a :: rest) rest := by
  obtain ⟨cB, kB, i1, -, i3⟩ := isOf hZ eT E
  obtain ⟨v, vm1, ⟨T', L', c', n'⟩, -, XB, ⟨L, hQ, l1, y1, z1⟩, st⟩ := X.virtualBack hx (y := y) (z := z) hown (mvT hZ w1) (mvT hZ w2) nf (mvT hZ w5) (mvT hZ w6) hy (backOf (W := W) hM hZ w4 w3 hf hl) i1 i3 (g := mkF m pc Ls (argsL.reverse ++ .ref a :: rest)) rfl hsize (Steps.refl _) (argsL := argsL) (rest := rest) hlen rfl (by show 2 * 0 + _ ≤ _; omega) hd (fun _ _ => ⟨has, eT, hc, hs⟩)
  dsimp only at XB l1 y1 z1 st hQ
  subst l1 y1 z1
  exact ⟨v, T', L, XB, hQ, fun t k => st.trans k⟩
theorem own_virtualUp (X : Stand p l e R s m args below meth c T locs cells slots) (hx : p.tables.exec = Jvm.exec) (hZ : Z.Warmed39 s.vm) (hown : s.vm.findClass own = some m.cls) {a : Addr} {C owner : String} (E : Exa Z h a C)
    (w1 : (Cond.methodLink own index y).before a0 Z = true) (w7 : (Cond.sameMethod y.cls owner y.name y.desc).before a0 Z = true) (w2 : (Cond.declares ⟨owner, y.name, y.desc⟩).before a0 Z = true) (w5 : (Cond.selects C y z).before a0 Z = true) (w6 : (Cond.instanceMethod z).before a0 Z = true) (w3 : (Cond.initialized z.cls).before a0 Z = true) (w4 : (Cond.code z bytes maxL ret).before a0 Z = true)
    (hM : OwnMet l Z z bytes maxL ret [] rm as' h Q) (eT : T.heap = h) (hsize : Ls.size = c.maxLocals) (hlen : ∀ sig, parseMethodDescriptor y.desc = some sig → argsL.length = sig.parameters.length) (hd : decode c.code pc = .ok (.invokevirtual index, 3))
    (has : (.ref a :: argsL).toArray = as' := by rfl) (hW : (rest.map fun v => v.category).sum ≤ W := by exact Nat.le_of_eq rfl) (hf : rm.frames + 1 ≤ R.frames := by decide) (hl : W + (maxL + 11) + rm.locals ≤ R.locals := by decide) (hc : cells + rm.cells ≤ R.cells := by decide) (hs : slots + rm.slots ≤ R.slots := by decide) (hy : owner ≠ "java/lang/invoke/MethodHandle" ∧ owner ≠ "java/lang/invoke/VarHandle" := by decide) :
    OwnCame p l e R s m args below meth c T locs cells slots rm Q pc (pc + 3) Ls (argsL.reverse ++ .ref a :: rest) rest := by
  obtain ⟨cB, kB, i1, -, i3⟩ := isOf hZ eT E
  obtain ⟨v, vm1, ⟨T', L', c', n'⟩, -, XB, ⟨L, hQ, l1, y1, z1⟩, st⟩ := X.virtualBackUp hx (x := y) (y := z) (owner := owner) hown (mvT hZ w1) (mvT hZ w7) (mvT hZ w2) hy (mvT hZ w5) (mvT hZ w6) (backOf (W := W) hM hZ w4 w3 hf hl) i1 i3 (g := mkF m pc Ls (argsL.reverse ++ .ref a :: rest)) rfl hsize (Steps.refl _) (argsL := argsL) (rest := rest) hlen rfl (by show 2 * 0 + _ ≤ _; omega) hd (fun _ _ => ⟨has, eT, hc, hs⟩)
  dsimp only at XB l1 y1 z1 st hQ
  subst l1 y1 z1
  exact ⟨v, T', L, XB, hQ, fun t k => st.trans k⟩
theorem own_private (X : Stand p l e R s m args below meth c T locs cells slots) (hx : p.tables.exec = Jvm.exec) (hZ : Z.Warmed39 s.vm) (hown : s.vm.findClass own = some m.cls) {a : Addr} {C : String} (E : Exa Z h a C)
    (w1 : (Cond.methodLink own index y).before a0 Z = true) (w2 : (Cond.instanceMethod y).before a0 Z = true) (w5 : (Cond.selects y.cls y y).before args s = true) (w6 : (Cond.privateMethod y).before a0 Z = true) (w3 : (Cond.initialized y.cls).before a0 Z = true) (w4 : (Cond.code y bytes maxL ret).before a0 Z = true)
    (hM : OwnMet l Z y bytes maxL ret [] rm as' h Q) (eT : T.heap = h) (hsize : Ls.size = c.maxLocals) (hlen : ∀ sig, parseMethodDescriptor y.desc = some sig → argsL.length = sig.parameters.length) (hd : decode c.code pc = .ok (.invokevirtual index, 3))
    (has : (.ref a :: argsL).toArray = as' := by rfl) (hW : (rest.map fun v => v.category).sum ≤ W := by exact Nat.le_of_eq rfl) (hf : rm.frames + 1 ≤ R.frames := by decide) (hl : W + (maxL + 11) + rm.locals ≤ R.locals := by decide) (hc : cells + rm.cells ≤ R.cells := by decide) (hs : slots + rm.slots ≤ R.slots := by decide) (hy : y.cls ≠ "java/lang/invoke/MethodHandle" ∧ y.cls ≠ "java/lang/invoke/VarHandle" := by decide) :
    OwnCame p l e R s m args below meth c T locs cells slots rm Q pc (pc + 3) Ls (argsL.reverse ++ .ref a :: rest) rest := by
  obtain ⟨cq, q1, q2⟩ := E.cell
  obtain ⟨v, vm1, ⟨T', L', c', n'⟩, -, XB, ⟨L, hQ, l1, y1, z1⟩, st⟩ := X.privateBack hx (y := y) hown (mvT hZ w1) (mvT hZ w2) w5 (Cond.privateMethod_at (mvP hZ w6 (args := #[]))) (mvT hZ w4) hy (backOf (W := W) hM hZ w4 w3 hf hl) (g := mkF m pc Ls (argsL.reverse ++ .ref a :: rest)) rfl hsize (Steps.refl _) (a := a) (by rw [eT]; exact q1) q2 (argsL := argsL) (rest := rest) hlen rfl (by show 2 * 0 + _ ≤ _; omega) hd (fun _ _ => ⟨has, eT, hc, hs⟩)
  dsimp only at XB l1 y1 z1 st hQ
  subst l1 y1 z1
  exact ⟨v, T', L, XB, hQ, fun t k => st.trans k⟩
theorem own_iface (X : Stand p l e R s m args below meth c T locs cells slots) (hx : p.tables.exec = Jvm.exec) (hZ : Z.Warmed39 s.vm) (hown : s.vm.findClass own = some m.cls) {a : Addr} {C : String} {count : Nat} (E : Exa Z h a C)
    (w1 : (Cond.methodLink own index y).before a0 Z = true) (w2 : (Cond.declares y).before a0 Z = true) (w7 : (Cond.interfaceMethod y.cls y.cls y.name y.desc).before a0 Z = true) (w5 : (Cond.selects C y z).before a0 Z = true) (w6 : (Cond.instanceMethod z).before a0 Z = true) (w8 : (Cond.publicMethod z).before a0 Z = true) (w9 : (Cond.unhidden C y.name y.desc).before a0 Z = true) (wc : (Cond.castable C y.cls).before a0 Z = true) (w3 : (Cond.initialized z.cls).before a0 Z = true) (w4 : (Cond.code z bytes maxL ret).before a0 Z = true)
    (hM : OwnMet l Z z bytes maxL ret [] rm as' h Q) (eT : T.heap = h) (hsize : Ls.size = c.maxLocals) (hlen : ∀ sig, parseMethodDescriptor y.desc = some sig → argsL.length = sig.parameters.length) (hd : decode c.code pc = .ok (.invokeinterface index count, 5))
    (has : (.ref a :: argsL).toArray = as' := by rfl) (hW : (rest.map fun v => v.category).sum ≤ W := by exact Nat.le_of_eq rfl) (hf : rm.frames + 1 ≤ R.frames := by decide) (hl : W + (maxL + 11) + rm.locals ≤ R.locals := by decide) (hc : cells + rm.cells ≤ R.cells := by decide) (hs : slots + rm.slots ≤ R.slots := by decide) (hy : y.cls ≠ "java/lang/invoke/MethodHandle" ∧ y.cls ≠ "java/lang/invoke/VarHandle" := by decide) :
    OwnCame p l e R s m args below meth c T locs cells slots rm Q pc (pc + 5) Ls (argsL.reverse ++ .ref a :: rest) rest := by
  obtain ⟨cB, kB, i1, i2, i3⟩ := isOf hZ eT E
  obtain ⟨v, vm1, ⟨T', L', c', n'⟩, -, XB, ⟨L, hQ, l1, y1, z1⟩, st⟩ := X.interfaceBack hx (xi := y) (y := z) hown (mvT hZ w1) (mvT hZ w2) (mvT hZ w7 (by simp [Cond.onTables, Cond.keepsFace, Cond.keeps, Cond.steady, Cond.faceAtom, hy.1, hy.2])) (mvT hZ w5) (mvT hZ w6) (mvT hZ w8) (mvT hZ w9) (mvT hZ wc) hy (backOf (W := W) hM hZ w4 w3 hf hl) i1 i2 i3 (g := mkF m pc Ls (argsL.reverse ++ .ref a :: rest)) rfl hsize (Steps.refl _) (argsL := argsL) (rest := rest) hlen rfl (by show 2 * 0 + _ ≤ _; omega) hd (fun _ _ => ⟨has, eT, hc, hs⟩)
  dsimp only at XB l1 y1 z1 st hQ
  subst l1 y1 z1
  exact ⟨v, T', L, XB, hQ, fun t k => st.trans k⟩
theorem own_specialNest (X : Stand p l e R s m args below meth c T locs cells slots) (hx : p.tables.exec = Jvm.exec) (hZ : Z.Warmed39 s.vm) (hown : s.vm.findClass own = some m.cls) {a : Addr} {host : String}
    (w1 : (Cond.methodLinkNest own index y host).before args s = true) (w2 : (Cond.instanceMethod y).before a0 Z = true) (w3 : (Cond.initialized y.cls).before a0 Z = true) (w4 : (Cond.code y bytes maxL none).before a0 Z = true)
    (hM : OwnMet l Z y bytes maxL none [] rm as' h Q) (eT : T.heap = h) (hsize : Ls.size = c.maxLocals) (hlen : ∀ sig, parseMethodDescriptor y.desc = some sig → argsL.length = sig.parameters.length) (hd : decode c.code pc = .ok (.invokespecial index, 3))
    (has : (.ref a :: argsL).toArray = as' := by rfl) (hW : (rest.map fun v => v.category).sum ≤ W := by exact Nat.le_of_eq rfl) (hf : rm.frames + 1 ≤ R.frames := by decide) (hl : W + (maxL + 11) + rm.locals ≤ R.locals := by decide) (hc : cells + rm.cells ≤ R.cells := by decide) (hs : slots + rm.slots ≤ R.slots := by decide) (hy : y.cls ≠ "java/lang/invoke/MethodHandle" ∧ y.cls ≠ "java/lang/invoke/VarHandle" := by decide) (hy1 : y.name = "<init>" := by rfl) :
    OwnCame p l e R s m args below meth c T locs cells slots rm Q pc (pc + 3) Ls (argsL.reverse ++ .ref a :: rest) rest := by
  obtain ⟨v, vm1, ⟨T', L', c', n'⟩, -, XB, ⟨L, hQ, l1, y1, z1⟩, st⟩ := X.specialBackNest hx (y := y) hy1 hown w1 (mvT hZ w2) (mvT hZ w4) hy (backOf (W := W) hM hZ w4 w3 hf hl) (g := mkF m pc Ls (argsL.reverse ++ .ref a :: rest)) rfl hsize (Steps.refl _) (a := a) (argsL := argsL) (rest := rest) hlen rfl (by show 2 * 0 + _ ≤ _; omega) hd (fun _ _ => ⟨has, eT, hc, hs⟩)
  dsimp only at XB l1 y1 z1 st hQ
  subst l1 y1 z1
  exact ⟨v, T', L, XB, hQ, fun t k => st.trans k⟩
end Calls
theorem own_narR {v : Value} (h : v.isRef = true) {t : FieldType} (ht : t.isReference = true := by rfl) : narrow t v = v := by
  rcases ref_cases h with rfl | ⟨a, rfl⟩ <;> cases t <;> first | rfl | cases ht
theorem own_fitR {v : Value} (h : v.isRef = true) {t : FieldType} (ht : t.isReference = true := by rfl) : fits t v = true := by
  rcases ref_cases h with rfl | ⟨a, rfl⟩ <;> cases t <;> first | rfl | cases ht
theorem own_catR {v : Value} (h : v.isRef = true) : v.category = 1 := by rcases ref_cases h with rfl | ⟨a, rfl⟩ <;> rfl
theorem own_arv_of_arh {Z : State} {h : Heap} {a : Addr} {k : ClassId} {ty : FieldType} {z : Int32} {vs : List Value} {dv : Value} (F : Arh Z h a k ty z [] vs dv) : Arv Z h a k ty z vs dv := by
  obtain ⟨c, A, q, S, N, H, G⟩ := F
  exact ⟨c, A, q, S, N, H, G⟩
theorem own_getD_all (j : Nat) (d : Value) : ∀ n, (List.replicate n d).getD j d = d := by
  intro n
  simp only [List.getD_eq_getElem?_getD, List.getElem?_replicate]
  split <;> rfl
theorem own_c_nar_char (x : Int32) : ((nar .char x).toInt - x.toInt) % 65536 = 0 ∧ 0 ≤ (nar .char x).toInt ∧ (nar .char x).toInt < 65536 := c_i2c x
theorem own_c_nar_byte (x : Int32) : ((nar .byte x).toInt - x.toInt) % 256 = 0 ∧ -128 ≤ (nar .byte x).toInt ∧ (nar .byte x).toInt < 128 := c_i2b x
theorem own_mask (x m : Int32) (k : Nat) (hk : k ≤ 31) (hm : m.toBitVec.toNat = 2 ^ k - 1) (P : Int) (hP : ((2 ^ k : Nat) : Int) = P) : (x &&& m).toInt = x.toInt % P := by rw [← hP]; exact c_mask x m k hk hm
theorem own_maskL (x m : Int64) (k : Nat) (hk : k ≤ 63) (hm : m.toBitVec.toNat = 2 ^ k - 1) (P : Int) (hP : ((2 ^ k : Nat) : Int) = P) : (x &&& m).toInt = x.toInt % P := by rw [← hP]; exact c_maskL x m k hk hm
theorem own_ushr (x q : Int32) (k : Nat) (hk : q.toBitVec.toNat % 32 = k) (h0 : 0 < k) (P : Int) (hP : ((2 ^ k : Nat) : Int) = P) : ((x.toUInt32 >>> (q &&& 31).toUInt32).toInt32).toInt = (x.toInt % 4294967296) / P := by rw [← hP]; exact c_iushr x q k hk h0
theorem own_shr (x q : Int32) (k : Nat) (hk : q.toBitVec.toNat % 32 = k) (P : Int) (hP : ((2 ^ k : Nat) : Int) = P) : (x >>> (q &&& 31)).toInt = x.toInt / P := by rw [← hP]; exact c_ishr x q k hk
theorem own_irem_eq (x y : Int32) : x - (x / y) * y = x % y := by
  have h : (x - (x / y) * y).toInt = (x % y).toInt := by
    rw [Int32.toInt_sub, Int32.toInt_mul, Int32.toInt_mod, Int32.toInt_div, Int.bmod_mul_bmod, Int.sub_bmod_bmod]
    have hx := x.le_toInt; have hx' := x.toInt_lt
    have e : x.toInt - x.toInt.tdiv y.toInt * y.toInt = x.toInt.tmod y.toInt := by rw [Int.tmod_def, Int.mul_comm]
    rw [e]
    have h4 : (x.toInt.tmod y.toInt) ≤ 2147483647 := by
      by_cases hp : 0 ≤ x.toInt
      · have := Int.natAbs_tmod x.toInt y.toInt; have := Nat.mod_le x.toInt.natAbs y.toInt.natAbs; omega
      · have := Int.tmod_nonneg (a := -x.toInt) y.toInt (by omega); rw [Int.neg_tmod] at this; omega
    have h5 : -2147483648 ≤ (x.toInt.tmod y.toInt) := by
      have := Int.natAbs_tmod x.toInt y.toInt; have := Nat.mod_le x.toInt.natAbs y.toInt.natAbs; omega
    exact Int.bmod_eq_of_le (by omega) (by omega)
  exact Int32.toInt_inj.mp h
theorem own_irem (x y : Int32) (d : Int) (hy : y.toInt = d) : (0 ≤ x.toInt → (x - (x / y) * y).toInt = x.toInt % d) ∧ (x.toInt < 0 → (x - (x / y) * y).toInt = -((-x.toInt) % d)) := by rw [own_irem_eq]; exact c_irem x y d hy
end Jvm.RoadKit
namespace Jvm.RoadKit
open Sem ClassFile Op Lib Jvm.Stand Jvm.Free Jvm.LawKit
section Mirrors
variable {p : Program} {l : Launch} {e : Env} {R : Room} {s : State} {m : MethodId} {args : Array Value} {below : List Frame} {meth : Method} {c : Code} {T : State} {locs : List Loc} {cells slots : Nat} {Z : State} {a0 : Array Value} {h : Heap} {a : Addr}
def OwnMir (Z : State) (C : String) (m : Addr) : Prop := ∃ (c : ClassId) (k : Class), Z.vm.findClass C = some c ∧ Z.vm.classes[c]? = some k ∧ k.mirror = some m
theorem own_gcls (X : Stand p l e R s m args below meth c T locs cells slots) (hx : p.tables.exec = Jvm.exec) (hZ : Z.Warmed39 s.vm) {own C : String} {index : Nat} (hown : s.vm.findClass own = some m.cls)
    (w1 : (Cond.methodLink own index Jvm.Stand.gcN).before a0 Z = true) (w2 : (Cond.declares Jvm.Stand.gcN).before a0 Z = true) (w3 : (Cond.noSuperclass "java/lang/Object").before a0 Z = true) (w4 : (Cond.selects C Jvm.Stand.gcN Jvm.Stand.gcN).before a0 Z = true)
    (w5 : (Cond.instanceMethod Jvm.Stand.gcN).before a0 Z = true) (w6 : (Cond.native Jvm.Stand.gcN).before a0 Z = true) (eT : T.heap = h) (E : Exa Z h a C) {mr : Addr} (M : OwnMir Z C mr)
    {g : JFrame} (hg : g.method = m) (hsize : g.locals.size = c.maxLocals) {rest : List Value} (hs : g.stack = .ref a :: rest) (hd : decode c.code g.pc = .ok (.invokevirtual index, 3)) (hf : 1 ≤ R.frames) {W : Nat} (hW : 2 * g.monitorRoom + (rest.map fun v => v.category).sum ≤ W) (hl : W + 14 ≤ R.locals) :
    ∃ T', Stand p l e R s m args below meth c T' locs cells slots ∧ T'.heap = h ∧ ∀ target, Steps p.tables e below (T'.setTop { g with pc := g.pc + 3, stack := .ref mr :: rest }) target → Steps p.tables e below (T.setTop g) target := by
  obtain ⟨cc, kc, m1, m2, m3⟩ := M
  obtain ⟨cB, kB, i1, i2, i3⟩ := isOf hZ eT E
  have j1 : s.vm.findClass C = some cc := by rw [hZ.alike.findClass]; exact m1
  cases j1.symm.trans i1
  obtain ⟨k', q, ek⟩ := hZ.alike.2.2 _ _ m2
  obtain ⟨vm', X', st⟩ := X.getClassOf hx hown (mvT hZ w1) (mvT hZ w2) (nf_top (args := #[]) (mvT hZ w3)) (mvT hZ w4) (mvT hZ w5) (mvT hZ w6) j1 i3 q (mir := mr) (by rw [ek]; exact m3) hg hsize hs hd hf (by have : nativeFrameWords "java/lang/Object" "getClass" 1 = 3 := (by decide); omega)
  exact ⟨_, X', eT, st⟩
theorem own_ldcM (X : Stand p l e R s m args below meth c T locs cells slots) (hx : p.tables.exec = Jvm.exec) (hZ : Z.Warmed39 s.vm) {own C : String} {index : Nat} (hown : s.vm.findClass own = some m.cls) (w : (Cond.classLink own index C).before a0 Z = true) {mr : Addr} (M : OwnMir Z C mr) (eT : T.heap = h)
    {g : JFrame} (hg : g.method = m) (hd : decode c.code g.pc = .ok (.ldc index, 2)) : ∃ T', Stand p l e R s m args below meth c T' locs cells slots ∧ T'.heap = h ∧ ∀ target, Steps p.tables e below (T'.setTop { g with pc := g.pc + 2, stack := .ref mr :: g.stack }) target → Steps p.tables e below (T.setTop g) target := by
  obtain ⟨cc, kc, m1, m2, m3⟩ := M
  have j1 : s.vm.findClass C = some cc := by rw [hZ.alike.findClass]; exact m1
  obtain ⟨k', q, ek⟩ := hZ.alike.2.2 _ _ m2
  have hm : k'.mirror = some mr := by rw [ek]; exact m3
  obtain ⟨vm', X', st⟩ := X.ldcMirror hx hown (mvT hZ w) (a := mr) (by simp [Term.eval, j1, q, hm]) hg hd
  exact ⟨_, X', eT, st⟩
theorem own_NSroot {O K : String} {n : Nat} (w : (Cond.noSuperclass O).before a0 Z = true) (wk : (Cond.instantiable K n).before a0 Z = true) (hn : O ≠ K) : NS Z O K := by
  obtain ⟨c, k, h1, h2, h3, -, -⟩ := Cond.noSuperclass_spec w
  obtain ⟨t, kt, g1, -⟩ := Cond.instantiable_spec wk
  have ne := ids_ne h1 g1 hn
  exact ⟨c, t, h1, g1, fun fuel => by cases fuel <;> simp [Vm.isSubclassAux, ne, h2, h3]⟩
theorem own_NSno {C S K : String} {n : Nat} (w : (Cond.superclass C S).before a0 Z = true) (wk : (Cond.instantiable K n).before a0 Z = true) (nn : NS Z C K) (hn : C ≠ K) : ∃ c t, Z.vm.findClass C = some c ∧ Z.vm.findClass K = some t ∧ Z.vm.assignable c t = false := by
  obtain ⟨c, t, h0, g0, n3⟩ := nn
  obtain ⟨p, k, kp, h1, h2, h3, h4, h5, -, h7⟩ := Cond.superclass_spec h0 w
  obtain ⟨t', kt, g1, g2, g3, g4, -⟩ := Cond.instantiable_spec wk
  cases g0.symm.trans g1
  have ne := ids_ne h0 g0 hn
  have gi : kt.isInterface = false := by simp at g4; exact g4.1
  refine ⟨c, t, h0, g0, ?_⟩
  show Z.vm.assignableAux (255 + 1) c t = false
  simp [Vm.assignableAux, ne, h2, g2, h5, g3, gi, Vm.isSubclass, n3]
end Mirrors
end Jvm.RoadKit
namespace Jvm.Pilot.@@N@@
open Jvm Jvm.ClassFile Sem Op Lib Jvm.Free Jvm.Stand Jvm.LawKit Jvm.RoadKit Bundle Jvm.Pilot.@@N@@.Jvm.D
def Q0 (n0 : Nat) (v : Option Value) (h : Heap) (L : List Loc) : Prop := v = some (.int 1) ∧ Fr n0 L
theorem own_eqI {args : Array Value} {first s : State} {o : Option Outcome} {idx : List Nat} {t : Term} {n : Int32} (h : (Jvm.Cond.eq t (.int n)).value args first o s idx = some true) : t.eval args first o idx s = some (.int n) := by
  simp only [Jvm.Cond.value, Term.eval] at h
  cases ht : t.eval args first o idx s with
  | none => simp [ht] at h
  | some x => cases x <;> simp [ht] at h ⊢; exact h
theorem own_eqR {args : Array Value} {first s : State} {o : Option Outcome} {idx : List Nat} {t u : Term} {a : Addr} (h : (Jvm.Cond.eq t u).value args first o s idx = some true) (hu : u.eval args first o idx s = some (.ref a)) : t.eval args first o idx s = some (.ref a) := by
  simp only [Jvm.Cond.value, hu] at h
  cases ht : t.eval args first o idx s with
  | none => simp [ht] at h
  | some x => cases x <;> simp [ht] at h ⊢; exact h
theorem own_len {args : Array Value} {s : State} {t : Term} {n : Int32} {a : Addr} {c : Cell} {ty : FieldType} (h : (Term.length t).eval args s none [] s = some (.int n)) (ev : t.eval args s none [] s = some (.ref a)) (A : Arr s s.heap a c ty) : c.slots.size < 2 ^ 31 ∧ c.slots.size.toInt32 = n := by
  have e := Arr.fin (Vm.Alike.refl _) A
  by_cases q : c.slots.size < 2 ^ 31
  · have := (len_f ev e q).symm.trans h
    exact ⟨q, by simpa using this⟩
  · simp [Term.eval, ev, e, q] at h
theorem w_0 {a0 : Array Value} {Z : State} (hw : ∀ d ∈ tables_1, d.before a0 Z = true) : Jvm.Cond.before (Jvm.Cond.constant "com/example/feedergen/feedergen/core/DrivenLineLengthForwardPinLaw" (7 : Nat) (2147483647 : Int32)) a0 Z = true := hw _ (List.mem_of_getElem? (i := 0) rfl)
theorem w_1 {a0 : Array Value} {Z : State} (hw : ∀ d ∈ tables_1, d.before a0 Z = true) : Jvm.Cond.before (Jvm.Cond.classLink "com/example/feedergen/feedergen/core/DrivenLineLengthForwardPinLaw" (8 : Nat) "com/example/feedergen/feedergen/core/StopCandidate") a0 Z = true := hw _ (List.mem_of_getElem? (i := 1) rfl)
theorem w_2 {a0 : Array Value} {Z : State} (hw : ∀ d ∈ tables_1, d.before a0 Z = true) : Jvm.Cond.before (Jvm.Cond.instantiable "com/example/feedergen/feedergen/core/StopCandidate" (3 : Nat)) a0 Z = true := hw _ (List.mem_of_getElem? (i := 2) rfl)
theorem w_3 {a0 : Array Value} {Z : State} (hw : ∀ d ∈ tables_1, d.before a0 Z = true) : Jvm.Cond.before (Jvm.Cond.initialized "com/example/feedergen/feedergen/core/StopCandidate") a0 Z = true := hw _ (List.mem_of_getElem? (i := 3) rfl)
theorem w_16 {a0 : Array Value} {Z : State} (hw : ∀ d ∈ tables_1, d.before a0 Z = true) : Jvm.Cond.before (Jvm.Cond.laysFinal "com/example/feedergen/feedergen/core/StopCandidate" "com/example/feedergen/feedergen/core/StopCandidate" "id" "I") a0 Z = true := hw _ (List.mem_of_getElem? (i := 16) rfl)
theorem w_18 {a0 : Array Value} {Z : State} (hw : ∀ d ∈ tables_1, d.before a0 Z = true) : Jvm.Cond.before (Jvm.Cond.laysFinal "com/example/feedergen/feedergen/core/StopCandidate" "com/example/feedergen/feedergen/core/StopCandidate" "link" "Lcom/example/feedergen/feedergen/core/StreetLink;") a0 Z = true := hw _ (List.mem_of_getElem? (i := 18) rfl)
theorem w_20 {a0 : Array Value} {Z : State} (hw : ∀ d ∈ tables_1, d.before a0 Z = true) : Jvm.Cond.before (Jvm.Cond.laysFinal "com/example/feedergen/feedergen/core/StopCandidate" "com/example/feedergen/feedergen/core/StopCandidate" "trips" "D") a0 Z = true := hw _ (List.mem_of_getElem? (i := 20) rfl)
theorem d1_0 : decode prog_27_method_1_code 0 = .ok (.aload_n 0, 1) := by decide +kernel
theorem d1_1 : decode prog_27_method_1_code 1 = .ok (.invokespecial 1, 3) := by decide +kernel
theorem d2_0 : decode jdk_30_method_1_code 0 = .ok (.aload_n 0, 1) := by decide +kernel
theorem d2_1 : decode jdk_30_method_1_code 1 = .ok (.invokespecial 1, 3) := by decide +kernel
theorem w_12 {a0 : Array Value} {Z : State} (hw : ∀ d ∈ tables_1, d.before a0 Z = true) : Jvm.Cond.before (Jvm.Cond.methodLink "java/lang/Record" (1 : Nat) ({ cls := "java/lang/Object", name := "<init>", desc := "()V" } : Jvm.MethodName)) a0 Z = true := hw _ (List.mem_of_getElem? (i := 12) rfl)
theorem w_13 {a0 : Array Value} {Z : State} (hw : ∀ d ∈ tables_1, d.before a0 Z = true) : Jvm.Cond.before (Jvm.Cond.instanceMethod ({ cls := "java/lang/Object", name := "<init>", desc := "()V" } : Jvm.MethodName)) a0 Z = true := hw _ (List.mem_of_getElem? (i := 13) rfl)
theorem w_14 {a0 : Array Value} {Z : State} (hw : ∀ d ∈ tables_1, d.before a0 Z = true) : Jvm.Cond.before (Jvm.Cond.code ({ cls := "java/lang/Object", name := "<init>", desc := "()V" } : Jvm.MethodName) object_method_1_code (1 : Nat) (Option.none : Option Jvm.ClassFile.FieldType)) a0 Z = true := hw _ (List.mem_of_getElem? (i := 14) rfl)
theorem d2_4 : decode jdk_30_method_1_code 4 = .ok (.return_, 1) := by decide +kernel
abbrev y_0 : MethodName := ⟨"java/lang/Record", "<init>", "()V"⟩
theorem pn_0 : plainName "java/lang/Record" = true := by first | (simp [plainName, overriddenIn]; done) | decide +kernel
-- java/lang/Record.<init>()V
abbrev Rm1 : Room := { frames := 1, cells := 0, slots := 0, locals := 12 }
def Q1 (Z : State) (a1 : Addr) (h0 : Heap) (n0 : Nat) (v : Option Value) (h : Heap) (L : List Loc) : Prop := v = none ∧ Fr n0 L ∧ h = h0
theorem ef1 (a1 : Addr) (m : MethodId) : entryFrame m #[(.ref a1)] 1 = mkF m 0 #[.val (.ref a1)] [] := by first | (simp [entryFrame, mkF, argsToLocals, Value.category]; done) | rfl
theorem rm1 (l : Launch) (Z : State) (a0 : Array Value) (hw : ∀ d ∈ tables_1, d.before a0 Z = true) (ws : List Jvm.Cond) (a1 : Addr) (h0 : Heap) (n0 : Nat) (Z0 : n0 ≤ h0.size) :
    OwnMet l Z y_0 jdk_30_method_1_code 1 none ws Rm1 #[(.ref a1)] h0 (Q1 Z a1 h0 n0) := by
  refine own_body (plainFor_of_name pn_0) (ef1 a1) ?_
  intro p e s m below meth c s₁ hx hby hml hown hnm hret hZ X0 e0
  have N0 := Fr.nil n0
  obtain ⟨T2, X2, e2, st2⟩ := initO X0 hx hZ hown (w_12 hw) (w_13 hw) (w_14 hw) e0 (g := (mkF m 1 #[.val (.ref a1)] [(.ref a1)])) rfl (by rw [hml]; rfl) rfl (hb hby d2_1) (by decide) (W := 0) (by show 2 * 0 + _ ≤ _; exact Nat.le_of_eq rfl) (by decide)
  refine ⟨T2, _, _, _, none, X2, (fun _ => rfl), by decide, by decide, ?_, fun fs hr => ?_⟩
  · show Q1 Z a1 h0 n0 _ T2.heap _
    rw [e2]
    exact ⟨rfl, N0, rfl⟩
  · show Steps p.tables e below (s₁.setTop (mkF m 0 #[.val (.ref a1)] [])) _
    refine XS.aloadN X0.here hx rfl (hb hby d2_0) rfl rfl ?_
    refine st2 _ ?_
    exact X2.returnOut hx hret (hb hby d2_4) hr
theorem pd_0 : parseMethodDescriptor "()V" = some ⟨[], none⟩ := by decide +kernel
theorem w_10 {a0 : Array Value} {Z : State} (hw : ∀ d ∈ tables_1, d.before a0 Z = true) : Jvm.Cond.before (Jvm.Cond.initialized "java/lang/Record") a0 Z = true := hw _ (List.mem_of_getElem? (i := 10) rfl)
theorem w_11 {a0 : Array Value} {Z : State} (hw : ∀ d ∈ tables_1, d.before a0 Z = true) : Jvm.Cond.before (Jvm.Cond.code ({ cls := "java/lang/Record", name := "<init>", desc := "()V" } : Jvm.MethodName) jdk_30_method_1_code (1 : Nat) (Option.none : Option Jvm.ClassFile.FieldType)) a0 Z = true := hw _ (List.mem_of_getElem? (i := 11) rfl)
theorem w_7 {a0 : Array Value} {Z : State} (hw : ∀ d ∈ tables_1, d.before a0 Z = true) : Jvm.Cond.before (Jvm.Cond.methodLink "com/example/feedergen/feedergen/core/StopCandidate" (1 : Nat) ({ cls := "java/lang/Record", name := "<init>", desc := "()V" } : Jvm.MethodName)) a0 Z = true := hw _ (List.mem_of_getElem? (i := 7) rfl)
theorem w_8 {a0 : Array Value} {Z : State} (hw : ∀ d ∈ tables_1, d.before a0 Z = true) : Jvm.Cond.before (Jvm.Cond.instanceMethod ({ cls := "java/lang/Record", name := "<init>", desc := "()V" } : Jvm.MethodName)) a0 Z = true := hw _ (List.mem_of_getElem? (i := 8) rfl)
theorem d1_4 : decode prog_27_method_1_code 4 = .ok (.aload_n 0, 1) := by decide +kernel
theorem d1_5 : decode prog_27_method_1_code 5 = .ok (.iload_n 1, 1) := by decide +kernel
theorem d1_6 : decode prog_27_method_1_code 6 = .ok (.putfield 7, 3) := by decide +kernel
theorem w_15 {a0 : Array Value} {Z : State} (hw : ∀ d ∈ tables_1, d.before a0 Z = true) : Jvm.Cond.before (Jvm.Cond.fieldLink "com/example/feedergen/feedergen/core/StopCandidate" (7 : Nat) "com/example/feedergen/feedergen/core/StopCandidate" "id" "I") a0 Z = true := hw _ (List.mem_of_getElem? (i := 15) rfl)
theorem d1_9 : decode prog_27_method_1_code 9 = .ok (.aload_n 0, 1) := by decide +kernel
theorem d1_10 : decode prog_27_method_1_code 10 = .ok (.aload_n 2, 1) := by decide +kernel
theorem d1_11 : decode prog_27_method_1_code 11 = .ok (.putfield 13, 3) := by decide +kernel
theorem w_17 {a0 : Array Value} {Z : State} (hw : ∀ d ∈ tables_1, d.before a0 Z = true) : Jvm.Cond.before (Jvm.Cond.fieldLink "com/example/feedergen/feedergen/core/StopCandidate" (13 : Nat) "com/example/feedergen/feedergen/core/StopCandidate" "link" "Lcom/example/feedergen/feedergen/core/StreetLink;") a0 Z = true := hw _ (List.mem_of_getElem? (i := 17) rfl)
theorem d1_14 : decode prog_27_method_1_code 14 = .ok (.aload_n 0, 1) := by decide +kernel
theorem d1_15 : decode prog_27_method_1_code 15 = .ok (.dload_n 3, 1) := by decide +kernel
theorem d1_16 : decode prog_27_method_1_code 16 = .ok (.putfield 17, 3) := by decide +kernel
theorem w_19 {a0 : Array Value} {Z : State} (hw : ∀ d ∈ tables_1, d.before a0 Z = true) : Jvm.Cond.before (Jvm.Cond.fieldLink "com/example/feedergen/feedergen/core/StopCandidate" (17 : Nat) "com/example/feedergen/feedergen/core/StopCandidate" "trips" "D") a0 Z = true := hw _ (List.mem_of_getElem? (i := 19) rfl)
theorem d1_19 : decode prog_27_method_1_code 19 = .ok (.return_, 1) := by decide +kernel
abbrev y_1 : MethodName := ⟨"com/example/feedergen/feedergen/core/StopCandidate", "<init>", "(ILcom/example/feedergen/feedergen/core/StreetLink;D)V"⟩
theorem pn_1 : plainName "com/example/feedergen/feedergen/core/StopCandidate" = true := by first | (simp [plainName, overriddenIn]; done) | decide +kernel
-- com/example/feedergen/feedergen/core/StopCandidate.<init>(ILcom/example/feedergen/feedergen/core/StreetLink;D)V
abbrev Rm2 : Room := { frames := 2, cells := 0, slots := 0, locals := 24 }
def Q2 (Z : State) (a1 : Addr) (h0 : Heap) (n0 : Nat) (v : Option Value) (h : Heap) (L : List Loc) : Prop := v = none ∧ Fr n0 L ∧ Keep h0 h [a1] ∧ Exa Z h a1 "com/example/feedergen/feedergen/core/StopCandidate" ∧ Fld Z h a1 "com/example/feedergen/feedergen/core/StopCandidate" "id" "I" (.int (1 : Int32)) ∧ Fld Z h a1 "com/example/feedergen/feedergen/core/StopCandidate" "link" "Lcom/example/feedergen/feedergen/core/StreetLink;" .null ∧ Fld Z h a1 "com/example/feedergen/feedergen/core/StopCandidate" "trips" "D" (.double (0 : UInt64))
theorem ef2 (a1 : Addr) (m : MethodId) : entryFrame m #[(.ref a1), (.int (1 : Int32)), .null, (.double (0 : UInt64))] 5 = mkF m 0 #[.val (.ref a1), .val (.int (1 : Int32)), .val .null, .val (.double (0 : UInt64)), .second] [] := by first | (simp [entryFrame, mkF, argsToLocals, Value.category]; done) | rfl
theorem rm2 (l : Launch) (Z : State) (a0 : Array Value) (hw : ∀ d ∈ tables_1, d.before a0 Z = true) (ws : List Jvm.Cond) (a1 : Addr) (h0 : Heap) (n0 : Nat) (Z0 : n0 ≤ h0.size) (F_id_a1 : Fld Z h0 a1 "com/example/feedergen/feedergen/core/StopCandidate" "id" "I" (.int (0 : Int32))) (E_a1 : Exa Z h0 a1 "com/example/feedergen/feedergen/core/StopCandidate") (g_a1 : n0 ≤ a1) (F_link_a1 : Fld Z h0 a1 "com/example/feedergen/feedergen/core/StopCandidate" "link" "Lcom/example/feedergen/feedergen/core/StreetLink;" .null) (F_trips_a1 : Fld Z h0 a1 "com/example/feedergen/feedergen/core/StopCandidate" "trips" "D" (.double (0 : UInt64))) :
    OwnMet l Z y_1 prog_27_method_1_code 5 none ws Rm2 #[(.ref a1), (.int (1 : Int32)), .null, (.double (0 : UInt64))] h0 (Q2 Z a1 h0 n0) := by
  refine own_body (plainFor_of_name pn_1) (ef2 a1) ?_
  intro p e s m below meth c s₁ hx hby hml hown hnm hret hZ X0 e0
  have N0 := Fr.nil n0
  obtain ⟨_, T2, L2, X2, hQ2, st2⟩ := own_special X0 hx hZ hown (y := y_0) (a := a1) (w_7 hw) (w_8 hw) (w_10 hw) (w_11 hw) (rm1 l Z a0 hw [] a1 h0 n0 Z0) e0 (Ls := #[.val (.ref a1), .val (.int (1 : Int32)), .val .null, .val (.double (0 : UInt64)), .second]) (by rw [hml]; rfl) (argsL := []) (rest := []) (lenOf pd_0 rfl) (hb hby d1_1) (W := 0)
  obtain ⟨rfl, Nq2, e2⟩ := hQ2
  have N2 := Fr.app N0 Nq2
  obtain ⟨T3, h3, X3, e3, W3, st3⟩ := putF X2 hx hZ hown (host := "") (Or.inl (w_15 hw)) Via.refl e2 F_id_a1 E_a1 (Or.inr ⟨(w_16 hw), rfl, hnm⟩) (w_2 hw) (ty := .int) (by decide) rfl rfl (g := (mkF m 6 #[.val (.ref a1), .val (.int (1 : Int32)), .val .null, .val (.double (0 : UInt64)), .second] [(.int (1 : Int32)), (.ref a1)])) rfl rfl (hb hby d1_6)
  have s0 := (Keep.of_wr W3).1
  have N3 := Fr.snoc X3 N2 g_a1
  have Fw3 : Fld Z h3 a1 "com/example/feedergen/feedergen/core/StopCandidate" "id" "I" (.int (1 : Int32)) := F_id_a1.same W3
  have Ex4 := (E_a1.wr W3)
  have Fl5 := (F_link_a1.other W3 (Or.inr (slot_ne (Or.inr (w_18 hw)) (Or.inr (w_16 hw)) (by decide) (t := (.object "com/example/feedergen/feedergen/core/StreetLink")) (t' := .int) (by decide) (by decide))))
  obtain ⟨T6, h6, X6, e6, W6, st6⟩ := putF X3 hx hZ hown (host := "") (Or.inl (w_17 hw)) Via.refl e3 Fl5 Ex4 (Or.inr ⟨(w_18 hw), rfl, hnm⟩) (w_2 hw) (ty := (.object "com/example/feedergen/feedergen/core/StreetLink")) (by decide) rfl rfl (g := (mkF m 11 #[.val (.ref a1), .val (.int (1 : Int32)), .val .null, .val (.double (0 : UInt64)), .second] [.null, (.ref a1)])) rfl rfl (hb hby d1_11)
  have s1 := (Keep.of_wr W6).1
  have N6 := Fr.snoc X6 N3 g_a1
  have Fw6 : Fld Z h6 a1 "com/example/feedergen/feedergen/core/StopCandidate" "link" "Lcom/example/feedergen/feedergen/core/StreetLink;" .null := Fl5.same W6
  have Ex7 := (Ex4.wr W6)
  have Fl8 := ((F_trips_a1.other W3 (Or.inr (slot_ne (Or.inr (w_20 hw)) (Or.inr (w_16 hw)) (by decide) (t := .double) (t' := .int) (by decide) (by decide)))).other W6 (Or.inr (slot_ne (Or.inr (w_20 hw)) (Or.inr (w_18 hw)) (by decide) (t := .double) (t' := (.object "com/example/feedergen/feedergen/core/StreetLink")) (by decide) (by decide))))
  obtain ⟨T9, h9, X9, e9, W9, st9⟩ := putF X6 hx hZ hown (host := "") (Or.inl (w_19 hw)) Via.refl e6 Fl8 Ex7 (Or.inr ⟨(w_20 hw), rfl, hnm⟩) (w_2 hw) (ty := .double) (by decide) rfl rfl (g := (mkF m 16 #[.val (.ref a1), .val (.int (1 : Int32)), .val .null, .val (.double (0 : UInt64)), .second] [(.double (0 : UInt64)), (.ref a1)])) rfl rfl (hb hby d1_16)
  have s2 := (Keep.of_wr W9).1
  have N9 := Fr.snoc X9 N6 g_a1
  have Fw9 : Fld Z h9 a1 "com/example/feedergen/feedergen/core/StopCandidate" "trips" "D" (.double (0 : UInt64)) := Fl8.same W9
  have Ex10 := (Ex7.wr W9)
  have Fl11 := ((Fw3.other W6 (Or.inr (slot_ne (Or.inr (w_16 hw)) (Or.inr (w_18 hw)) (by decide) (t := .int) (t' := (.object "com/example/feedergen/feedergen/core/StreetLink")) (by decide) (by decide)))).other W9 (Or.inr (slot_ne (Or.inr (w_16 hw)) (Or.inr (w_20 hw)) (by decide) (t := .int) (t' := .double) (by decide) (by decide))))
  have Fl12 := (Fw6.other W9 (Or.inr (slot_ne (Or.inr (w_18 hw)) (Or.inr (w_20 hw)) (by decide) (t := (.object "com/example/feedergen/feedergen/core/StreetLink")) (t' := .double) (by decide) (by decide))))
  have Kp0 : Keep h0 h3 [a1] := (Keep.refl h0 [a1]).wr W3 (Or.inl (List.mem_of_getElem? (i := 0) rfl))
  have Kp1 : Keep h0 h6 [a1] := Kp0.wr W6 (Or.inl (List.mem_of_getElem? (i := 0) rfl))
  have Kp2 : Keep h0 h9 [a1] := Kp1.wr W9 (Or.inl (List.mem_of_getElem? (i := 0) rfl))
  refine ⟨T9, _, _, _, none, X9, (fun _ => rfl), by decide, by decide, ?_, fun fs hr => ?_⟩
  · show Q2 Z a1 h0 n0 _ T9.heap _
    rw [e9]
    exact ⟨rfl, N9, Kp2, Ex10, Fl11, Fl12, Fw9⟩
  · show Steps p.tables e below (s₁.setTop (mkF m 0 #[.val (.ref a1), .val (.int (1 : Int32)), .val .null, .val (.double (0 : UInt64)), .second] [])) _
    refine XS.aloadN X0.here hx rfl (hb hby d1_0) rfl rfl ?_
    refine st2 _ ?_
    refine XS.aloadN X2.here hx rfl (hb hby d1_4) rfl rfl ?_
    refine XS.iloadN X2.here hx rfl (hb hby d1_5) rfl ?_
    refine st3 _ ?_
    refine XS.aloadN X3.here hx rfl (hb hby d1_9) rfl rfl ?_
    refine XS.aloadN X3.here hx rfl (hb hby d1_10) rfl rfl ?_
    refine st6 _ ?_
    refine XS.aloadN X6.here hx rfl (hb hby d1_14) rfl rfl ?_
    refine XS.dloadN X6.here hx rfl (hb hby d1_15) rfl ?_
    refine st9 _ ?_
    exact X9.returnOut hx hret (hb hby d1_19) hr
theorem pd_1 : parseMethodDescriptor "(ILcom/example/feedergen/feedergen/core/StreetLink;D)V" = some ⟨[.int, (.object "com/example/feedergen/feedergen/core/StreetLink"), .double], none⟩ := by decide +kernel
theorem w_6 {a0 : Array Value} {Z : State} (hw : ∀ d ∈ tables_1, d.before a0 Z = true) : Jvm.Cond.before (Jvm.Cond.code ({ cls := "com/example/feedergen/feedergen/core/StopCandidate", name := "<init>", desc := "(ILcom/example/feedergen/feedergen/core/StreetLink;D)V" } : Jvm.MethodName) prog_27_method_1_code (5 : Nat) (Option.none : Option Jvm.ClassFile.FieldType)) a0 Z = true := hw _ (List.mem_of_getElem? (i := 6) rfl)
theorem w_4 {a0 : Array Value} {Z : State} (hw : ∀ d ∈ tables_1, d.before a0 Z = true) : Jvm.Cond.before (Jvm.Cond.methodLink "com/example/feedergen/feedergen/core/DrivenLineLengthForwardPinLaw" (10 : Nat) ({ cls := "com/example/feedergen/feedergen/core/StopCandidate", name := "<init>", desc := "(ILcom/example/feedergen/feedergen/core/StreetLink;D)V" } : Jvm.MethodName)) a0 Z = true := hw _ (List.mem_of_getElem? (i := 4) rfl)
theorem w_5 {a0 : Array Value} {Z : State} (hw : ∀ d ∈ tables_1, d.before a0 Z = true) : Jvm.Cond.before (Jvm.Cond.instanceMethod ({ cls := "com/example/feedergen/feedergen/core/StopCandidate", name := "<init>", desc := "(ILcom/example/feedergen/feedergen/core/StreetLink;D)V" } : Jvm.MethodName)) a0 Z = true := hw _ (List.mem_of_getElem? (i := 5) rfl)
theorem w_21 {a0 : Array Value} {Z : State} (hw : ∀ d ∈ tables_1, d.before a0 Z = true) : Jvm.Cond.before (Jvm.Cond.classLink "com/example/feedergen/feedergen/core/DrivenLineLengthForwardPinLaw" (13 : Nat) "java/util/ArrayList") a0 Z = true := hw _ (List.mem_of_getElem? (i := 21) rfl)
theorem w_22 {a0 : Array Value} {Z : State} (hw : ∀ d ∈ tables_1, d.before a0 Z = true) : Jvm.Cond.before (Jvm.Cond.instantiable "java/util/ArrayList" (3 : Nat)) a0 Z = true := hw _ (List.mem_of_getElem? (i := 22) rfl)
theorem w_23 {a0 : Array Value} {Z : State} (hw : ∀ d ∈ tables_1, d.before a0 Z = true) : Jvm.Cond.before (Jvm.Cond.initialized "java/util/ArrayList") a0 Z = true := hw _ (List.mem_of_getElem? (i := 23) rfl)
theorem w_41 {a0 : Array Value} {Z : State} (hw : ∀ d ∈ tables_1, d.before a0 Z = true) : Jvm.Cond.before (Jvm.Cond.lays "java/util/ArrayList" "java/util/AbstractList" "modCount" "I") a0 Z = true := hw _ (List.mem_of_getElem? (i := 41) rfl)
theorem w_44 {a0 : Array Value} {Z : State} (hw : ∀ d ∈ tables_1, d.before a0 Z = true) : Jvm.Cond.before (Jvm.Cond.lays "java/util/ArrayList" "java/util/ArrayList" "elementData" "[Ljava/lang/Object;") a0 Z = true := hw _ (List.mem_of_getElem? (i := 44) rfl)
theorem w_53 {a0 : Array Value} {Z : State} (hw : ∀ d ∈ tables_1, d.before a0 Z = true) : Jvm.Cond.before (Jvm.Cond.lays "java/util/ArrayList" "java/util/ArrayList" "size" "I") a0 Z = true := hw _ (List.mem_of_getElem? (i := 53) rfl)
theorem d4_0 : decode jdk_38_method_2_code 0 = .ok (.aload_n 0, 1) := by decide +kernel
theorem d4_1 : decode jdk_38_method_2_code 1 = .ok (.invokespecial 1, 3) := by decide +kernel
theorem d5_0 : decode jdk_39_method_1_code 0 = .ok (.aload_n 0, 1) := by decide +kernel
theorem d5_1 : decode jdk_39_method_1_code 1 = .ok (.invokespecial 1, 3) := by decide +kernel
theorem d6_0 : decode jdk_22_method_1_code 0 = .ok (.aload_n 0, 1) := by decide +kernel
theorem d6_1 : decode jdk_22_method_1_code 1 = .ok (.invokespecial 1, 3) := by decide +kernel
theorem w_39 {a0 : Array Value} {Z : State} (hw : ∀ d ∈ tables_1, d.before a0 Z = true) : Jvm.Cond.before (Jvm.Cond.methodLink "java/util/AbstractCollection" (1 : Nat) ({ cls := "java/lang/Object", name := "<init>", desc := "()V" } : Jvm.MethodName)) a0 Z = true := hw _ (List.mem_of_getElem? (i := 39) rfl)
theorem d6_4 : decode jdk_22_method_1_code 4 = .ok (.return_, 1) := by decide +kernel
abbrev y_2 : MethodName := ⟨"java/util/AbstractCollection", "<init>", "()V"⟩
theorem pn_2 : plainName "java/util/AbstractCollection" = true := by first | (simp [plainName, overriddenIn]; done) | decide +kernel
-- java/util/AbstractCollection.<init>()V
abbrev Rm3 : Room := { frames := 1, cells := 0, slots := 0, locals := 12 }
def Q3 (Z : State) (a1 : Addr) (h0 : Heap) (n0 : Nat) (v : Option Value) (h : Heap) (L : List Loc) : Prop := v = none ∧ Fr n0 L ∧ h = h0
theorem ef3 (a1 : Addr) (m : MethodId) : entryFrame m #[(.ref a1)] 1 = mkF m 0 #[.val (.ref a1)] [] := by first | (simp [entryFrame, mkF, argsToLocals, Value.category]; done) | rfl
theorem rm3 (l : Launch) (Z : State) (a0 : Array Value) (hw : ∀ d ∈ tables_1, d.before a0 Z = true) (ws : List Jvm.Cond) (a1 : Addr) (h0 : Heap) (n0 : Nat) (Z0 : n0 ≤ h0.size) :
    OwnMet l Z y_2 jdk_22_method_1_code 1 none ws Rm3 #[(.ref a1)] h0 (Q3 Z a1 h0 n0) := by
  refine own_body (plainFor_of_name pn_2) (ef3 a1) ?_
  intro p e s m below meth c s₁ hx hby hml hown hnm hret hZ X0 e0
  have N0 := Fr.nil n0
  obtain ⟨T2, X2, e2, st2⟩ := initO X0 hx hZ hown (w_39 hw) (w_13 hw) (w_14 hw) e0 (g := (mkF m 1 #[.val (.ref a1)] [(.ref a1)])) rfl (by rw [hml]; rfl) rfl (hb hby d6_1) (by decide) (W := 0) (by show 2 * 0 + _ ≤ _; exact Nat.le_of_eq rfl) (by decide)
  refine ⟨T2, _, _, _, none, X2, (fun _ => rfl), by decide, by decide, ?_, fun fs hr => ?_⟩
  · show Q3 Z a1 h0 n0 _ T2.heap _
    rw [e2]
    exact ⟨rfl, N0, rfl⟩
  · show Steps p.tables e below (s₁.setTop (mkF m 0 #[.val (.ref a1)] [])) _
    refine XS.aloadN X0.here hx rfl (hb hby d6_0) rfl rfl ?_
    refine st2 _ ?_
    exact X2.returnOut hx hret (hb hby d6_4) hr
theorem w_37 {a0 : Array Value} {Z : State} (hw : ∀ d ∈ tables_1, d.before a0 Z = true) : Jvm.Cond.before (Jvm.Cond.initialized "java/util/AbstractCollection") a0 Z = true := hw _ (List.mem_of_getElem? (i := 37) rfl)
theorem w_38 {a0 : Array Value} {Z : State} (hw : ∀ d ∈ tables_1, d.before a0 Z = true) : Jvm.Cond.before (Jvm.Cond.code ({ cls := "java/util/AbstractCollection", name := "<init>", desc := "()V" } : Jvm.MethodName) jdk_22_method_1_code (1 : Nat) (Option.none : Option Jvm.ClassFile.FieldType)) a0 Z = true := hw _ (List.mem_of_getElem? (i := 38) rfl)
theorem w_33 {a0 : Array Value} {Z : State} (hw : ∀ d ∈ tables_1, d.before a0 Z = true) : Jvm.Cond.before (Jvm.Cond.methodLink "java/util/AbstractList" (1 : Nat) ({ cls := "java/util/AbstractCollection", name := "<init>", desc := "()V" } : Jvm.MethodName)) a0 Z = true := hw _ (List.mem_of_getElem? (i := 33) rfl)
theorem w_34 {a0 : Array Value} {Z : State} (hw : ∀ d ∈ tables_1, d.before a0 Z = true) : Jvm.Cond.before (Jvm.Cond.instanceMethod ({ cls := "java/util/AbstractCollection", name := "<init>", desc := "()V" } : Jvm.MethodName)) a0 Z = true := hw _ (List.mem_of_getElem? (i := 34) rfl)
theorem d5_4 : decode jdk_39_method_1_code 4 = .ok (.aload_n 0, 1) := by decide +kernel
theorem d5_5 : decode jdk_39_method_1_code 5 = .ok (.iconst 0, 1) := by decide +kernel
theorem d5_6 : decode jdk_39_method_1_code 6 = .ok (.putfield 7, 3) := by decide +kernel
theorem w_40 {a0 : Array Value} {Z : State} (hw : ∀ d ∈ tables_1, d.before a0 Z = true) : Jvm.Cond.before (Jvm.Cond.fieldLink "java/util/AbstractList" (7 : Nat) "java/util/AbstractList" "modCount" "I") a0 Z = true := hw _ (List.mem_of_getElem? (i := 40) rfl)
theorem d5_9 : decode jdk_39_method_1_code 9 = .ok (.return_, 1) := by decide +kernel
abbrev y_3 : MethodName := ⟨"java/util/AbstractList", "<init>", "()V"⟩
theorem pn_3 : plainName "java/util/AbstractList" = true := by first | (simp [plainName, overriddenIn]; done) | decide +kernel
-- java/util/AbstractList.<init>()V
abbrev Rm4 : Room := { frames := 2, cells := 0, slots := 0, locals := 24 }
def Q4 (Z : State) (a1 : Addr) (h0 : Heap) (n0 : Nat) (v : Option Value) (h : Heap) (L : List Loc) : Prop := v = none ∧ Fr n0 L ∧ Keep h0 h [a1] ∧ Exa Z h a1 "java/util/ArrayList" ∧ Fld Z h a1 "java/util/AbstractList" "modCount" "I" (.int (0 : Int32)) ∧ Fld Z h a1 "java/util/ArrayList" "elementData" "[Ljava/lang/Object;" .null ∧ Fld Z h a1 "java/util/ArrayList" "size" "I" (.int (0 : Int32))
theorem ef4 (a1 : Addr) (m : MethodId) : entryFrame m #[(.ref a1)] 1 = mkF m 0 #[.val (.ref a1)] [] := by first | (simp [entryFrame, mkF, argsToLocals, Value.category]; done) | rfl
theorem rm4 (l : Launch) (Z : State) (a0 : Array Value) (hw : ∀ d ∈ tables_1, d.before a0 Z = true) (ws : List Jvm.Cond) (a1 : Addr) (h0 : Heap) (n0 : Nat) (Z0 : n0 ≤ h0.size) (F_modCount_a1 : Fld Z h0 a1 "java/util/AbstractList" "modCount" "I" (.int (0 : Int32))) (E_a1 : Exa Z h0 a1 "java/util/ArrayList") (g_a1 : n0 ≤ a1) (F_elementData_a1 : Fld Z h0 a1 "java/util/ArrayList" "elementData" "[Ljava/lang/Object;" .null) (F_size_a1 : Fld Z h0 a1 "java/util/ArrayList" "size" "I" (.int (0 : Int32))) :
    OwnMet l Z y_3 jdk_39_method_1_code 1 none ws Rm4 #[(.ref a1)] h0 (Q4 Z a1 h0 n0) := by
  refine own_body (plainFor_of_name pn_3) (ef4 a1) ?_
  intro p e s m below meth c s₁ hx hby hml hown hnm hret hZ X0 e0
  have N0 := Fr.nil n0
  obtain ⟨_, T2, L2, X2, hQ2, st2⟩ := own_special X0 hx hZ hown (y := y_2) (a := a1) (w_33 hw) (w_34 hw) (w_37 hw) (w_38 hw) (rm3 l Z a0 hw [] a1 h0 n0 Z0) e0 (Ls := #[.val (.ref a1)]) (by rw [hml]; rfl) (argsL := []) (rest := []) (lenOf pd_0 rfl) (hb hby d5_1) (W := 0)
  obtain ⟨rfl, Nq2, e2⟩ := hQ2
  have N2 := Fr.app N0 Nq2
  obtain ⟨T3, h3, X3, e3, W3, st3⟩ := putF X2 hx hZ hown (host := "") (Or.inl (w_40 hw)) Via.refl e2 F_modCount_a1 E_a1 (Or.inl (w_41 hw)) (w_22 hw) (ty := .int) (by decide) rfl rfl (g := (mkF m 6 #[.val (.ref a1)] [(.int (0 : Int32)), (.ref a1)])) rfl rfl (hb hby d5_6)
  have s0 := (Keep.of_wr W3).1
  have N3 := Fr.snoc X3 N2 g_a1
  have Fw3 : Fld Z h3 a1 "java/util/AbstractList" "modCount" "I" (.int (0 : Int32)) := F_modCount_a1.same W3
  have Ex4 := (E_a1.wr W3)
  have Fl5 := (F_elementData_a1.other W3 (Or.inr (slot_ne (Or.inl (w_44 hw)) (Or.inl (w_41 hw)) (by decide) (t := (.array (.object "java/lang/Object"))) (t' := .int) (by decide) (by decide))))
  have Fl6 := (F_size_a1.other W3 (Or.inr (slot_ne (Or.inl (w_53 hw)) (Or.inl (w_41 hw)) (by decide) (t := .int) (t' := .int) (by decide) (by decide))))
  have Kp0 : Keep h0 h3 [a1] := (Keep.refl h0 [a1]).wr W3 (Or.inl (List.mem_of_getElem? (i := 0) rfl))
  refine ⟨T3, _, _, _, none, X3, (fun _ => rfl), by decide, by decide, ?_, fun fs hr => ?_⟩
  · show Q4 Z a1 h0 n0 _ T3.heap _
    rw [e3]
    exact ⟨rfl, N3, Kp0, Ex4, Fw3, Fl5, Fl6⟩
  · show Steps p.tables e below (s₁.setTop (mkF m 0 #[.val (.ref a1)] [])) _
    refine XS.aloadN X0.here hx rfl (hb hby d5_0) rfl rfl ?_
    refine st2 _ ?_
    refine XS.aloadN X2.here hx rfl (hb hby d5_4) rfl rfl ?_
    refine XS.iconst X2.here hx rfl (hb hby d5_5) ?_
    refine st3 _ ?_
    exact X3.returnOut hx hret (hb hby d5_9) hr
theorem w_31 {a0 : Array Value} {Z : State} (hw : ∀ d ∈ tables_1, d.before a0 Z = true) : Jvm.Cond.before (Jvm.Cond.initialized "java/util/AbstractList") a0 Z = true := hw _ (List.mem_of_getElem? (i := 31) rfl)
theorem w_32 {a0 : Array Value} {Z : State} (hw : ∀ d ∈ tables_1, d.before a0 Z = true) : Jvm.Cond.before (Jvm.Cond.code ({ cls := "java/util/AbstractList", name := "<init>", desc := "()V" } : Jvm.MethodName) jdk_39_method_1_code (1 : Nat) (Option.none : Option Jvm.ClassFile.FieldType)) a0 Z = true := hw _ (List.mem_of_getElem? (i := 32) rfl)
theorem w_27 {a0 : Array Value} {Z : State} (hw : ∀ d ∈ tables_1, d.before a0 Z = true) : Jvm.Cond.before (Jvm.Cond.methodLink "java/util/ArrayList" (1 : Nat) ({ cls := "java/util/AbstractList", name := "<init>", desc := "()V" } : Jvm.MethodName)) a0 Z = true := hw _ (List.mem_of_getElem? (i := 27) rfl)
theorem w_28 {a0 : Array Value} {Z : State} (hw : ∀ d ∈ tables_1, d.before a0 Z = true) : Jvm.Cond.before (Jvm.Cond.instanceMethod ({ cls := "java/util/AbstractList", name := "<init>", desc := "()V" } : Jvm.MethodName)) a0 Z = true := hw _ (List.mem_of_getElem? (i := 28) rfl)
theorem d4_4 : decode jdk_38_method_2_code 4 = .ok (.aload_n 0, 1) := by decide +kernel
theorem d4_5 : decode jdk_38_method_2_code 5 = .ok (.getstatic 39, 3) := by decide +kernel
theorem w_42 {a0 : Array Value} {Z : State} (hw : ∀ d ∈ tables_1, d.before a0 Z = true) : Jvm.Cond.before (Jvm.Cond.fieldLink "java/util/ArrayList" (39 : Nat) "java/util/ArrayList" "DEFAULTCAPACITY_EMPTY_ELEMENTDATA" "[Ljava/lang/Object;") a0 Z = true := hw _ (List.mem_of_getElem? (i := 42) rfl)
theorem d4_8 : decode jdk_38_method_2_code 8 = .ok (.putfield 9, 3) := by decide +kernel
theorem w_43 {a0 : Array Value} {Z : State} (hw : ∀ d ∈ tables_1, d.before a0 Z = true) : Jvm.Cond.before (Jvm.Cond.fieldLink "java/util/ArrayList" (9 : Nat) "java/util/ArrayList" "elementData" "[Ljava/lang/Object;") a0 Z = true := hw _ (List.mem_of_getElem? (i := 43) rfl)
theorem d4_11 : decode jdk_38_method_2_code 11 = .ok (.return_, 1) := by decide +kernel
abbrev y_4 : MethodName := ⟨"java/util/ArrayList", "<init>", "()V"⟩
theorem pn_4 : plainName "java/util/ArrayList" = true := by first | (simp [plainName, overriddenIn]; done) | decide +kernel
-- java/util/ArrayList.<init>()V
abbrev Rm5 : Room := { frames := 3, cells := 0, slots := 0, locals := 36 }
def Q5 (Z : State) (a1 : Addr) (a3 : Addr) (h0 : Heap) (n0 : Nat) (v : Option Value) (h : Heap) (L : List Loc) : Prop := v = none ∧ Fr n0 L ∧ Keep h0 h [a1] ∧ Exa Z h a1 "java/util/ArrayList" ∧ Fld Z h a1 "java/util/AbstractList" "modCount" "I" (.int (0 : Int32)) ∧ Fld Z h a1 "java/util/ArrayList" "elementData" "[Ljava/lang/Object;" (.ref a3) ∧ Fld Z h a1 "java/util/ArrayList" "size" "I" (.int (0 : Int32))
theorem ef5 (a1 : Addr) (m : MethodId) : entryFrame m #[(.ref a1)] 1 = mkF m 0 #[.val (.ref a1)] [] := by first | (simp [entryFrame, mkF, argsToLocals, Value.category]; done) | rfl
theorem rm5 (l : Launch) (Z : State) (a0 : Array Value) (hw : ∀ d ∈ tables_1, d.before a0 Z = true) (ws : List Jvm.Cond) (a1 : Addr) (a3 : Addr) (h0 : Heap) (n0 : Nat) (Z0 : n0 ≤ h0.size) (F_modCount_a1 : Fld Z h0 a1 "java/util/AbstractList" "modCount" "I" (.int (0 : Int32))) (E_a1 : Exa Z h0 a1 "java/util/ArrayList") (g_a1 : n0 ≤ a1) (F_elementData_a1 : Fld Z h0 a1 "java/util/ArrayList" "elementData" "[Ljava/lang/Object;" .null) (F_size_a1 : Fld Z h0 a1 "java/util/ArrayList" "size" "I" (.int (0 : Int32))) (S_DEFAULTCAPACITY_EMPTY_ELEMENTDATA : Sta Z Z.heap "java/util/ArrayList" "DEFAULTCAPACITY_EMPTY_ELEMENTDATA" "[Ljava/lang/Object;" (.ref a3)) (Od0 : Old Z n0 h0) :
    OwnMet l Z y_4 jdk_38_method_2_code 1 none ws Rm5 #[(.ref a1)] h0 (Q5 Z a1 a3 h0 n0) := by
  refine own_body (plainFor_of_name pn_4) (ef5 a1) ?_
  intro p e s m below meth c s₁ hx hby hml hown hnm hret hZ X0 e0
  have N0 := Fr.nil n0
  obtain ⟨_, T2, L2, X2, hQ2, st2⟩ := own_special X0 hx hZ hown (y := y_3) (a := a1) (w_27 hw) (w_28 hw) (w_31 hw) (w_32 hw) (rm4 l Z a0 hw [] a1 h0 n0 Z0 F_modCount_a1 E_a1 g_a1 F_elementData_a1 F_size_a1) e0 (Ls := #[.val (.ref a1)]) (by rw [hml]; rfl) (argsL := []) (rest := []) (lenOf pd_0 rfl) (hb hby d4_1) (W := 0)
  obtain ⟨rfl, Nq2, K2, o2_0, o2_1, o2_2, o2_3⟩ := hQ2
  have N2 := Fr.app N0 Nq2
  have s0 := K2.1
  have Od1 : Old Z n0 T2.heap := Od0.keep K2 (allS g_a1 all0)
  obtain ⟨T4, X4, e4, st4⟩ := getS2 X2 hx hZ hown (host := "") (Or.inl (w_42 hw)) Via.refl rfl (S_DEFAULTCAPACITY_EMPTY_ELEMENTDATA.ext Od1.2) (g := (mkF m 5 #[.val (.ref a1)] [(.ref a1)])) rfl (hb hby d4_5)
  obtain ⟨T5, h5, X5, e5, W5, st5⟩ := putF X4 hx hZ hown (host := "") (Or.inl (w_43 hw)) Via.refl e4 o2_2 o2_0 (Or.inl (w_44 hw)) (w_22 hw) (ty := (.array (.object "java/lang/Object"))) (by decide) rfl rfl (g := (mkF m 8 #[.val (.ref a1)] [(.ref a3), (.ref a1)])) rfl rfl (hb hby d4_8)
  have s1 := (Keep.of_wr W5).1
  have N5 := Fr.snoc X5 N2 g_a1
  have Fw5 : Fld Z h5 a1 "java/util/ArrayList" "elementData" "[Ljava/lang/Object;" (.ref a3) := o2_2.same W5
  have Ex6 := (o2_0.wr W5)
  have Fl7 := (o2_1.other W5 (Or.inr (slot_ne (Or.inl (w_41 hw)) (Or.inl (w_44 hw)) (by decide) (t := .int) (t' := (.array (.object "java/lang/Object"))) (by decide) (by decide))))
  have Fl8 := (o2_3.other W5 (Or.inr (slot_ne (Or.inl (w_53 hw)) (Or.inl (w_44 hw)) (by decide) (t := .int) (t' := (.array (.object "java/lang/Object"))) (by decide) (by decide))))
  have Kp0 : Keep h0 T2.heap [a1] := (Keep.refl h0 [a1]).trans K2 (allS (Or.inl (List.mem_of_getElem? (i := 0) rfl)) all0)
  have Kp1 : Keep h0 h5 [a1] := Kp0.wr W5 (Or.inl (List.mem_of_getElem? (i := 0) rfl))
  refine ⟨T5, _, _, _, none, X5, (fun _ => rfl), by decide, by decide, ?_, fun fs hr => ?_⟩
  · show Q5 Z a1 a3 h0 n0 _ T5.heap _
    rw [e5]
    exact ⟨rfl, N5, Kp1, Ex6, Fl7, Fw5, Fl8⟩
  · show Steps p.tables e below (s₁.setTop (mkF m 0 #[.val (.ref a1)] [])) _
    refine XS.aloadN X0.here hx rfl (hb hby d4_0) rfl rfl ?_
    refine st2 _ ?_
    refine XS.aloadN X2.here hx rfl (hb hby d4_4) rfl rfl ?_
    refine st4 _ ?_
    refine st5 _ ?_
    exact X5.returnOut hx hret (hb hby d4_11) hr
theorem w_26 {a0 : Array Value} {Z : State} (hw : ∀ d ∈ tables_1, d.before a0 Z = true) : Jvm.Cond.before (Jvm.Cond.code ({ cls := "java/util/ArrayList", name := "<init>", desc := "()V" } : Jvm.MethodName) jdk_38_method_2_code (1 : Nat) (Option.none : Option Jvm.ClassFile.FieldType)) a0 Z = true := hw _ (List.mem_of_getElem? (i := 26) rfl)
theorem w_24 {a0 : Array Value} {Z : State} (hw : ∀ d ∈ tables_1, d.before a0 Z = true) : Jvm.Cond.before (Jvm.Cond.methodLink "com/example/feedergen/feedergen/core/DrivenLineLengthForwardPinLaw" (15 : Nat) ({ cls := "java/util/ArrayList", name := "<init>", desc := "()V" } : Jvm.MethodName)) a0 Z = true := hw _ (List.mem_of_getElem? (i := 24) rfl)
theorem w_25 {a0 : Array Value} {Z : State} (hw : ∀ d ∈ tables_1, d.before a0 Z = true) : Jvm.Cond.before (Jvm.Cond.instanceMethod ({ cls := "java/util/ArrayList", name := "<init>", desc := "()V" } : Jvm.MethodName)) a0 Z = true := hw _ (List.mem_of_getElem? (i := 25) rfl)
theorem d7_0 : decode jdk_38_method_25_code 0 = .ok (.aload_n 0, 1) := by decide +kernel
theorem d7_1 : decode jdk_38_method_25_code 1 = .ok (.dup, 1) := by decide +kernel
theorem d7_2 : decode jdk_38_method_25_code 2 = .ok (.getfield 63, 3) := by decide +kernel
theorem w_51 {a0 : Array Value} {Z : State} (hw : ∀ d ∈ tables_1, d.before a0 Z = true) : Jvm.Cond.before (Jvm.Cond.sameField "java/util/ArrayList" "java/util/AbstractList" "modCount" "I") a0 Z = true := hw _ (List.mem_of_getElem? (i := 51) rfl)
theorem w_50 {a0 : Array Value} {Z : State} (hw : ∀ d ∈ tables_1, d.before a0 Z = true) : Jvm.Cond.before (Jvm.Cond.fieldLink "java/util/ArrayList" (63 : Nat) "java/util/ArrayList" "modCount" "I") a0 Z = true := hw _ (List.mem_of_getElem? (i := 50) rfl)
theorem d7_5 : decode jdk_38_method_25_code 5 = .ok (.iconst 1, 1) := by decide +kernel
theorem d7_6 : decode jdk_38_method_25_code 6 = .ok (.iadd, 1) := by decide +kernel
theorem d7_7 : decode jdk_38_method_25_code 7 = .ok (.putfield 63, 3) := by decide +kernel
theorem d7_10 : decode jdk_38_method_25_code 10 = .ok (.aload_n 0, 1) := by decide +kernel
theorem d7_11 : decode jdk_38_method_25_code 11 = .ok (.aload_n 1, 1) := by decide +kernel
theorem d7_12 : decode jdk_38_method_25_code 12 = .ok (.aload_n 0, 1) := by decide +kernel
theorem d7_13 : decode jdk_38_method_25_code 13 = .ok (.getfield 9, 3) := by decide +kernel
theorem d7_16 : decode jdk_38_method_25_code 16 = .ok (.aload_n 0, 1) := by decide +kernel
theorem d7_17 : decode jdk_38_method_25_code 17 = .ok (.getfield 48, 3) := by decide +kernel
theorem w_52 {a0 : Array Value} {Z : State} (hw : ∀ d ∈ tables_1, d.before a0 Z = true) : Jvm.Cond.before (Jvm.Cond.fieldLink "java/util/ArrayList" (48 : Nat) "java/util/ArrayList" "size" "I") a0 Z = true := hw _ (List.mem_of_getElem? (i := 52) rfl)
theorem d7_20 : decode jdk_38_method_25_code 20 = .ok (.invokevirtual 131, 3) := by decide +kernel
theorem d8_0 : decode jdk_38_method_24_code 0 = .ok (.iload_n 3, 1) := by decide +kernel
theorem d8_1 : decode jdk_38_method_24_code 1 = .ok (.aload_n 2, 1) := by decide +kernel
theorem d8_2 : decode jdk_38_method_24_code 2 = .ok (.arraylength, 1) := by decide +kernel
theorem d8_3 : decode jdk_38_method_24_code 3 = .ok (.if_icmp .ne 8, 3) := by decide +kernel
theorem d8_6 : decode jdk_38_method_24_code 6 = .ok (.aload_n 0, 1) := by decide +kernel
theorem d8_7 : decode jdk_38_method_24_code 7 = .ok (.invokevirtual 129, 3) := by decide +kernel
theorem d9_0 : decode jdk_38_method_7_code 0 = .ok (.aload_n 0, 1) := by decide +kernel
theorem d9_1 : decode jdk_38_method_7_code 1 = .ok (.aload_n 0, 1) := by decide +kernel
theorem d9_2 : decode jdk_38_method_7_code 2 = .ok (.getfield 48, 3) := by decide +kernel
theorem d9_5 : decode jdk_38_method_7_code 5 = .ok (.iconst 1, 1) := by decide +kernel
theorem d9_6 : decode jdk_38_method_7_code 6 = .ok (.iadd, 1) := by decide +kernel
theorem d9_7 : decode jdk_38_method_7_code 7 = .ok (.invokevirtual 69, 3) := by decide +kernel
theorem d10_0 : decode jdk_38_method_6_code 0 = .ok (.aload_n 0, 1) := by decide +kernel
theorem d10_1 : decode jdk_38_method_6_code 1 = .ok (.getfield 9, 3) := by decide +kernel
theorem d10_4 : decode jdk_38_method_6_code 4 = .ok (.arraylength, 1) := by decide +kernel
theorem d10_5 : decode jdk_38_method_6_code 5 = .ok (.istore_n 2, 1) := by decide +kernel
theorem d10_6 : decode jdk_38_method_6_code 6 = .ok (.iload_n 2, 1) := by decide +kernel
theorem d10_7 : decode jdk_38_method_6_code 7 = .ok (.ifCond .gt 13, 3) := by decide +kernel
theorem d10_10 : decode jdk_38_method_6_code 10 = .ok (.aload_n 0, 1) := by decide +kernel
theorem d10_11 : decode jdk_38_method_6_code 11 = .ok (.getfield 9, 3) := by decide +kernel
theorem d10_14 : decode jdk_38_method_6_code 14 = .ok (.getstatic 39, 3) := by decide +kernel
theorem d10_17 : decode jdk_38_method_6_code 17 = .ok (.if_acmp .eq 28, 3) := by decide +kernel
theorem d10_45 : decode jdk_38_method_6_code 45 = .ok (.aload_n 0, 1) := by decide +kernel
theorem d10_46 : decode jdk_38_method_6_code 46 = .ok (.bipush 10, 2) := by decide +kernel
theorem d10_48 : decode jdk_38_method_6_code 48 = .ok (.iload_n 1, 1) := by decide +kernel
theorem d10_49 : decode jdk_38_method_6_code 49 = .ok (.invokestatic 79, 3) := by decide +kernel
theorem d11_0 : decode jdk_29_method_65_code 0 = .ok (.iload_n 0, 1) := by decide +kernel
theorem d11_1 : decode jdk_29_method_65_code 1 = .ok (.iload_n 1, 1) := by decide +kernel
theorem d11_2 : decode jdk_29_method_65_code 2 = .ok (.if_icmp .lt 7, 3) := by decide +kernel
theorem d11_5 : decode jdk_29_method_65_code 5 = .ok (.iload_n 0, 1) := by decide +kernel
theorem d11_6 : decode jdk_29_method_65_code 6 = .ok (.goto 4, 3) := by decide +kernel
theorem d11_10 : decode jdk_29_method_65_code 10 = .ok (.ireturn, 1) := by decide +kernel
abbrev y_5 : MethodName := ⟨"java/lang/Math", "max", "(II)I"⟩
-- java/lang/Math.max(II)I
abbrev Rm6 : Room := { frames := 0, cells := 0, slots := 0, locals := 0 }
def Q6 (Z : State)  (h0 : Heap) (n0 : Nat) (v : Option Value) (h : Heap) (L : List Loc) : Prop := v = some (.int (10 : Int32)) ∧ Fr n0 L ∧ h = h0
theorem ef6  (m : MethodId) : entryFrame m #[(.int (10 : Int32)), (.int (1 : Int32))] 2 = mkF m 0 #[.val (.int (10 : Int32)), .val (.int (1 : Int32))] [] := by first | (simp [entryFrame, mkF, argsToLocals, Value.category]; done) | rfl
theorem rm6 (l : Launch) (Z : State) (a0 : Array Value) (hw : ∀ d ∈ tables_1, d.before a0 Z = true) (ws : List Jvm.Cond)  (h0 : Heap) (n0 : Nat) (Z0 : n0 ≤ h0.size) :
    OwnMet l Z y_5 jdk_29_method_65_code 2 (some .int) ws Rm6 #[(.int (10 : Int32)), (.int (1 : Int32))] h0 (Q6 Z  h0 n0) := by
  refine own_body (Jvm.Free.JP.mathPlain rfl (by decide +kernel)) (ef6) ?_
  intro p e s m below meth c s₁ hx hby hml hown hnm hret hZ X0 e0
  have N0 := Fr.nil n0
  refine ⟨s₁, _, _, _, (some (.int (10 : Int32))), X0, nofun, by decide, by decide, ?_, fun fs hr => ?_⟩
  · show Q6 Z  h0 n0 _ s₁.heap _
    rw [e0]
    exact ⟨rfl, N0, rfl⟩
  · show Steps p.tables e below (s₁.setTop (mkF m 0 #[.val (.int (10 : Int32)), .val (.int (1 : Int32))] [])) _
    refine XS.iloadN X0.here hx rfl (hb hby d11_0) rfl ?_
    refine XS.iloadN X0.here hx rfl (hb hby d11_1) rfl ?_
    refine XS.icmpNo X0.here hx rfl (hb hby d11_2) rfl (flt ((by decide : ¬ ((10 : Int32) < (1 : Int32))) : ¬ ((10 : Int32) < (1 : Int32)))).1 ?_
    refine XS.iloadN X0.here hx rfl (hb hby d11_5) rfl ?_
    refine XS.goto X0.here hx rfl (pc0 := 6) (pc' := 10) rfl (hb hby d11_6) (by decide) (by decide) ?_
    exact retI X0 hx hret (hb hby d11_10) hr
theorem pd_2 : parseMethodDescriptor "(II)I" = some ⟨[.int, .int], some .int⟩ := by decide +kernel
theorem w_71 {a0 : Array Value} {Z : State} (hw : ∀ d ∈ tables_1, d.before a0 Z = true) : Jvm.Cond.before (Jvm.Cond.initialized "java/lang/Math") a0 Z = true := hw _ (List.mem_of_getElem? (i := 71) rfl)
theorem w_72 {a0 : Array Value} {Z : State} (hw : ∀ d ∈ tables_1, d.before a0 Z = true) : Jvm.Cond.before (Jvm.Cond.code ({ cls := "java/lang/Math", name := "max", desc := "(II)I" } : Jvm.MethodName) jdk_29_method_65_code (2 : Nat) (Option.some Jvm.ClassFile.FieldType.int)) a0 Z = true := hw _ (List.mem_of_getElem? (i := 72) rfl)
theorem w_69 {a0 : Array Value} {Z : State} (hw : ∀ d ∈ tables_1, d.before a0 Z = true) : Jvm.Cond.before (Jvm.Cond.methodLink "java/util/ArrayList" (79 : Nat) ({ cls := "java/lang/Math", name := "max", desc := "(II)I" } : Jvm.MethodName)) a0 Z = true := hw _ (List.mem_of_getElem? (i := 69) rfl)
theorem w_70 {a0 : Array Value} {Z : State} (hw : ∀ d ∈ tables_1, d.before a0 Z = true) : Jvm.Cond.before (Jvm.Cond.static ({ cls := "java/lang/Math", name := "max", desc := "(II)I" } : Jvm.MethodName)) a0 Z = true := hw _ (List.mem_of_getElem? (i := 70) rfl)
theorem d10_52 : decode jdk_38_method_6_code 52 = .ok (.anewarray 7, 3) := by decide +kernel
theorem w_74 {a0 : Array Value} {Z : State} (hw : ∀ d ∈ tables_1, d.before a0 Z = true) : Jvm.Cond.before (Jvm.Cond.arrayOver (Jvm.ClassFile.FieldType.object "java/lang/Object")) a0 Z = true := hw _ (List.mem_of_getElem? (i := 74) rfl)
theorem w_73 {a0 : Array Value} {Z : State} (hw : ∀ d ∈ tables_1, d.before a0 Z = true) : Jvm.Cond.before (Jvm.Cond.classLink "java/util/ArrayList" (7 : Nat) "java/lang/Object") a0 Z = true := hw _ (List.mem_of_getElem? (i := 73) rfl)
theorem d10_55 : decode jdk_38_method_6_code 55 = .ok (.dup_x1, 1) := by decide +kernel
theorem d10_56 : decode jdk_38_method_6_code 56 = .ok (.putfield 9, 3) := by decide +kernel
theorem d10_59 : decode jdk_38_method_6_code 59 = .ok (.areturn, 1) := by decide +kernel
abbrev y_6 : MethodName := ⟨"java/util/ArrayList", "grow", "(I)[Ljava/lang/Object;"⟩
-- java/util/ArrayList.grow(I)[Ljava/lang/Object;
abbrev Rm7 : Room := { frames := 1, cells := 1, slots := 10, locals := 14 }
def Q7 (Z : State) (a1 : Addr) (a2 : Addr) (k4 : ClassId) (h0 : Heap) (n0 : Nat) (v : Option Value) (h : Heap) (L : List Loc) : Prop := ∃ b9 : Addr, ∃ k9 : ClassId, v = some (.ref b9) ∧ Fr n0 L ∧ Keep h0 h [a1] ∧ Exa Z h a1 "java/util/ArrayList" ∧ Fld Z h a1 "java/util/AbstractList" "modCount" "I" (.int (1 : Int32)) ∧ Fld Z h a1 "java/util/ArrayList" "elementData" "[Ljava/lang/Object;" (.ref b9) ∧ Fld Z h a1 "java/util/ArrayList" "size" "I" (.int (0 : Int32)) ∧ h0.size ≤ b9 ∧ Exa Z h b9 "[Ljava/lang/Object;" ∧ Ovr Z k9 "java/lang/Object" ∧ Arv Z h b9 k9 (.object "java/lang/Object") (10 : Int32) [.null, .null, .null, .null, .null, .null, .null, .null, .null, .null] .null
theorem ef7 (a1 : Addr) (m : MethodId) : entryFrame m #[(.ref a1), (.int (1 : Int32))] 4 = mkF m 0 #[.val (.ref a1), .val (.int (1 : Int32)), .unset, .unset] [] := by first | (simp [entryFrame, mkF, argsToLocals, Value.category]; done) | rfl
theorem rm7 (l : Launch) (Z : State) (a0 : Array Value) (hw : ∀ d ∈ tables_1, d.before a0 Z = true) (ws : List Jvm.Cond) (a1 : Addr) (a2 : Addr) (k4 : ClassId) (h0 : Heap) (n0 : Nat) (Z0 : n0 ≤ h0.size) (F_elementData_a1 : Fld Z h0 a1 "java/util/ArrayList" "elementData" "[Ljava/lang/Object;" (.ref a2)) (V_a2 : Arv Z h0 a2 k4 (.object "java/lang/Object") (0 : Int32) [] .null) (S_DEFAULTCAPACITY_EMPTY_ELEMENTDATA : Sta Z Z.heap "java/util/ArrayList" "DEFAULTCAPACITY_EMPTY_ELEMENTDATA" "[Ljava/lang/Object;" (.ref a2)) (Od0 : Old Z n0 h0) (E_a1 : Exa Z h0 a1 "java/util/ArrayList") (g_a1 : n0 ≤ a1) (F_modCount_a1 : Fld Z h0 a1 "java/util/AbstractList" "modCount" "I" (.int (1 : Int32))) (F_size_a1 : Fld Z h0 a1 "java/util/ArrayList" "size" "I" (.int (0 : Int32))) :
    OwnMet l Z y_6 jdk_38_method_6_code 4 (some (.array (.object "java/lang/Object"))) ws Rm7 #[(.ref a1), (.int (1 : Int32))] h0 (Q7 Z a1 a2 k4 h0 n0) := by
  refine own_body (plainFor_of_name pn_4) (ef7 a1) ?_
  intro p e s m below meth c s₁ hx hby hml hown hnm hret hZ X0 e0
  have N0 := Fr.nil n0
  obtain ⟨T3, X3, e3, st3⟩ := getF X0 hx hZ hown (host := "") (Or.inl (w_43 hw)) Via.refl e0 F_elementData_a1 (g := (mkF m 1 #[.val (.ref a1), .val (.int (1 : Int32)), .unset, .unset] [(.ref a1)])) rfl rfl (hb hby d10_1)
  obtain ⟨cl5, Ar5, q5, S5, M5, Hs5, G5⟩ := id V_a2
  obtain ⟨T6, X6, e6, st6⟩ := getF X3 hx hZ hown (host := "") (Or.inl (w_43 hw)) Via.refl e3 F_elementData_a1 (g := (mkF m 11 #[.val (.ref a1), .val (.int (1 : Int32)), .val (.int (0 : Int32)), .unset] [(.ref a1)])) rfl rfl (hb hby d10_11)
  obtain ⟨T7, X7, e7, st7⟩ := getS2 X6 hx hZ hown (host := "") (Or.inl (w_42 hw)) Via.refl e6 (S_DEFAULTCAPACITY_EMPTY_ELEMENTDATA.ext Od0.2) (g := (mkF m 14 #[.val (.ref a1), .val (.int (1 : Int32)), .val (.int (0 : Int32)), .unset] [(.ref a2)])) rfl (hb hby d10_14)
  obtain ⟨_, T8, L8, X8, hQ8, st8⟩ := own_callS X7 hx hZ hown (y := y_5) (w_69 hw) (w_70 hw) (w_71 hw) (w_72 hw) (rm6 l Z a0 hw []  h0 n0 Z0) e7 (Ls := #[.val (.ref a1), .val (.int (1 : Int32)), .val (.int (0 : Int32)), .unset]) (by rw [hml]; rfl) (argsL := [(.int (10 : Int32)), (.int (1 : Int32))]) (rest := [(.ref a1)]) (lenOf pd_2 rfl) (hb hby d10_49) (W := 1)
  obtain ⟨rfl, Nq8, e8⟩ := hQ8
  have N8 := Fr.app N0 Nq8
  obtain ⟨T9, h9, k9, X9, e9, E9, A9, B9, O9, st9⟩ := newRE X8 hx hZ hown (w_73 hw) (w_74 hw) e8 (g := (mkF m 52 #[.val (.ref a1), .val (.int (1 : Int32)), .val (.int (0 : Int32)), .unset] [(.int (10 : Int32)), (.ref a1)])) rfl (hb hby d10_52) rfl (by decide) (cap := 10) (by decide) (by decide) (by decide) (by decide) (ad := "[Ljava/lang/Object;") (by decide)
  obtain ⟨b9, g9⟩ : ∃ z, z = h0.size := ⟨_, rfl⟩
  rw [← g9] at A9 B9 st9
  have s0 := E9.1
  have Vn9 : Arv Z h9 b9 k9 (.object "java/lang/Object") (10 : Int32) [.null, .null, .null, .null, .null, .null, .null, .null, .null, .null] .null := (Arv.new A9 (by decide)).pad (pad_rep [] .null 10)
  have Fl10 := (F_elementData_a1.ext E9)
  have Ex11 := (E_a1.ext E9)
  obtain ⟨T12, h12, X12, e12, W12, st12⟩ := putF X9 hx hZ hown (host := "") (Or.inl (w_43 hw)) Via.refl e9 Fl10 Ex11 (Or.inl (w_44 hw)) (w_22 hw) (ty := (.array (.object "java/lang/Object"))) (by decide) rfl rfl (g := (mkF m 56 #[.val (.ref a1), .val (.int (1 : Int32)), .val (.int (0 : Int32)), .unset] [(.ref b9), (.ref a1), (.ref b9)])) rfl rfl (hb hby d10_56)
  have s1 := (Keep.of_wr W12).1
  have N12 := Fr.snoc X12 N8 g_a1
  have Fw12 : Fld Z h12 a1 "java/util/ArrayList" "elementData" "[Ljava/lang/Object;" (.ref b9) := Fl10.same W12
  have Ex13 := (Ex11.wr W12)
  have Fl14 := ((F_modCount_a1.ext E9).other W12 (Or.inr (slot_ne (Or.inl (w_41 hw)) (Or.inl (w_44 hw)) (by decide) (t := .int) (t' := (.array (.object "java/lang/Object"))) (by decide) (by decide))))
  have Fl15 := ((F_size_a1.ext E9).other W12 (Or.inr (slot_ne (Or.inl (w_53 hw)) (Or.inl (w_44 hw)) (by decide) (t := .int) (t' := (.array (.object "java/lang/Object"))) (by decide) (by decide))))
  have sz_b9 : h0.size ≤ b9 := (Nat.le_of_eq g9.symm)
  have Ex16 := (B9.wr W12)
  have ne_a1_b9 := Nat.ne_of_lt (Nat.lt_of_lt_of_le F_size_a1.lt (Nat.le_of_eq g9.symm))
  have Va17 := (Vn9.other W12 (Ne.symm ne_a1_b9))
  have Kp0 : Keep h0 h9 [a1] := (Keep.refl h0 [a1]).ext E9
  have Kp1 : Keep h0 h12 [a1] := Kp0.wr W12 (Or.inl (List.mem_of_getElem? (i := 0) rfl))
  refine ⟨T12, _, _, _, (some (.ref b9)), X12, nofun, by decide, by decide, ?_, fun fs hr => ?_⟩
  · show Q7 Z a1 a2 k4 h0 n0 _ T12.heap _
    rw [e12]
    exact ⟨b9, k9, rfl, N12, Kp1, Ex13, Fl14, Fw12, Fl15, sz_b9, Ex16, O9, Va17⟩
  · show Steps p.tables e below (s₁.setTop (mkF m 0 #[.val (.ref a1), .val (.int (1 : Int32)), .unset, .unset] [])) _
    refine XS.aloadN X0.here hx rfl (hb hby d10_0) rfl rfl ?_
    refine st3 _ ?_
    refine X3.arraylength hx (by rw [e3]; exact Ar5.1) (State.isArrayOf_alike hZ.alike Ar5.2.1) (g := (mkF m 4 #[.val (.ref a1), .val (.int (1 : Int32)), .unset, .unset] [(.ref a2)])) rfl rfl (hb hby d10_4) _ ?_
    show Steps p.tables e below (T3.setTop (mkF m 5 #[.val (.ref a1), .val (.int (1 : Int32)), .unset, .unset] [(.int cl5.slots.size.toInt32)])) _
    rw [len_of S5 M5]
    refine XS.istoreN X3.here hx rfl (hb hby d10_5) rfl (l' := #[.val (.ref a1), .val (.int (1 : Int32)), .val (.int (0 : Int32)), .unset]) rfl ?_
    refine XS.iloadN X3.here hx rfl (hb hby d10_6) rfl ?_
    refine XS.ifNo X3.here hx rfl (hb hby d10_7) rfl ((if0 _ _).trans (flt ((by decide : ¬ ((0 : Int32) < (0 : Int32))) : ¬ ((0 : Int32) < (0 : Int32)))).2.2.1) ?_
    refine XS.aloadN X3.here hx rfl (hb hby d10_10) rfl rfl ?_
    refine st6 _ ?_
    refine st7 _ ?_
    refine Jvm.RoadKit.acmp (g := (mkF m 17 #[.val (.ref a1), .val (.int (1 : Int32)), .val (.int (0 : Int32)), .unset] [(.ref a2), (.ref a2)])) X7 hx rfl rfl rfl (pc0 := 17) (pc' := 45) (same := true) rfl (hb hby d10_17) rfl (decide_eq_true rfl) (by decide) (by decide) ?_
    refine XS.aloadN X7.here hx rfl (hb hby d10_45) rfl rfl ?_
    refine XS.bipush X7.here hx rfl (hb hby d10_46) ?_
    refine XS.iloadN X7.here hx rfl (hb hby d10_48) rfl ?_
    refine st8 _ ?_
    show Steps p.tables e below (T8.setTop (mkF m 52 #[.val (.ref a1), .val (.int (1 : Int32)), .val (.int (0 : Int32)), .unset] [(.int (10 : Int32)), (.ref a1)])) _
    refine st9 _ ?_
    refine XS.dupX1 X9.here hx rfl (hb hby d10_55) rfl rfl rfl ?_
    refine st12 _ ?_
    exact retOut X12 hx hret rfl (Or.inr (Or.inr (Or.inr (Or.inr ⟨rfl, rfl, rfl⟩)))) (hb hby d10_59) hr
theorem pd_3 : parseMethodDescriptor "(I)[Ljava/lang/Object;" = some ⟨[.int], some (.array (.object "java/lang/Object"))⟩ := by decide +kernel
theorem w_68 {a0 : Array Value} {Z : State} (hw : ∀ d ∈ tables_1, d.before a0 Z = true) : Jvm.Cond.before (Jvm.Cond.code ({ cls := "java/util/ArrayList", name := "grow", desc := "(I)[Ljava/lang/Object;" } : Jvm.MethodName) jdk_38_method_6_code (4 : Nat) (Option.some (Jvm.ClassFile.FieldType.array (Jvm.ClassFile.FieldType.object "java/lang/Object")))) a0 Z = true := hw _ (List.mem_of_getElem? (i := 68) rfl)
theorem w_64 {a0 : Array Value} {Z : State} (hw : ∀ d ∈ tables_1, d.before a0 Z = true) : Jvm.Cond.before (Jvm.Cond.methodLink "java/util/ArrayList" (69 : Nat) ({ cls := "java/util/ArrayList", name := "grow", desc := "(I)[Ljava/lang/Object;" } : Jvm.MethodName)) a0 Z = true := hw _ (List.mem_of_getElem? (i := 64) rfl)
theorem w_65 {a0 : Array Value} {Z : State} (hw : ∀ d ∈ tables_1, d.before a0 Z = true) : Jvm.Cond.before (Jvm.Cond.instanceMethod ({ cls := "java/util/ArrayList", name := "grow", desc := "(I)[Ljava/lang/Object;" } : Jvm.MethodName)) a0 Z = true := hw _ (List.mem_of_getElem? (i := 65) rfl)
theorem w_67 {a0 : Array Value} {Z : State} (hw : ∀ d ∈ tables_1, d.before a0 Z = true) : Jvm.Cond.before (Jvm.Cond.selects "java/util/ArrayList" ({ cls := "java/util/ArrayList", name := "grow", desc := "(I)[Ljava/lang/Object;" } : Jvm.MethodName) ({ cls := "java/util/ArrayList", name := "grow", desc := "(I)[Ljava/lang/Object;" } : Jvm.MethodName)) a0 Z = true := hw _ (List.mem_of_getElem? (i := 67) rfl)
theorem w_66 {a0 : Array Value} {Z : State} (hw : ∀ d ∈ tables_1, d.before a0 Z = true) : Jvm.Cond.before (Jvm.Cond.privateMethod ({ cls := "java/util/ArrayList", name := "grow", desc := "(I)[Ljava/lang/Object;" } : Jvm.MethodName)) a0 Z = true := hw _ (List.mem_of_getElem? (i := 66) rfl)
theorem d9_10 : decode jdk_38_method_7_code 10 = .ok (.areturn, 1) := by decide +kernel
abbrev y_7 : MethodName := ⟨"java/util/ArrayList", "grow", "()[Ljava/lang/Object;"⟩
-- java/util/ArrayList.grow()[Ljava/lang/Object;
abbrev Rm8 : Room := { frames := 2, cells := 1, slots := 10, locals := 29 }
def Q8 (Z : State) (a1 : Addr) (a3 : Addr) (k4 : ClassId) (h0 : Heap) (n0 : Nat) (v : Option Value) (h : Heap) (L : List Loc) : Prop := ∃ b5_b9 : Addr, ∃ k5_k9 : ClassId, v = some (.ref b5_b9) ∧ Fr n0 L ∧ Keep h0 h [a1] ∧ Exa Z h a1 "java/util/ArrayList" ∧ Fld Z h a1 "java/util/AbstractList" "modCount" "I" (.int (1 : Int32)) ∧ Fld Z h a1 "java/util/ArrayList" "elementData" "[Ljava/lang/Object;" (.ref b5_b9) ∧ Fld Z h a1 "java/util/ArrayList" "size" "I" (.int (0 : Int32)) ∧ h0.size ≤ b5_b9 ∧ Exa Z h b5_b9 "[Ljava/lang/Object;" ∧ Ovr Z k5_k9 "java/lang/Object" ∧ Arv Z h b5_b9 k5_k9 (.object "java/lang/Object") (10 : Int32) [.null, .null, .null, .null, .null, .null, .null, .null, .null, .null] .null
theorem ef8 (a1 : Addr) (m : MethodId) : entryFrame m #[(.ref a1)] 1 = mkF m 0 #[.val (.ref a1)] [] := by first | (simp [entryFrame, mkF, argsToLocals, Value.category]; done) | rfl
theorem rm8 (l : Launch) (Z : State) (a0 : Array Value) (hw : ∀ d ∈ tables_1, d.before a0 Z = true) (ws : List Jvm.Cond) (a1 : Addr) (a3 : Addr) (k4 : ClassId) (h0 : Heap) (n0 : Nat) (Z0 : n0 ≤ h0.size) (F_size_a1 : Fld Z h0 a1 "java/util/ArrayList" "size" "I" (.int (0 : Int32))) (F_elementData_a1 : Fld Z h0 a1 "java/util/ArrayList" "elementData" "[Ljava/lang/Object;" (.ref a3)) (V_a3 : Arv Z h0 a3 k4 (.object "java/lang/Object") (0 : Int32) [] .null) (S_DEFAULTCAPACITY_EMPTY_ELEMENTDATA : Sta Z Z.heap "java/util/ArrayList" "DEFAULTCAPACITY_EMPTY_ELEMENTDATA" "[Ljava/lang/Object;" (.ref a3)) (Od0 : Old Z n0 h0) (E_a1 : Exa Z h0 a1 "java/util/ArrayList") (g_a1 : n0 ≤ a1) (F_modCount_a1 : Fld Z h0 a1 "java/util/AbstractList" "modCount" "I" (.int (1 : Int32))) :
    OwnMet l Z y_7 jdk_38_method_7_code 1 (some (.array (.object "java/lang/Object"))) ws Rm8 #[(.ref a1)] h0 (Q8 Z a1 a3 k4 h0 n0) := by
  refine own_body (plainFor_of_name pn_4) (ef8 a1) ?_
  intro p e s m below meth c s₁ hx hby hml hown hnm hret hZ X0 e0
  have N0 := Fr.nil n0
  obtain ⟨T2, X2, e2, st2⟩ := getF X0 hx hZ hown (host := "") (Or.inl (w_52 hw)) Via.refl e0 F_size_a1 (g := (mkF m 2 #[.val (.ref a1)] [(.ref a1), (.ref a1)])) rfl rfl (hb hby d9_2)
  obtain ⟨_, T5, L5, X5, hQ5, st5⟩ := own_private X2 hx hZ hown (y := y_6) E_a1 (w_64 hw) (w_65 hw) (mvT hZ (w_67 hw)) (w_66 hw) (w_23 hw) (w_68 hw) (rm7 l Z a0 hw [] a1 a3 k4 h0 n0 Z0 F_elementData_a1 V_a3 S_DEFAULTCAPACITY_EMPTY_ELEMENTDATA Od0 E_a1 g_a1 F_modCount_a1 F_size_a1) e2 (Ls := #[.val (.ref a1)]) (by rw [hml]; rfl) (argsL := [(.int (1 : Int32))]) (rest := []) (lenOf pd_3 rfl) (hb hby d9_7) (W := 0)
  obtain ⟨b5_b9, k5_k9, rfl, Nq5, K5, o5_0, o5_1, o5_2, o5_3, o5_4, o5_5, o5_6, o5_7⟩ := hQ5
  have N5 := Fr.app N0 Nq5
  have s0 := K5.1
  have sz_b5_b9 : h0.size ≤ b5_b9 := o5_4
  have Kp0 : Keep h0 T5.heap [a1] := (Keep.refl h0 [a1]).trans K5 (allS (Or.inl (List.mem_of_getElem? (i := 0) rfl)) all0)
  refine ⟨T5, _, _, _, (some (.ref b5_b9)), X5, nofun, by decide, by decide, ?_, fun fs hr => ?_⟩
  · show Q8 Z a1 a3 k4 h0 n0 _ T5.heap _
    exact ⟨b5_b9, k5_k9, rfl, N5, Kp0, o5_0, o5_1, o5_2, o5_3, sz_b5_b9, o5_5, o5_6, o5_7⟩
  · show Steps p.tables e below (s₁.setTop (mkF m 0 #[.val (.ref a1)] [])) _
    refine XS.aloadN X0.here hx rfl (hb hby d9_0) rfl rfl ?_
    refine XS.aloadN X0.here hx rfl (hb hby d9_1) rfl rfl ?_
    refine st2 _ ?_
    refine XS.iconst X2.here hx rfl (hb hby d9_5) ?_
    refine XS.iadd X2.here hx rfl (hb hby d9_6) rfl ?_
    refine st5 _ ?_
    exact retOut X5 hx hret rfl (Or.inr (Or.inr (Or.inr (Or.inr ⟨rfl, rfl, rfl⟩)))) (hb hby d9_10) hr
theorem pd_4 : parseMethodDescriptor "()[Ljava/lang/Object;" = some ⟨[], some (.array (.object "java/lang/Object"))⟩ := by decide +kernel
theorem w_63 {a0 : Array Value} {Z : State} (hw : ∀ d ∈ tables_1, d.before a0 Z = true) : Jvm.Cond.before (Jvm.Cond.code ({ cls := "java/util/ArrayList", name := "grow", desc := "()[Ljava/lang/Object;" } : Jvm.MethodName) jdk_38_method_7_code (1 : Nat) (Option.some (Jvm.ClassFile.FieldType.array (Jvm.ClassFile.FieldType.object "java/lang/Object")))) a0 Z = true := hw _ (List.mem_of_getElem? (i := 63) rfl)
theorem w_59 {a0 : Array Value} {Z : State} (hw : ∀ d ∈ tables_1, d.before a0 Z = true) : Jvm.Cond.before (Jvm.Cond.methodLink "java/util/ArrayList" (129 : Nat) ({ cls := "java/util/ArrayList", name := "grow", desc := "()[Ljava/lang/Object;" } : Jvm.MethodName)) a0 Z = true := hw _ (List.mem_of_getElem? (i := 59) rfl)
theorem w_60 {a0 : Array Value} {Z : State} (hw : ∀ d ∈ tables_1, d.before a0 Z = true) : Jvm.Cond.before (Jvm.Cond.instanceMethod ({ cls := "java/util/ArrayList", name := "grow", desc := "()[Ljava/lang/Object;" } : Jvm.MethodName)) a0 Z = true := hw _ (List.mem_of_getElem? (i := 60) rfl)
theorem w_62 {a0 : Array Value} {Z : State} (hw : ∀ d ∈ tables_1, d.before a0 Z = true) : Jvm.Cond.before (Jvm.Cond.selects "java/util/ArrayList" ({ cls := "java/util/ArrayList", name := "grow", desc := "()[Ljava/lang/Object;" } : Jvm.MethodName) ({ cls := "java/util/ArrayList", name := "grow", desc := "()[Ljava/lang/Object;" } : Jvm.MethodName)) a0 Z = true := hw _ (List.mem_of_getElem? (i := 62) rfl)
theorem w_61 {a0 : Array Value} {Z : State} (hw : ∀ d ∈ tables_1, d.before a0 Z = true) : Jvm.Cond.before (Jvm.Cond.privateMethod ({ cls := "java/util/ArrayList", name := "grow", desc := "()[Ljava/lang/Object;" } : Jvm.MethodName)) a0 Z = true := hw _ (List.mem_of_getElem? (i := 61) rfl)
theorem d8_10 : decode jdk_38_method_24_code 10 = .ok (.astore_n 2, 1) := by decide +kernel
theorem d8_11 : decode jdk_38_method_24_code 11 = .ok (.aload_n 2, 1) := by decide +kernel
theorem d8_12 : decode jdk_38_method_24_code 12 = .ok (.iload_n 3, 1) := by decide +kernel
theorem d8_13 : decode jdk_38_method_24_code 13 = .ok (.aload_n 1, 1) := by decide +kernel
theorem d8_14 : decode jdk_38_method_24_code 14 = .ok (.aastore, 1) := by decide +kernel
theorem w_75 {a0 : Array Value} {Z : State} (hw : ∀ d ∈ tables_1, d.before a0 Z = true) : Jvm.Cond.before (Jvm.Cond.castable "com/example/feedergen/feedergen/core/StopCandidate" "java/lang/Object") a0 Z = true := hw _ (List.mem_of_getElem? (i := 75) rfl)
theorem d8_15 : decode jdk_38_method_24_code 15 = .ok (.aload_n 0, 1) := by decide +kernel
theorem d8_16 : decode jdk_38_method_24_code 16 = .ok (.iload_n 3, 1) := by decide +kernel
theorem d8_17 : decode jdk_38_method_24_code 17 = .ok (.iconst 1, 1) := by decide +kernel
theorem d8_18 : decode jdk_38_method_24_code 18 = .ok (.iadd, 1) := by decide +kernel
theorem d8_19 : decode jdk_38_method_24_code 19 = .ok (.putfield 48, 3) := by decide +kernel
theorem d8_22 : decode jdk_38_method_24_code 22 = .ok (.return_, 1) := by decide +kernel
abbrev y_8 : MethodName := ⟨"java/util/ArrayList", "add", "(Ljava/lang/Object;[Ljava/lang/Object;I)V"⟩
-- java/util/ArrayList.add(Ljava/lang/Object;[Ljava/lang/Object;I)V
abbrev Rm9 : Room := { frames := 3, cells := 1, slots := 10, locals := 41 }
def Q9 (Z : State) (a1 : Addr) (a2 : Addr) (a3 : Addr) (k4 : ClassId) (h0 : Heap) (n0 : Nat) (v : Option Value) (h : Heap) (L : List Loc) : Prop := ∃ b6_b5_b9 : Addr, ∃ k6_k5_k9 : ClassId, v = none ∧ Fr n0 L ∧ Keep h0 h [a1] ∧ Exa Z h a1 "java/util/ArrayList" ∧ Fld Z h a1 "java/util/AbstractList" "modCount" "I" (.int (1 : Int32)) ∧ Fld Z h a1 "java/util/ArrayList" "elementData" "[Ljava/lang/Object;" (.ref b6_b5_b9) ∧ Fld Z h a1 "java/util/ArrayList" "size" "I" (.int (1 : Int32)) ∧ h0.size ≤ b6_b5_b9 ∧ Exa Z h b6_b5_b9 "[Ljava/lang/Object;" ∧ Ovr Z k6_k5_k9 "java/lang/Object" ∧ Arv Z h b6_b5_b9 k6_k5_k9 (.object "java/lang/Object") (10 : Int32) [(.ref a2), .null, .null, .null, .null, .null, .null, .null, .null, .null] .null
theorem ef9 (a1 : Addr) (a2 : Addr) (a3 : Addr) (m : MethodId) : entryFrame m #[(.ref a1), (.ref a2), (.ref a3), (.int (0 : Int32))] 4 = mkF m 0 #[.val (.ref a1), .val (.ref a2), .val (.ref a3), .val (.int (0 : Int32))] [] := by first | (simp [entryFrame, mkF, argsToLocals, Value.category]; done) | rfl
theorem rm9 (l : Launch) (Z : State) (a0 : Array Value) (hw : ∀ d ∈ tables_1, d.before a0 Z = true) (ws : List Jvm.Cond) (a1 : Addr) (a2 : Addr) (a3 : Addr) (k4 : ClassId) (h0 : Heap) (n0 : Nat) (Z0 : n0 ≤ h0.size) (V_a3 : Arv Z h0 a3 k4 (.object "java/lang/Object") (0 : Int32) [] .null) (F_size_a1 : Fld Z h0 a1 "java/util/ArrayList" "size" "I" (.int (0 : Int32))) (F_elementData_a1 : Fld Z h0 a1 "java/util/ArrayList" "elementData" "[Ljava/lang/Object;" (.ref a3)) (S_DEFAULTCAPACITY_EMPTY_ELEMENTDATA : Sta Z Z.heap "java/util/ArrayList" "DEFAULTCAPACITY_EMPTY_ELEMENTDATA" "[Ljava/lang/Object;" (.ref a3)) (Od0 : Old Z n0 h0) (E_a1 : Exa Z h0 a1 "java/util/ArrayList") (g_a1 : n0 ≤ a1) (F_modCount_a1 : Fld Z h0 a1 "java/util/AbstractList" "modCount" "I" (.int (1 : Int32))) (E_a2 : Exa Z h0 a2 "com/example/feedergen/feedergen/core/StopCandidate") :
    OwnMet l Z y_8 jdk_38_method_24_code 4 none ws Rm9 #[(.ref a1), (.ref a2), (.ref a3), (.int (0 : Int32))] h0 (Q9 Z a1 a2 a3 k4 h0 n0) := by
  refine own_body (plainFor_of_name pn_4) (ef9 a1 a2 a3) ?_
  intro p e s m below meth c s₁ hx hby hml hown hnm hret hZ X0 e0
  have N0 := Fr.nil n0
  obtain ⟨cl5, Ar5, q5, S5, M5, Hs5, G5⟩ := id V_a3
  obtain ⟨_, T6, L6, X6, hQ6, st6⟩ := own_private X0 hx hZ hown (y := y_7) E_a1 (w_59 hw) (w_60 hw) (mvT hZ (w_62 hw)) (w_61 hw) (w_23 hw) (w_63 hw) (rm8 l Z a0 hw [] a1 a3 k4 h0 n0 Z0 F_size_a1 F_elementData_a1 V_a3 S_DEFAULTCAPACITY_EMPTY_ELEMENTDATA Od0 E_a1 g_a1 F_modCount_a1) e0 (Ls := #[.val (.ref a1), .val (.ref a2), .val (.ref a3), .val (.int (0 : Int32))]) (by rw [hml]; rfl) (argsL := []) (rest := []) (lenOf pd_4 rfl) (hb hby d8_7) (W := 0)
  obtain ⟨b6_b5_b9, k6_k5_k9, rfl, Nq6, K6, o6_0, o6_1, o6_2, o6_3, o6_4, o6_5, o6_6, o6_7⟩ := hQ6
  have N6 := Fr.app N0 Nq6
  have s0 := K6.1
  obtain ⟨cl7, Ar7, q7, S7, M7, Hs7, G7⟩ := id o6_7
  have hin8 : ¬ ((0 : Int32) < 0 ∨ cl7.slots.size ≤ ((0 : Int32)).toNatClampNeg) := inb_of S7 ⟨(by decide : ¬ ((0 : Int32) < (0 : Int32))), (by decide : (0 : Int32) < (10 : Int32))⟩
  have Ex9 := (E_a2.keep K6)
  obtain ⟨T10, h10, X10, e10, W10, st10⟩ := stR X6 hx hZ rfl Ar7 (j := (0 : Int32)) hin8 rfl (Sto.ofV Ar7 q7 o6_6 (Ins.of_exa Ex9 (w_75 hw))) (g := (mkF m 14 #[.val (.ref a1), .val (.ref a2), .val (.ref b6_b5_b9), .val (.int (0 : Int32))] [(.ref a2), (.int (0 : Int32)), (.ref b6_b5_b9)])) rfl rfl (hb hby d8_14)
  have s1 := (Keep.of_wr W10).1
  have g_b6_b5_b9 : n0 ≤ b6_b5_b9 := Nat.le_trans Z0 o6_4
  have N10 := Fr.snoc X10 N6 g_b6_b5_b9
  have Vs10 : Arv Z h10 b6_b5_b9 k6_k5_k9 (.object "java/lang/Object") (10 : Int32) [(.ref a2), .null, .null, .null, .null, .null, .null, .null, .null, .null] .null := Arv.set Ar7 q7 S7 M7 Hs7 G7 rfl W10 0 rfl (Nat.le_of_ble_eq_true rfl)
  have ne_a1_b6_b5_b9 := Nat.ne_of_lt (Nat.lt_of_lt_of_le F_size_a1.lt o6_4)
  have Fl11 := (o6_3.other W10 (Or.inl ne_a1_b6_b5_b9))
  have Ex12 := (o6_0.wr W10)
  obtain ⟨T13, h13, X13, e13, W13, st13⟩ := putF X10 hx hZ hown (host := "") (Or.inl (w_52 hw)) Via.refl e10 Fl11 Ex12 (Or.inl (w_53 hw)) (w_22 hw) (ty := .int) (by decide) rfl rfl (g := (mkF m 19 #[.val (.ref a1), .val (.ref a2), .val (.ref b6_b5_b9), .val (.int (0 : Int32))] [(.int (1 : Int32)), (.ref a1)])) rfl rfl (hb hby d8_19)
  have s2 := (Keep.of_wr W13).1
  have N13 := Fr.snoc X13 N10 g_a1
  have Fw13 : Fld Z h13 a1 "java/util/ArrayList" "size" "I" (.int (1 : Int32)) := Fl11.same W13
  have Ex14 := (Ex12.wr W13)
  have Fl15 := ((o6_1.other W10 (Or.inl ne_a1_b6_b5_b9)).other W13 (Or.inr (slot_ne (Or.inl (w_41 hw)) (Or.inl (w_53 hw)) (by decide) (t := .int) (t' := .int) (by decide) (by decide))))
  have Fl16 := ((o6_2.other W10 (Or.inl ne_a1_b6_b5_b9)).other W13 (Or.inr (slot_ne (Or.inl (w_44 hw)) (Or.inl (w_53 hw)) (by decide) (t := (.array (.object "java/lang/Object"))) (t' := .int) (by decide) (by decide))))
  have sz_b6_b5_b9 : h0.size ≤ b6_b5_b9 := o6_4
  have Ex17 := ((o6_5.wr W10).wr W13)
  have Va18 := (Vs10.other W13 (Ne.symm ne_a1_b6_b5_b9))
  have Kp0 : Keep h0 T6.heap [a1] := (Keep.refl h0 [a1]).trans K6 (allS (Or.inl (List.mem_of_getElem? (i := 0) rfl)) all0)
  have Kp1 : Keep h0 h10 [a1] := Kp0.wr W10 (Or.inr sz_b6_b5_b9)
  have Kp2 : Keep h0 h13 [a1] := Kp1.wr W13 (Or.inl (List.mem_of_getElem? (i := 0) rfl))
  refine ⟨T13, _, _, _, none, X13, (fun _ => rfl), by decide, by decide, ?_, fun fs hr => ?_⟩
  · show Q9 Z a1 a2 a3 k4 h0 n0 _ T13.heap _
    rw [e13]
    exact ⟨b6_b5_b9, k6_k5_k9, rfl, N13, Kp2, Ex14, Fl15, Fl16, Fw13, sz_b6_b5_b9, Ex17, o6_6, Va18⟩
  · show Steps p.tables e below (s₁.setTop (mkF m 0 #[.val (.ref a1), .val (.ref a2), .val (.ref a3), .val (.int (0 : Int32))] [])) _
    refine XS.iloadN X0.here hx rfl (hb hby d8_0) rfl ?_
    refine XS.aloadN X0.here hx rfl (hb hby d8_1) rfl rfl ?_
    refine X0.arraylength hx (by rw [e0]; exact Ar5.1) (State.isArrayOf_alike hZ.alike Ar5.2.1) (g := (mkF m 2 #[.val (.ref a1), .val (.ref a2), .val (.ref a3), .val (.int (0 : Int32))] [(.ref a3), (.int (0 : Int32))])) rfl rfl (hb hby d8_2) _ ?_
    show Steps p.tables e below (s₁.setTop (mkF m 3 #[.val (.ref a1), .val (.ref a2), .val (.ref a3), .val (.int (0 : Int32))] [(.int cl5.slots.size.toInt32), (.int (0 : Int32))])) _
    rw [len_of S5 M5]
    refine XS.icmpNo X0.here hx rfl (hb hby d8_3) rfl (teq ((by decide : (0 : Int32) = (0 : Int32)) : (0 : Int32) = (0 : Int32))).2 ?_
    refine XS.aloadN X0.here hx rfl (hb hby d8_6) rfl rfl ?_
    refine st6 _ ?_
    refine XS.astoreN X6.here hx rfl (hb hby d8_10) rfl rfl (l' := #[.val (.ref a1), .val (.ref a2), .val (.ref b6_b5_b9), .val (.int (0 : Int32))]) rfl ?_
    refine XS.aloadN X6.here hx rfl (hb hby d8_11) rfl rfl ?_
    refine XS.iloadN X6.here hx rfl (hb hby d8_12) rfl ?_
    refine XS.aloadN X6.here hx rfl (hb hby d8_13) rfl rfl ?_
    refine st10 _ ?_
    refine XS.aloadN X10.here hx rfl (hb hby d8_15) rfl rfl ?_
    refine XS.iloadN X10.here hx rfl (hb hby d8_16) rfl ?_
    refine XS.iconst X10.here hx rfl (hb hby d8_17) ?_
    show Steps p.tables e below (T10.setTop (mkF m 18 #[.val (.ref a1), .val (.ref a2), .val (.ref b6_b5_b9), .val (.int (0 : Int32))] [(.int (1 : Int32)), (.int (0 : Int32)), (.ref a1)])) _
    refine XS.iadd X10.here hx rfl (hb hby d8_18) rfl ?_
    refine st13 _ ?_
    exact X13.returnOut hx hret (hb hby d8_22) hr
theorem pd_5 : parseMethodDescriptor "(Ljava/lang/Object;[Ljava/lang/Object;I)V" = some ⟨[(.object "java/lang/Object"), (.array (.object "java/lang/Object")), .int], none⟩ := by decide +kernel
theorem w_58 {a0 : Array Value} {Z : State} (hw : ∀ d ∈ tables_1, d.before a0 Z = true) : Jvm.Cond.before (Jvm.Cond.code ({ cls := "java/util/ArrayList", name := "add", desc := "(Ljava/lang/Object;[Ljava/lang/Object;I)V" } : Jvm.MethodName) jdk_38_method_24_code (4 : Nat) (Option.none : Option Jvm.ClassFile.FieldType)) a0 Z = true := hw _ (List.mem_of_getElem? (i := 58) rfl)
theorem w_54 {a0 : Array Value} {Z : State} (hw : ∀ d ∈ tables_1, d.before a0 Z = true) : Jvm.Cond.before (Jvm.Cond.methodLink "java/util/ArrayList" (131 : Nat) ({ cls := "java/util/ArrayList", name := "add", desc := "(Ljava/lang/Object;[Ljava/lang/Object;I)V" } : Jvm.MethodName)) a0 Z = true := hw _ (List.mem_of_getElem? (i := 54) rfl)
theorem w_55 {a0 : Array Value} {Z : State} (hw : ∀ d ∈ tables_1, d.before a0 Z = true) : Jvm.Cond.before (Jvm.Cond.instanceMethod ({ cls := "java/util/ArrayList", name := "add", desc := "(Ljava/lang/Object;[Ljava/lang/Object;I)V" } : Jvm.MethodName)) a0 Z = true := hw _ (List.mem_of_getElem? (i := 55) rfl)
theorem w_57 {a0 : Array Value} {Z : State} (hw : ∀ d ∈ tables_1, d.before a0 Z = true) : Jvm.Cond.before (Jvm.Cond.selects "java/util/ArrayList" ({ cls := "java/util/ArrayList", name := "add", desc := "(Ljava/lang/Object;[Ljava/lang/Object;I)V" } : Jvm.MethodName) ({ cls := "java/util/ArrayList", name := "add", desc := "(Ljava/lang/Object;[Ljava/lang/Object;I)V" } : Jvm.MethodName)) a0 Z = true := hw _ (List.mem_of_getElem? (i := 57) rfl)
theorem w_56 {a0 : Array Value} {Z : State} (hw : ∀ d ∈ tables_1, d.before a0 Z = true) : Jvm.Cond.before (Jvm.Cond.privateMethod ({ cls := "java/util/ArrayList", name := "add", desc := "(Ljava/lang/Object;[Ljava/lang/Object;I)V" } : Jvm.MethodName)) a0 Z = true := hw _ (List.mem_of_getElem? (i := 56) rfl)
theorem d7_23 : decode jdk_38_method_25_code 23 = .ok (.iconst 1, 1) := by decide +kernel
theorem d7_24 : decode jdk_38_method_25_code 24 = .ok (.ireturn, 1) := by decide +kernel
abbrev y_9 : MethodName := ⟨"java/util/ArrayList", "add", "(Ljava/lang/Object;)Z"⟩
-- java/util/ArrayList.add(Ljava/lang/Object;)Z
abbrev Rm10 : Room := { frames := 4, cells := 1, slots := 10, locals := 56 }
def Q10 (Z : State) (a1 : Addr) (a2 : Addr) (a5 : Addr) (k11 : ClassId) (h0 : Heap) (n0 : Nat) (v : Option Value) (h : Heap) (L : List Loc) : Prop := ∃ b14_b6_b5_b9 : Addr, ∃ k14_k6_k5_k9 : ClassId, v = some (.int (1 : Int32)) ∧ Fr n0 L ∧ Keep h0 h [a1] ∧ Exa Z h a1 "java/util/ArrayList" ∧ Fld Z h a1 "java/util/AbstractList" "modCount" "I" (.int (1 : Int32)) ∧ Fld Z h a1 "java/util/ArrayList" "elementData" "[Ljava/lang/Object;" (.ref b14_b6_b5_b9) ∧ Fld Z h a1 "java/util/ArrayList" "size" "I" (.int (1 : Int32)) ∧ h0.size ≤ b14_b6_b5_b9 ∧ Exa Z h b14_b6_b5_b9 "[Ljava/lang/Object;" ∧ Ovr Z k14_k6_k5_k9 "java/lang/Object" ∧ Arv Z h b14_b6_b5_b9 k14_k6_k5_k9 (.object "java/lang/Object") (10 : Int32) [(.ref a2), .null, .null, .null, .null, .null, .null, .null, .null, .null] .null
theorem ef10 (a1 : Addr) (a2 : Addr) (m : MethodId) : entryFrame m #[(.ref a1), (.ref a2)] 2 = mkF m 0 #[.val (.ref a1), .val (.ref a2)] [] := by first | (simp [entryFrame, mkF, argsToLocals, Value.category]; done) | rfl
theorem rm10 (l : Launch) (Z : State) (a0 : Array Value) (hw : ∀ d ∈ tables_1, d.before a0 Z = true) (ws : List Jvm.Cond) (a1 : Addr) (a2 : Addr) (a5 : Addr) (k11 : ClassId) (h0 : Heap) (n0 : Nat) (Z0 : n0 ≤ h0.size) (F_modCount_a1 : Fld Z h0 a1 "java/util/AbstractList" "modCount" "I" (.int (0 : Int32))) (E_a1 : Exa Z h0 a1 "java/util/ArrayList") (g_a1 : n0 ≤ a1) (F_elementData_a1 : Fld Z h0 a1 "java/util/ArrayList" "elementData" "[Ljava/lang/Object;" (.ref a5)) (F_size_a1 : Fld Z h0 a1 "java/util/ArrayList" "size" "I" (.int (0 : Int32))) (V_a5 : Arv Z h0 a5 k11 (.object "java/lang/Object") (0 : Int32) [] .null) (ne_a5_a1 : a5 ≠ a1) (S_DEFAULTCAPACITY_EMPTY_ELEMENTDATA : Sta Z Z.heap "java/util/ArrayList" "DEFAULTCAPACITY_EMPTY_ELEMENTDATA" "[Ljava/lang/Object;" (.ref a5)) (Od0 : Old Z n0 h0) (E_a2 : Exa Z h0 a2 "com/example/feedergen/feedergen/core/StopCandidate") :
    OwnMet l Z y_9 jdk_38_method_25_code 2 (some .boolean) ws Rm10 #[(.ref a1), (.ref a2)] h0 (Q10 Z a1 a2 a5 k11 h0 n0) := by
  refine own_body (plainFor_of_name pn_4) (ef10 a1 a2) ?_
  intro p e s m below meth c s₁ hx hby hml hown hnm hret hZ X0 e0
  have N0 := Fr.nil n0
  obtain ⟨T3, X3, e3, st3⟩ := getF X0 hx hZ hown (host := "") (Or.inl (w_50 hw)) (Via.of (w_51 hw)) e0 F_modCount_a1 (g := (mkF m 2 #[.val (.ref a1), .val (.ref a2)] [(.ref a1), (.ref a1)])) rfl rfl (hb hby d7_2)
  obtain ⟨T4, h4, X4, e4, W4, st4⟩ := putF X3 hx hZ hown (host := "") (Or.inl (w_50 hw)) (Via.of (w_51 hw)) e3 F_modCount_a1 E_a1 (Or.inl (w_41 hw)) (w_22 hw) (ty := .int) (by decide) rfl rfl (g := (mkF m 7 #[.val (.ref a1), .val (.ref a2)] [(.int (1 : Int32)), (.ref a1)])) rfl rfl (hb hby d7_7)
  have s0 := (Keep.of_wr W4).1
  have N4 := Fr.snoc X4 N0 g_a1
  have Fw4 : Fld Z h4 a1 "java/util/AbstractList" "modCount" "I" (.int (1 : Int32)) := F_modCount_a1.same W4
  have Ex6 := (E_a1.wr W4)
  have Fl7 := (F_elementData_a1.other W4 (Or.inr (slot_ne (Or.inl (w_44 hw)) (Or.inl (w_41 hw)) (by decide) (t := (.array (.object "java/lang/Object"))) (t' := .int) (by decide) (by decide))))
  obtain ⟨T8, X8, e8, st8⟩ := getF X4 hx hZ hown (host := "") (Or.inl (w_43 hw)) Via.refl e4 Fl7 (g := (mkF m 13 #[.val (.ref a1), .val (.ref a2)] [(.ref a1), (.ref a2), (.ref a1)])) rfl rfl (hb hby d7_13)
  have Fl9 := (F_size_a1.other W4 (Or.inr (slot_ne (Or.inl (w_53 hw)) (Or.inl (w_41 hw)) (by decide) (t := .int) (t' := .int) (by decide) (by decide))))
  obtain ⟨T10, X10, e10, st10⟩ := getF X8 hx hZ hown (host := "") (Or.inl (w_52 hw)) Via.refl e8 Fl9 (g := (mkF m 17 #[.val (.ref a1), .val (.ref a2)] [(.ref a1), (.ref a5), (.ref a2), (.ref a1)])) rfl rfl (hb hby d7_17)
  have Va12 := (V_a5.other W4 ne_a5_a1)
  have Od1 : Old Z n0 h4 := Od0.wr W4 g_a1
  have Ex13 := (E_a2.wr W4)
  have z1 := Nat.le_trans Z0 s0
  obtain ⟨_, T14, L14, X14, hQ14, st14⟩ := own_private X10 hx hZ hown (y := y_8) Ex6 (w_54 hw) (w_55 hw) (mvT hZ (w_57 hw)) (w_56 hw) (w_23 hw) (w_58 hw) (rm9 l Z a0 hw [] a1 a2 a5 k11 h4 n0 z1 Va12 Fl9 Fl7 S_DEFAULTCAPACITY_EMPTY_ELEMENTDATA Od1 Ex6 g_a1 Fw4 Ex13) e10 (Ls := #[.val (.ref a1), .val (.ref a2)]) (by rw [hml]; rfl) (argsL := [(.ref a2), (.ref a5), (.int (0 : Int32))]) (rest := []) (lenOf pd_5 rfl) (hb hby d7_20) (W := 0)
  obtain ⟨b14_b6_b5_b9, k14_k6_k5_k9, rfl, Nq14, K14, o14_0, o14_1, o14_2, o14_3, o14_4, o14_5, o14_6, o14_7⟩ := hQ14
  have N14 := Fr.app N4 Nq14
  have s1 := K14.1
  have sz_b14_b6_b5_b9 : h0.size ≤ b14_b6_b5_b9 := Nat.le_trans s0 o14_4
  have Kp0 : Keep h0 h4 [a1] := (Keep.refl h0 [a1]).wr W4 (Or.inl (List.mem_of_getElem? (i := 0) rfl))
  have Kp1 : Keep h0 T14.heap [a1] := Kp0.trans K14 (allS (Or.inl (List.mem_of_getElem? (i := 0) rfl)) all0)
  refine ⟨T14, _, _, _, (some (.int (1 : Int32))), X14, nofun, by decide, by decide, ?_, fun fs hr => ?_⟩
  · show Q10 Z a1 a2 a5 k11 h0 n0 _ T14.heap _
    exact ⟨b14_b6_b5_b9, k14_k6_k5_k9, rfl, N14, Kp1, o14_0, o14_1, o14_2, o14_3, sz_b14_b6_b5_b9, o14_5, o14_6, o14_7⟩
  · show Steps p.tables e below (s₁.setTop (mkF m 0 #[.val (.ref a1), .val (.ref a2)] [])) _
    refine XS.aloadN X0.here hx rfl (hb hby d7_0) rfl rfl ?_
    refine XS.dup X0.here hx rfl (hb hby d7_1) rfl rfl ?_
    refine st3 _ ?_
    refine XS.iconst X3.here hx rfl (hb hby d7_5) ?_
    refine XS.iadd X3.here hx rfl (hb hby d7_6) rfl ?_
    refine st4 _ ?_
    refine XS.aloadN X4.here hx rfl (hb hby d7_10) rfl rfl ?_
    refine XS.aloadN X4.here hx rfl (hb hby d7_11) rfl rfl ?_
    refine XS.aloadN X4.here hx rfl (hb hby d7_12) rfl rfl ?_
    refine st8 _ ?_
    refine XS.aloadN X8.here hx rfl (hb hby d7_16) rfl rfl ?_
    refine st10 _ ?_
    show Steps p.tables e below (T10.setTop (mkF m 20 #[.val (.ref a1), .val (.ref a2)] [(.int (0 : Int32)), (.ref a5), (.ref a2), (.ref a1)])) _
    refine st14 _ ?_
    refine XS.iconst X14.here hx rfl (hb hby d7_23) ?_
    exact retN X14 hx (t := .boolean) hret (by simp) (hb hby d7_24) hr
theorem pd_6 : parseMethodDescriptor "(Ljava/lang/Object;)Z" = some ⟨[(.object "java/lang/Object")], some .boolean⟩ := by decide +kernel
theorem w_49 {a0 : Array Value} {Z : State} (hw : ∀ d ∈ tables_1, d.before a0 Z = true) : Jvm.Cond.before (Jvm.Cond.code ({ cls := "java/util/ArrayList", name := "add", desc := "(Ljava/lang/Object;)Z" } : Jvm.MethodName) jdk_38_method_25_code (2 : Nat) (Option.some Jvm.ClassFile.FieldType.boolean)) a0 Z = true := hw _ (List.mem_of_getElem? (i := 49) rfl)
theorem w_45 {a0 : Array Value} {Z : State} (hw : ∀ d ∈ tables_1, d.before a0 Z = true) : Jvm.Cond.before (Jvm.Cond.methodLink "com/example/feedergen/feedergen/core/DrivenLineLengthForwardPinLaw" (16 : Nat) ({ cls := "java/util/ArrayList", name := "add", desc := "(Ljava/lang/Object;)Z" } : Jvm.MethodName)) a0 Z = true := hw _ (List.mem_of_getElem? (i := 45) rfl)
theorem w_48 {a0 : Array Value} {Z : State} (hw : ∀ d ∈ tables_1, d.before a0 Z = true) : Jvm.Cond.before (Jvm.Cond.selects "java/util/ArrayList" ({ cls := "java/util/ArrayList", name := "add", desc := "(Ljava/lang/Object;)Z" } : Jvm.MethodName) ({ cls := "java/util/ArrayList", name := "add", desc := "(Ljava/lang/Object;)Z" } : Jvm.MethodName)) a0 Z = true := hw _ (List.mem_of_getElem? (i := 48) rfl)
theorem w_46 {a0 : Array Value} {Z : State} (hw : ∀ d ∈ tables_1, d.before a0 Z = true) : Jvm.Cond.before (Jvm.Cond.declares ({ cls := "java/util/ArrayList", name := "add", desc := "(Ljava/lang/Object;)Z" } : Jvm.MethodName)) a0 Z = true := hw _ (List.mem_of_getElem? (i := 46) rfl)
theorem w_47 {a0 : Array Value} {Z : State} (hw : ∀ d ∈ tables_1, d.before a0 Z = true) : Jvm.Cond.before (Jvm.Cond.instanceMethod ({ cls := "java/util/ArrayList", name := "add", desc := "(Ljava/lang/Object;)Z" } : Jvm.MethodName)) a0 Z = true := hw _ (List.mem_of_getElem? (i := 47) rfl)
-- java/util/ArrayList.add(Ljava/lang/Object;[Ljava/lang/Object;I)V
abbrev Rm11 : Room := { frames := 0, cells := 0, slots := 0, locals := 0 }
def Q11 (Z : State) (a1 : Addr) (a2 : Addr) (a3 : Addr) (k4 : ClassId) (h0 : Heap) (n0 : Nat) (v : Option Value) (h : Heap) (L : List Loc) : Prop := v = none ∧ Fr n0 L ∧ Keep h0 h [a3, a1] ∧ Exa Z h a3 "[Ljava/lang/Object;" ∧ Arv Z h a3 k4 (.object "java/lang/Object") (10 : Int32) [(.ref a2), (.ref a2), .null, .null, .null, .null, .null, .null, .null, .null] .null ∧ Exa Z h a1 "java/util/ArrayList" ∧ Fld Z h a1 "java/util/AbstractList" "modCount" "I" (.int (2 : Int32)) ∧ Fld Z h a1 "java/util/ArrayList" "elementData" "[Ljava/lang/Object;" (.ref a3) ∧ Fld Z h a1 "java/util/ArrayList" "size" "I" (.int (2 : Int32))
theorem ef11 (a1 : Addr) (a2 : Addr) (a3 : Addr) (m : MethodId) : entryFrame m #[(.ref a1), (.ref a2), (.ref a3), (.int (1 : Int32))] 4 = mkF m 0 #[.val (.ref a1), .val (.ref a2), .val (.ref a3), .val (.int (1 : Int32))] [] := by first | (simp [entryFrame, mkF, argsToLocals, Value.category]; done) | rfl
theorem rm11 (l : Launch) (Z : State) (a0 : Array Value) (hw : ∀ d ∈ tables_1, d.before a0 Z = true) (ws : List Jvm.Cond) (a1 : Addr) (a2 : Addr) (a3 : Addr) (k4 : ClassId) (h0 : Heap) (n0 : Nat) (Z0 : n0 ≤ h0.size) (V_a3 : Arv Z h0 a3 k4 (.object "java/lang/Object") (10 : Int32) [(.ref a2), .null, .null, .null, .null, .null, .null, .null, .null, .null] .null) (O_k4 : Ovr Z k4 "java/lang/Object") (E_a2 : Exa Z h0 a2 "com/example/feedergen/feedergen/core/StopCandidate") (g_a3 : n0 ≤ a3) (F_size_a1 : Fld Z h0 a1 "java/util/ArrayList" "size" "I" (.int (1 : Int32))) (ne_a1_a3 : a1 ≠ a3) (E_a1 : Exa Z h0 a1 "java/util/ArrayList") (g_a1 : n0 ≤ a1) (E_a3 : Exa Z h0 a3 "[Ljava/lang/Object;") (F_modCount_a1 : Fld Z h0 a1 "java/util/AbstractList" "modCount" "I" (.int (2 : Int32))) (F_elementData_a1 : Fld Z h0 a1 "java/util/ArrayList" "elementData" "[Ljava/lang/Object;" (.ref a3)) :
    OwnMet l Z y_8 jdk_38_method_24_code 4 none ws Rm11 #[(.ref a1), (.ref a2), (.ref a3), (.int (1 : Int32))] h0 (Q11 Z a1 a2 a3 k4 h0 n0) := by
  refine own_body (plainFor_of_name pn_4) (ef11 a1 a2 a3) ?_
  intro p e s m below meth c s₁ hx hby hml hown hnm hret hZ X0 e0
  have N0 := Fr.nil n0
  obtain ⟨cl5, Ar5, q5, S5, M5, Hs5, G5⟩ := id V_a3
  have hin6 : ¬ ((1 : Int32) < 0 ∨ cl5.slots.size ≤ ((1 : Int32)).toNatClampNeg) := inb_of S5 ⟨(by decide : ¬ ((1 : Int32) < (0 : Int32))), (by decide : (1 : Int32) < (10 : Int32))⟩
  obtain ⟨T7, h7, X7, e7, W7, st7⟩ := stR X0 hx hZ e0 Ar5 (j := (1 : Int32)) hin6 rfl (Sto.ofV Ar5 q5 O_k4 (Ins.of_exa E_a2 (w_75 hw))) (g := (mkF m 14 #[.val (.ref a1), .val (.ref a2), .val (.ref a3), .val (.int (1 : Int32))] [(.ref a2), (.int (1 : Int32)), (.ref a3)])) rfl rfl (hb hby d8_14)
  have s0 := (Keep.of_wr W7).1
  have N7 := Fr.snoc X7 N0 g_a3
  have Vs7 : Arv Z h7 a3 k4 (.object "java/lang/Object") (10 : Int32) [(.ref a2), (.ref a2), .null, .null, .null, .null, .null, .null, .null, .null] .null := Arv.set Ar5 q5 S5 M5 Hs5 G5 rfl W7 1 rfl (Nat.le_of_ble_eq_true rfl)
  have Fl8 := (F_size_a1.other W7 (Or.inl ne_a1_a3))
  have Ex9 := (E_a1.wr W7)
  obtain ⟨T10, h10, X10, e10, W10, st10⟩ := putF X7 hx hZ hown (host := "") (Or.inl (w_52 hw)) Via.refl e7 Fl8 Ex9 (Or.inl (w_53 hw)) (w_22 hw) (ty := .int) (by decide) rfl rfl (g := (mkF m 19 #[.val (.ref a1), .val (.ref a2), .val (.ref a3), .val (.int (1 : Int32))] [(.int (2 : Int32)), (.ref a1)])) rfl rfl (hb hby d8_19)
  have s1 := (Keep.of_wr W10).1
  have N10 := Fr.snoc X10 N7 g_a1
  have Fw10 : Fld Z h10 a1 "java/util/ArrayList" "size" "I" (.int (2 : Int32)) := Fl8.same W10
  have Ex11 := ((E_a3.wr W7).wr W10)
  have Va12 := (Vs7.other W10 (Ne.symm ne_a1_a3))
  have Ex13 := (Ex9.wr W10)
  have Fl14 := ((F_modCount_a1.other W7 (Or.inl ne_a1_a3)).other W10 (Or.inr (slot_ne (Or.inl (w_41 hw)) (Or.inl (w_53 hw)) (by decide) (t := .int) (t' := .int) (by decide) (by decide))))
  have Fl15 := ((F_elementData_a1.other W7 (Or.inl ne_a1_a3)).other W10 (Or.inr (slot_ne (Or.inl (w_44 hw)) (Or.inl (w_53 hw)) (by decide) (t := (.array (.object "java/lang/Object"))) (t' := .int) (by decide) (by decide))))
  have Kp0 : Keep h0 h7 [a3, a1] := (Keep.refl h0 [a3, a1]).wr W7 (Or.inl (List.mem_of_getElem? (i := 0) rfl))
  have Kp1 : Keep h0 h10 [a3, a1] := Kp0.wr W10 (Or.inl (List.mem_of_getElem? (i := 1) rfl))
  refine ⟨T10, _, _, _, none, X10, (fun _ => rfl), by decide, by decide, ?_, fun fs hr => ?_⟩
  · show Q11 Z a1 a2 a3 k4 h0 n0 _ T10.heap _
    rw [e10]
    exact ⟨rfl, N10, Kp1, Ex11, Va12, Ex13, Fl14, Fl15, Fw10⟩
  · show Steps p.tables e below (s₁.setTop (mkF m 0 #[.val (.ref a1), .val (.ref a2), .val (.ref a3), .val (.int (1 : Int32))] [])) _
    refine XS.iloadN X0.here hx rfl (hb hby d8_0) rfl ?_
    refine XS.aloadN X0.here hx rfl (hb hby d8_1) rfl rfl ?_
    refine X0.arraylength hx (by rw [e0]; exact Ar5.1) (State.isArrayOf_alike hZ.alike Ar5.2.1) (g := (mkF m 2 #[.val (.ref a1), .val (.ref a2), .val (.ref a3), .val (.int (1 : Int32))] [(.ref a3), (.int (1 : Int32))])) rfl rfl (hb hby d8_2) _ ?_
    show Steps p.tables e below (s₁.setTop (mkF m 3 #[.val (.ref a1), .val (.ref a2), .val (.ref a3), .val (.int (1 : Int32))] [(.int cl5.slots.size.toInt32), (.int (1 : Int32))])) _
    rw [len_of S5 M5]
    refine XS.icmpYes X0.here hx rfl (pc0 := 3) (pc' := 11) rfl (hb hby d8_3) rfl (feq ((by decide : ¬ ((1 : Int32) = (10 : Int32))) : ¬ ((1 : Int32) = (10 : Int32)))).2 (by decide) (by decide) ?_
    refine XS.aloadN X0.here hx rfl (hb hby d8_11) rfl rfl ?_
    refine XS.iloadN X0.here hx rfl (hb hby d8_12) rfl ?_
    refine XS.aloadN X0.here hx rfl (hb hby d8_13) rfl rfl ?_
    refine st7 _ ?_
    refine XS.aloadN X7.here hx rfl (hb hby d8_15) rfl rfl ?_
    refine XS.iloadN X7.here hx rfl (hb hby d8_16) rfl ?_
    refine XS.iconst X7.here hx rfl (hb hby d8_17) ?_
    refine XS.iadd X7.here hx rfl (hb hby d8_18) rfl ?_
    refine st10 _ ?_
    exact X10.returnOut hx hret (hb hby d8_22) hr
-- java/util/ArrayList.add(Ljava/lang/Object;)Z
abbrev Rm12 : Room := { frames := 1, cells := 0, slots := 0, locals := 15 }
def Q12 (Z : State) (a1 : Addr) (a2 : Addr) (a5 : Addr) (k11 : ClassId) (h0 : Heap) (n0 : Nat) (v : Option Value) (h : Heap) (L : List Loc) : Prop := v = some (.int (1 : Int32)) ∧ Fr n0 L ∧ Keep h0 h [a1, a5] ∧ Exa Z h a1 "java/util/ArrayList" ∧ Fld Z h a1 "java/util/AbstractList" "modCount" "I" (.int (2 : Int32)) ∧ Fld Z h a1 "java/util/ArrayList" "elementData" "[Ljava/lang/Object;" (.ref a5) ∧ Fld Z h a1 "java/util/ArrayList" "size" "I" (.int (2 : Int32)) ∧ Exa Z h a5 "[Ljava/lang/Object;" ∧ Arv Z h a5 k11 (.object "java/lang/Object") (10 : Int32) [(.ref a2), (.ref a2), .null, .null, .null, .null, .null, .null, .null, .null] .null
theorem ef12 (a1 : Addr) (a2 : Addr) (m : MethodId) : entryFrame m #[(.ref a1), (.ref a2)] 2 = mkF m 0 #[.val (.ref a1), .val (.ref a2)] [] := by first | (simp [entryFrame, mkF, argsToLocals, Value.category]; done) | rfl
theorem rm12 (l : Launch) (Z : State) (a0 : Array Value) (hw : ∀ d ∈ tables_1, d.before a0 Z = true) (ws : List Jvm.Cond) (a1 : Addr) (a2 : Addr) (a5 : Addr) (k11 : ClassId) (h0 : Heap) (n0 : Nat) (Z0 : n0 ≤ h0.size) (F_modCount_a1 : Fld Z h0 a1 "java/util/AbstractList" "modCount" "I" (.int (1 : Int32))) (E_a1 : Exa Z h0 a1 "java/util/ArrayList") (g_a1 : n0 ≤ a1) (F_elementData_a1 : Fld Z h0 a1 "java/util/ArrayList" "elementData" "[Ljava/lang/Object;" (.ref a5)) (F_size_a1 : Fld Z h0 a1 "java/util/ArrayList" "size" "I" (.int (1 : Int32))) (V_a5 : Arv Z h0 a5 k11 (.object "java/lang/Object") (10 : Int32) [(.ref a2), .null, .null, .null, .null, .null, .null, .null, .null, .null] .null) (ne_a5_a1 : a5 ≠ a1) (O_k11 : Ovr Z k11 "java/lang/Object") (E_a2 : Exa Z h0 a2 "com/example/feedergen/feedergen/core/StopCandidate") (g_a5 : n0 ≤ a5) (E_a5 : Exa Z h0 a5 "[Ljava/lang/Object;") :
    OwnMet l Z y_9 jdk_38_method_25_code 2 (some .boolean) ws Rm12 #[(.ref a1), (.ref a2)] h0 (Q12 Z a1 a2 a5 k11 h0 n0) := by
  refine own_body (plainFor_of_name pn_4) (ef12 a1 a2) ?_
  intro p e s m below meth c s₁ hx hby hml hown hnm hret hZ X0 e0
  have N0 := Fr.nil n0
  obtain ⟨T3, X3, e3, st3⟩ := getF X0 hx hZ hown (host := "") (Or.inl (w_50 hw)) (Via.of (w_51 hw)) e0 F_modCount_a1 (g := (mkF m 2 #[.val (.ref a1), .val (.ref a2)] [(.ref a1), (.ref a1)])) rfl rfl (hb hby d7_2)
  obtain ⟨T4, h4, X4, e4, W4, st4⟩ := putF X3 hx hZ hown (host := "") (Or.inl (w_50 hw)) (Via.of (w_51 hw)) e3 F_modCount_a1 E_a1 (Or.inl (w_41 hw)) (w_22 hw) (ty := .int) (by decide) rfl rfl (g := (mkF m 7 #[.val (.ref a1), .val (.ref a2)] [(.int (2 : Int32)), (.ref a1)])) rfl rfl (hb hby d7_7)
  have s0 := (Keep.of_wr W4).1
  have N4 := Fr.snoc X4 N0 g_a1
  have Fw4 : Fld Z h4 a1 "java/util/AbstractList" "modCount" "I" (.int (2 : Int32)) := F_modCount_a1.same W4
  have Ex6 := (E_a1.wr W4)
  have Fl7 := (F_elementData_a1.other W4 (Or.inr (slot_ne (Or.inl (w_44 hw)) (Or.inl (w_41 hw)) (by decide) (t := (.array (.object "java/lang/Object"))) (t' := .int) (by decide) (by decide))))
  obtain ⟨T8, X8, e8, st8⟩ := getF X4 hx hZ hown (host := "") (Or.inl (w_43 hw)) Via.refl e4 Fl7 (g := (mkF m 13 #[.val (.ref a1), .val (.ref a2)] [(.ref a1), (.ref a2), (.ref a1)])) rfl rfl (hb hby d7_13)
  have Fl9 := (F_size_a1.other W4 (Or.inr (slot_ne (Or.inl (w_53 hw)) (Or.inl (w_41 hw)) (by decide) (t := .int) (t' := .int) (by decide) (by decide))))
  obtain ⟨T10, X10, e10, st10⟩ := getF X8 hx hZ hown (host := "") (Or.inl (w_52 hw)) Via.refl e8 Fl9 (g := (mkF m 17 #[.val (.ref a1), .val (.ref a2)] [(.ref a1), (.ref a5), (.ref a2), (.ref a1)])) rfl rfl (hb hby d7_17)
  have Va12 := (V_a5.other W4 ne_a5_a1)
  have Ex13 := (E_a2.wr W4)
  have Ex14 := (E_a5.wr W4)
  have z1 := Nat.le_trans Z0 s0
  obtain ⟨_, T15, L15, X15, hQ15, st15⟩ := own_private X10 hx hZ hown (y := y_8) Ex6 (w_54 hw) (w_55 hw) (mvT hZ (w_57 hw)) (w_56 hw) (w_23 hw) (w_58 hw) (rm11 l Z a0 hw [] a1 a2 a5 k11 h4 n0 z1 Va12 O_k11 Ex13 g_a5 Fl9 (Ne.symm ne_a5_a1) Ex6 g_a1 Ex14 Fw4 Fl7) e10 (Ls := #[.val (.ref a1), .val (.ref a2)]) (by rw [hml]; rfl) (argsL := [(.ref a2), (.ref a5), (.int (1 : Int32))]) (rest := []) (lenOf pd_5 rfl) (hb hby d7_20) (W := 0)
  obtain ⟨rfl, Nq15, K15, o15_0, o15_1, o15_2, o15_3, o15_4, o15_5⟩ := hQ15
  have N15 := Fr.app N4 Nq15
  have s1 := K15.1
  have Kp0 : Keep h0 h4 [a1, a5] := (Keep.refl h0 [a1, a5]).wr W4 (Or.inl (List.mem_of_getElem? (i := 0) rfl))
  have Kp1 : Keep h0 T15.heap [a1, a5] := Kp0.trans K15 (allS (Or.inl (List.mem_of_getElem? (i := 1) rfl)) (allS (Or.inl (List.mem_of_getElem? (i := 0) rfl)) all0))
  refine ⟨T15, _, _, _, (some (.int (1 : Int32))), X15, nofun, by decide, by decide, ?_, fun fs hr => ?_⟩
  · show Q12 Z a1 a2 a5 k11 h0 n0 _ T15.heap _
    exact ⟨rfl, N15, Kp1, o15_2, o15_3, o15_4, o15_5, o15_0, o15_1⟩
  · show Steps p.tables e below (s₁.setTop (mkF m 0 #[.val (.ref a1), .val (.ref a2)] [])) _
    refine XS.aloadN X0.here hx rfl (hb hby d7_0) rfl rfl ?_
    refine XS.dup X0.here hx rfl (hb hby d7_1) rfl rfl ?_
    refine st3 _ ?_
    refine XS.iconst X3.here hx rfl (hb hby d7_5) ?_
    refine XS.iadd X3.here hx rfl (hb hby d7_6) rfl ?_
    refine st4 _ ?_
    refine XS.aloadN X4.here hx rfl (hb hby d7_10) rfl rfl ?_
    refine XS.aloadN X4.here hx rfl (hb hby d7_11) rfl rfl ?_
    refine XS.aloadN X4.here hx rfl (hb hby d7_12) rfl rfl ?_
    refine st8 _ ?_
    refine XS.aloadN X8.here hx rfl (hb hby d7_16) rfl rfl ?_
    refine st10 _ ?_
    show Steps p.tables e below (T10.setTop (mkF m 20 #[.val (.ref a1), .val (.ref a2)] [(.int (1 : Int32)), (.ref a5), (.ref a2), (.ref a1)])) _
    refine st15 _ ?_
    refine XS.iconst X15.here hx rfl (hb hby d7_23) ?_
    exact retN X15 hx (t := .boolean) hret (by simp) (hb hby d7_24) hr
theorem d12_0 : decode jdk_117_method_4_code 0 = .ok (.new 1, 3) := by decide +kernel
theorem w_80 {a0 : Array Value} {Z : State} (hw : ∀ d ∈ tables_1, d.before a0 Z = true) : Jvm.Cond.before (Jvm.Cond.classLink "java/lang/Double" (1 : Nat) "java/lang/Double") a0 Z = true := hw _ (List.mem_of_getElem? (i := 80) rfl)
theorem w_81 {a0 : Array Value} {Z : State} (hw : ∀ d ∈ tables_1, d.before a0 Z = true) : Jvm.Cond.before (Jvm.Cond.instantiable "java/lang/Double" (1 : Nat)) a0 Z = true := hw _ (List.mem_of_getElem? (i := 81) rfl)
theorem w_78 {a0 : Array Value} {Z : State} (hw : ∀ d ∈ tables_1, d.before a0 Z = true) : Jvm.Cond.before (Jvm.Cond.initialized "java/lang/Double") a0 Z = true := hw _ (List.mem_of_getElem? (i := 78) rfl)
theorem w_94 {a0 : Array Value} {Z : State} (hw : ∀ d ∈ tables_1, d.before a0 Z = true) : Jvm.Cond.before (Jvm.Cond.laysFinal "java/lang/Double" "java/lang/Double" "value" "D") a0 Z = true := hw _ (List.mem_of_getElem? (i := 94) rfl)
theorem d12_3 : decode jdk_117_method_4_code 3 = .ok (.dup, 1) := by decide +kernel
theorem d12_4 : decode jdk_117_method_4_code 4 = .ok (.dload_n 0, 1) := by decide +kernel
theorem d12_5 : decode jdk_117_method_4_code 5 = .ok (.invokespecial 105, 3) := by decide +kernel
theorem d13_0 : decode jdk_117_method_9_code 0 = .ok (.aload_n 0, 1) := by decide +kernel
theorem d13_1 : decode jdk_117_method_9_code 1 = .ok (.invokespecial 113, 3) := by decide +kernel
theorem d14_0 : decode jdk_18_method_1_code 0 = .ok (.aload_n 0, 1) := by decide +kernel
theorem d14_1 : decode jdk_18_method_1_code 1 = .ok (.invokespecial 1, 3) := by decide +kernel
theorem w_92 {a0 : Array Value} {Z : State} (hw : ∀ d ∈ tables_1, d.before a0 Z = true) : Jvm.Cond.before (Jvm.Cond.methodLink "java/lang/Number" (1 : Nat) ({ cls := "java/lang/Object", name := "<init>", desc := "()V" } : Jvm.MethodName)) a0 Z = true := hw _ (List.mem_of_getElem? (i := 92) rfl)
theorem d14_4 : decode jdk_18_method_1_code 4 = .ok (.return_, 1) := by decide +kernel
abbrev y_10 : MethodName := ⟨"java/lang/Number", "<init>", "()V"⟩
theorem pn_5 : plainName "java/lang/Number" = true := by first | (simp [plainName, overriddenIn]; done) | decide +kernel
-- java/lang/Number.<init>()V
abbrev Rm13 : Room := { frames := 1, cells := 0, slots := 0, locals := 12 }
def Q13 (Z : State) (a1 : Addr) (h0 : Heap) (n0 : Nat) (v : Option Value) (h : Heap) (L : List Loc) : Prop := v = none ∧ Fr n0 L ∧ h = h0
theorem ef13 (a1 : Addr) (m : MethodId) : entryFrame m #[(.ref a1)] 1 = mkF m 0 #[.val (.ref a1)] [] := by first | (simp [entryFrame, mkF, argsToLocals, Value.category]; done) | rfl
theorem rm13 (l : Launch) (Z : State) (a0 : Array Value) (hw : ∀ d ∈ tables_1, d.before a0 Z = true) (ws : List Jvm.Cond) (a1 : Addr) (h0 : Heap) (n0 : Nat) (Z0 : n0 ≤ h0.size) :
    OwnMet l Z y_10 jdk_18_method_1_code 1 none ws Rm13 #[(.ref a1)] h0 (Q13 Z a1 h0 n0) := by
  refine own_body (plainFor_of_name pn_5) (ef13 a1) ?_
  intro p e s m below meth c s₁ hx hby hml hown hnm hret hZ X0 e0
  have N0 := Fr.nil n0
  obtain ⟨T2, X2, e2, st2⟩ := initO X0 hx hZ hown (w_92 hw) (w_13 hw) (w_14 hw) e0 (g := (mkF m 1 #[.val (.ref a1)] [(.ref a1)])) rfl (by rw [hml]; rfl) rfl (hb hby d14_1) (by decide) (W := 0) (by show 2 * 0 + _ ≤ _; exact Nat.le_of_eq rfl) (by decide)
  refine ⟨T2, _, _, _, none, X2, (fun _ => rfl), by decide, by decide, ?_, fun fs hr => ?_⟩
  · show Q13 Z a1 h0 n0 _ T2.heap _
    rw [e2]
    exact ⟨rfl, N0, rfl⟩
  · show Steps p.tables e below (s₁.setTop (mkF m 0 #[.val (.ref a1)] [])) _
    refine XS.aloadN X0.here hx rfl (hb hby d14_0) rfl rfl ?_
    refine st2 _ ?_
    exact X2.returnOut hx hret (hb hby d14_4) hr
theorem w_90 {a0 : Array Value} {Z : State} (hw : ∀ d ∈ tables_1, d.before a0 Z = true) : Jvm.Cond.before (Jvm.Cond.initialized "java/lang/Number") a0 Z = true := hw _ (List.mem_of_getElem? (i := 90) rfl)
theorem w_91 {a0 : Array Value} {Z : State} (hw : ∀ d ∈ tables_1, d.before a0 Z = true) : Jvm.Cond.before (Jvm.Cond.code ({ cls := "java/lang/Number", name := "<init>", desc := "()V" } : Jvm.MethodName) jdk_18_method_1_code (1 : Nat) (Option.none : Option Jvm.ClassFile.FieldType)) a0 Z = true := hw _ (List.mem_of_getElem? (i := 91) rfl)
theorem w_86 {a0 : Array Value} {Z : State} (hw : ∀ d ∈ tables_1, d.before a0 Z = true) : Jvm.Cond.before (Jvm.Cond.methodLink "java/lang/Double" (113 : Nat) ({ cls := "java/lang/Number", name := "<init>", desc := "()V" } : Jvm.MethodName)) a0 Z = true := hw _ (List.mem_of_getElem? (i := 86) rfl)
theorem w_87 {a0 : Array Value} {Z : State} (hw : ∀ d ∈ tables_1, d.before a0 Z = true) : Jvm.Cond.before (Jvm.Cond.instanceMethod ({ cls := "java/lang/Number", name := "<init>", desc := "()V" } : Jvm.MethodName)) a0 Z = true := hw _ (List.mem_of_getElem? (i := 87) rfl)
theorem d13_4 : decode jdk_117_method_9_code 4 = .ok (.aload_n 0, 1) := by decide +kernel
theorem d13_5 : decode jdk_117_method_9_code 5 = .ok (.dload_n 1, 1) := by decide +kernel
theorem d13_6 : decode jdk_117_method_9_code 6 = .ok (.putfield 118, 3) := by decide +kernel
theorem w_93 {a0 : Array Value} {Z : State} (hw : ∀ d ∈ tables_1, d.before a0 Z = true) : Jvm.Cond.before (Jvm.Cond.fieldLink "java/lang/Double" (118 : Nat) "java/lang/Double" "value" "D") a0 Z = true := hw _ (List.mem_of_getElem? (i := 93) rfl)
theorem d13_9 : decode jdk_117_method_9_code 9 = .ok (.return_, 1) := by decide +kernel
abbrev y_11 : MethodName := ⟨"java/lang/Double", "<init>", "(D)V"⟩
theorem pn_6 : plainName "java/lang/Double" = true := by first | (simp [plainName, overriddenIn]; done) | decide +kernel
-- java/lang/Double.<init>(D)V
abbrev Rm14 : Room := { frames := 2, cells := 0, slots := 0, locals := 24 }
def Q14 (Z : State) (a1 : Addr) (d2 : UInt64) (h0 : Heap) (n0 : Nat) (v : Option Value) (h : Heap) (L : List Loc) : Prop := v = none ∧ Fr n0 L ∧ Keep h0 h [a1] ∧ Exa Z h a1 "java/lang/Double" ∧ Fld Z h a1 "java/lang/Double" "value" "D" (.double d2)
theorem ef14 (a1 : Addr) (d2 : UInt64) (m : MethodId) : entryFrame m #[(.ref a1), (.double d2)] 3 = mkF m 0 #[.val (.ref a1), .val (.double d2), .second] [] := by first | (simp [entryFrame, mkF, argsToLocals, Value.category]; done) | rfl
theorem rm14 (l : Launch) (Z : State) (a0 : Array Value) (hw : ∀ d ∈ tables_1, d.before a0 Z = true) (ws : List Jvm.Cond) (a1 : Addr) (d2 : UInt64) (h0 : Heap) (n0 : Nat) (Z0 : n0 ≤ h0.size) (F_value_a1 : Fld Z h0 a1 "java/lang/Double" "value" "D" (.double (0 : UInt64))) (E_a1 : Exa Z h0 a1 "java/lang/Double") (g_a1 : n0 ≤ a1) :
    OwnMet l Z y_11 jdk_117_method_9_code 3 none ws Rm14 #[(.ref a1), (.double d2)] h0 (Q14 Z a1 d2 h0 n0) := by
  refine own_body (plainFor_of_name pn_6) (ef14 a1 d2) ?_
  intro p e s m below meth c s₁ hx hby hml hown hnm hret hZ X0 e0
  have N0 := Fr.nil n0
  obtain ⟨_, T3, L3, X3, hQ3, st3⟩ := own_special X0 hx hZ hown (y := y_10) (a := a1) (w_86 hw) (w_87 hw) (w_90 hw) (w_91 hw) (rm13 l Z a0 hw [] a1 h0 n0 Z0) e0 (Ls := #[.val (.ref a1), .val (.double d2), .second]) (by rw [hml]; rfl) (argsL := []) (rest := []) (lenOf pd_0 rfl) (hb hby d13_1) (W := 0)
  obtain ⟨rfl, Nq3, e3⟩ := hQ3
  have N3 := Fr.app N0 Nq3
  obtain ⟨T4, h4, X4, e4, W4, st4⟩ := putF X3 hx hZ hown (host := "") (Or.inl (w_93 hw)) Via.refl e3 F_value_a1 E_a1 (Or.inr ⟨(w_94 hw), rfl, hnm⟩) (w_81 hw) (ty := .double) (by decide) rfl rfl (g := (mkF m 6 #[.val (.ref a1), .val (.double d2), .second] [(.double d2), (.ref a1)])) rfl rfl (hb hby d13_6)
  have s0 := (Keep.of_wr W4).1
  have N4 := Fr.snoc X4 N3 g_a1
  have Fw4 : Fld Z h4 a1 "java/lang/Double" "value" "D" (.double d2) := F_value_a1.same W4
  have Ex5 := (E_a1.wr W4)
  have Kp0 : Keep h0 h4 [a1] := (Keep.refl h0 [a1]).wr W4 (Or.inl (List.mem_of_getElem? (i := 0) rfl))
  refine ⟨T4, _, _, _, none, X4, (fun _ => rfl), by decide, by decide, ?_, fun fs hr => ?_⟩
  · show Q14 Z a1 d2 h0 n0 _ T4.heap _
    rw [e4]
    exact ⟨rfl, N4, Kp0, Ex5, Fw4⟩
  · show Steps p.tables e below (s₁.setTop (mkF m 0 #[.val (.ref a1), .val (.double d2), .second] [])) _
    refine XS.aloadN X0.here hx rfl (hb hby d13_0) rfl rfl ?_
    refine st3 _ ?_
    refine XS.aloadN X3.here hx rfl (hb hby d13_4) rfl rfl ?_
    refine XS.dloadN X3.here hx rfl (hb hby d13_5) rfl ?_
    refine st4 _ ?_
    exact X4.returnOut hx hret (hb hby d13_9) hr
theorem pd_7 : parseMethodDescriptor "(D)V" = some ⟨[.double], none⟩ := by decide +kernel
theorem w_85 {a0 : Array Value} {Z : State} (hw : ∀ d ∈ tables_1, d.before a0 Z = true) : Jvm.Cond.before (Jvm.Cond.code ({ cls := "java/lang/Double", name := "<init>", desc := "(D)V" } : Jvm.MethodName) jdk_117_method_9_code (3 : Nat) (Option.none : Option Jvm.ClassFile.FieldType)) a0 Z = true := hw _ (List.mem_of_getElem? (i := 85) rfl)
theorem w_82 {a0 : Array Value} {Z : State} (hw : ∀ d ∈ tables_1, d.before a0 Z = true) : Jvm.Cond.before (Jvm.Cond.methodLink "java/lang/Double" (105 : Nat) ({ cls := "java/lang/Double", name := "<init>", desc := "(D)V" } : Jvm.MethodName)) a0 Z = true := hw _ (List.mem_of_getElem? (i := 82) rfl)
theorem w_83 {a0 : Array Value} {Z : State} (hw : ∀ d ∈ tables_1, d.before a0 Z = true) : Jvm.Cond.before (Jvm.Cond.instanceMethod ({ cls := "java/lang/Double", name := "<init>", desc := "(D)V" } : Jvm.MethodName)) a0 Z = true := hw _ (List.mem_of_getElem? (i := 83) rfl)
theorem d12_8 : decode jdk_117_method_4_code 8 = .ok (.areturn, 1) := by decide +kernel
abbrev y_12 : MethodName := ⟨"java/lang/Double", "valueOf", "(D)Ljava/lang/Double;"⟩
-- java/lang/Double.valueOf(D)Ljava/lang/Double;
abbrev Rm15 : Room := { frames := 3, cells := 1, slots := 1, locals := 39 }
def Q15 (Z : State) (d1 : UInt64) (h0 : Heap) (n0 : Nat) (v : Option Value) (h : Heap) (L : List Loc) : Prop := ∃ b2 : Addr, v = some (.ref b2) ∧ Fr n0 L ∧ Keep h0 h [] ∧ h0.size ≤ b2 ∧ Exa Z h b2 "java/lang/Double" ∧ Fld Z h b2 "java/lang/Double" "value" "D" (.double d1)
theorem ef15 (d1 : UInt64) (m : MethodId) : entryFrame m #[(.double d1)] 2 = mkF m 0 #[.val (.double d1), .second] [] := by first | (simp [entryFrame, mkF, argsToLocals, Value.category]; done) | rfl
theorem rm15 (l : Launch) (Z : State) (a0 : Array Value) (hw : ∀ d ∈ tables_1, d.before a0 Z = true) (ws : List Jvm.Cond) (d1 : UInt64) (h0 : Heap) (n0 : Nat) (Z0 : n0 ≤ h0.size) :
    OwnMet l Z y_12 jdk_117_method_4_code 2 (some (.object "java/lang/Double")) ws Rm15 #[(.double d1)] h0 (Q15 Z d1 h0 n0) := by
  refine own_body (plainFor_of_name pn_6) (ef15 d1) ?_
  intro p e s m below meth c s₁ hx hby hml hown hnm hret hZ X0 e0
  have N0 := Fr.nil n0
  obtain ⟨T2, h2, X2, e2, E2, A2, D2, -, st2⟩ := newO X0 hx hZ hown (w_80 hw) (w_81 hw) (w_78 hw) e0 (g := (mkF m 0 #[.val (.double d1), .second] [])) rfl (hb hby d12_0) (by decide) (by decide)
  obtain ⟨b2, g2⟩ : ∃ z, z = h0.size := ⟨_, rfl⟩
  rw [← g2] at A2 D2 st2
  have s0 := E2.1
  have Fn2_value : Fld Z h2 b2 "java/lang/Double" "value" "D" (.double (0 : UInt64)) := D2 (Or.inr (w_94 hw)) (ty := .double) (by decide)
  have g_b2 : n0 ≤ b2 := Nat.le_trans Z0 (Nat.le_of_eq g2.symm)
  have z1 := Nat.le_trans Z0 s0
  obtain ⟨_, T3, L3, X3, hQ3, st3⟩ := own_special X2 hx hZ hown (y := y_11) (a := b2) (w_82 hw) (w_83 hw) (w_78 hw) (w_85 hw) (rm14 l Z a0 hw [] b2 d1 h2 n0 z1 Fn2_value A2 g_b2) e2 (Ls := #[.val (.double d1), .second]) (by rw [hml]; rfl) (argsL := [(.double d1)]) (rest := [(.ref b2)]) (lenOf pd_7 rfl) (hb hby d12_5) (W := 1)
  obtain ⟨rfl, Nq3, K3, o3_0, o3_1⟩ := hQ3
  have N3 := Fr.app N0 Nq3
  have s1 := K3.1
  have sz_b2 : h0.size ≤ b2 := (Nat.le_of_eq g2.symm)
  have Kp0 : Keep h0 h2 [] := (Keep.refl h0 []).ext E2
  have Kp1 : Keep h0 T3.heap [] := Kp0.trans K3 (allS (Or.inr sz_b2) all0)
  refine ⟨T3, _, _, _, (some (.ref b2)), X3, nofun, by decide, by decide, ?_, fun fs hr => ?_⟩
  · show Q15 Z d1 h0 n0 _ T3.heap _
    exact ⟨b2, rfl, N3, Kp1, sz_b2, o3_0, o3_1⟩
  · show Steps p.tables e below (s₁.setTop (mkF m 0 #[.val (.double d1), .second] [])) _
    refine st2 _ ?_
    refine XS.dup X2.here hx rfl (hb hby d12_3) rfl rfl ?_
    refine XS.dloadN X2.here hx rfl (hb hby d12_4) rfl ?_
    refine st3 _ ?_
    exact retOut X3 hx hret rfl (Or.inr (Or.inr (Or.inr (Or.inr ⟨rfl, rfl, rfl⟩)))) (hb hby d12_8) hr
theorem pd_8 : parseMethodDescriptor "(D)Ljava/lang/Double;" = some ⟨[.double], some (.object "java/lang/Double")⟩ := by decide +kernel
theorem w_79 {a0 : Array Value} {Z : State} (hw : ∀ d ∈ tables_1, d.before a0 Z = true) : Jvm.Cond.before (Jvm.Cond.code ({ cls := "java/lang/Double", name := "valueOf", desc := "(D)Ljava/lang/Double;" } : Jvm.MethodName) jdk_117_method_4_code (2 : Nat) (Option.some (Jvm.ClassFile.FieldType.object "java/lang/Double"))) a0 Z = true := hw _ (List.mem_of_getElem? (i := 79) rfl)
theorem w_76 {a0 : Array Value} {Z : State} (hw : ∀ d ∈ tables_1, d.before a0 Z = true) : Jvm.Cond.before (Jvm.Cond.methodLink "com/example/feedergen/feedergen/core/DrivenLineLengthForwardPinLaw" (20 : Nat) ({ cls := "java/lang/Double", name := "valueOf", desc := "(D)Ljava/lang/Double;" } : Jvm.MethodName)) a0 Z = true := hw _ (List.mem_of_getElem? (i := 76) rfl)
theorem w_77 {a0 : Array Value} {Z : State} (hw : ∀ d ∈ tables_1, d.before a0 Z = true) : Jvm.Cond.before (Jvm.Cond.static ({ cls := "java/lang/Double", name := "valueOf", desc := "(D)Ljava/lang/Double;" } : Jvm.MethodName)) a0 Z = true := hw _ (List.mem_of_getElem? (i := 77) rfl)
theorem w_95 {a0 : Array Value} {Z : State} (hw : ∀ d ∈ tables_1, d.before a0 Z = true) : Jvm.Cond.before (Jvm.Cond.castable "java/lang/Double" "java/lang/Object") a0 Z = true := hw _ (List.mem_of_getElem? (i := 95) rfl)
-- java/util/ArrayList.add(Ljava/lang/Object;[Ljava/lang/Object;I)V
abbrev Rm16 : Room := { frames := 3, cells := 1, slots := 10, locals := 41 }
def Q16 (Z : State) (a1 : Addr) (a2 : Addr) (a3 : Addr) (k4 : ClassId) (h0 : Heap) (n0 : Nat) (v : Option Value) (h : Heap) (L : List Loc) : Prop := ∃ b6_b5_b9 : Addr, ∃ k6_k5_k9 : ClassId, v = none ∧ Fr n0 L ∧ Keep h0 h [a1] ∧ Exa Z h a1 "java/util/ArrayList" ∧ Fld Z h a1 "java/util/AbstractList" "modCount" "I" (.int (1 : Int32)) ∧ Fld Z h a1 "java/util/ArrayList" "elementData" "[Ljava/lang/Object;" (.ref b6_b5_b9) ∧ Fld Z h a1 "java/util/ArrayList" "size" "I" (.int (1 : Int32)) ∧ h0.size ≤ b6_b5_b9 ∧ Exa Z h b6_b5_b9 "[Ljava/lang/Object;" ∧ Ovr Z k6_k5_k9 "java/lang/Object" ∧ Arv Z h b6_b5_b9 k6_k5_k9 (.object "java/lang/Object") (10 : Int32) [(.ref a2), .null, .null, .null, .null, .null, .null, .null, .null, .null] .null
theorem ef16 (a1 : Addr) (a2 : Addr) (a3 : Addr) (m : MethodId) : entryFrame m #[(.ref a1), (.ref a2), (.ref a3), (.int (0 : Int32))] 4 = mkF m 0 #[.val (.ref a1), .val (.ref a2), .val (.ref a3), .val (.int (0 : Int32))] [] := by first | (simp [entryFrame, mkF, argsToLocals, Value.category]; done) | rfl
theorem rm16 (l : Launch) (Z : State) (a0 : Array Value) (hw : ∀ d ∈ tables_1, d.before a0 Z = true) (ws : List Jvm.Cond) (a1 : Addr) (a2 : Addr) (a3 : Addr) (k4 : ClassId) (h0 : Heap) (n0 : Nat) (Z0 : n0 ≤ h0.size) (V_a3 : Arv Z h0 a3 k4 (.object "java/lang/Object") (0 : Int32) [] .null) (F_size_a1 : Fld Z h0 a1 "java/util/ArrayList" "size" "I" (.int (0 : Int32))) (F_elementData_a1 : Fld Z h0 a1 "java/util/ArrayList" "elementData" "[Ljava/lang/Object;" (.ref a3)) (S_DEFAULTCAPACITY_EMPTY_ELEMENTDATA : Sta Z Z.heap "java/util/ArrayList" "DEFAULTCAPACITY_EMPTY_ELEMENTDATA" "[Ljava/lang/Object;" (.ref a3)) (Od0 : Old Z n0 h0) (E_a1 : Exa Z h0 a1 "java/util/ArrayList") (g_a1 : n0 ≤ a1) (F_modCount_a1 : Fld Z h0 a1 "java/util/AbstractList" "modCount" "I" (.int (1 : Int32))) (E_a2 : Exa Z h0 a2 "java/lang/Double") :
    OwnMet l Z y_8 jdk_38_method_24_code 4 none ws Rm16 #[(.ref a1), (.ref a2), (.ref a3), (.int (0 : Int32))] h0 (Q16 Z a1 a2 a3 k4 h0 n0) := by
  refine own_body (plainFor_of_name pn_4) (ef16 a1 a2 a3) ?_
  intro p e s m below meth c s₁ hx hby hml hown hnm hret hZ X0 e0
  have N0 := Fr.nil n0
  obtain ⟨cl5, Ar5, q5, S5, M5, Hs5, G5⟩ := id V_a3
  obtain ⟨_, T6, L6, X6, hQ6, st6⟩ := own_private X0 hx hZ hown (y := y_7) E_a1 (w_59 hw) (w_60 hw) (mvT hZ (w_62 hw)) (w_61 hw) (w_23 hw) (w_63 hw) (rm8 l Z a0 hw [] a1 a3 k4 h0 n0 Z0 F_size_a1 F_elementData_a1 V_a3 S_DEFAULTCAPACITY_EMPTY_ELEMENTDATA Od0 E_a1 g_a1 F_modCount_a1) e0 (Ls := #[.val (.ref a1), .val (.ref a2), .val (.ref a3), .val (.int (0 : Int32))]) (by rw [hml]; rfl) (argsL := []) (rest := []) (lenOf pd_4 rfl) (hb hby d8_7) (W := 0)
  obtain ⟨b6_b5_b9, k6_k5_k9, rfl, Nq6, K6, o6_0, o6_1, o6_2, o6_3, o6_4, o6_5, o6_6, o6_7⟩ := hQ6
  have N6 := Fr.app N0 Nq6
  have s0 := K6.1
  obtain ⟨cl7, Ar7, q7, S7, M7, Hs7, G7⟩ := id o6_7
  have hin8 : ¬ ((0 : Int32) < 0 ∨ cl7.slots.size ≤ ((0 : Int32)).toNatClampNeg) := inb_of S7 ⟨(by decide : ¬ ((0 : Int32) < (0 : Int32))), (by decide : (0 : Int32) < (10 : Int32))⟩
  have Ex9 := (E_a2.keep K6)
  obtain ⟨T10, h10, X10, e10, W10, st10⟩ := stR X6 hx hZ rfl Ar7 (j := (0 : Int32)) hin8 rfl (Sto.ofV Ar7 q7 o6_6 (Ins.of_exa Ex9 (w_95 hw))) (g := (mkF m 14 #[.val (.ref a1), .val (.ref a2), .val (.ref b6_b5_b9), .val (.int (0 : Int32))] [(.ref a2), (.int (0 : Int32)), (.ref b6_b5_b9)])) rfl rfl (hb hby d8_14)
  have s1 := (Keep.of_wr W10).1
  have g_b6_b5_b9 : n0 ≤ b6_b5_b9 := Nat.le_trans Z0 o6_4
  have N10 := Fr.snoc X10 N6 g_b6_b5_b9
  have Vs10 : Arv Z h10 b6_b5_b9 k6_k5_k9 (.object "java/lang/Object") (10 : Int32) [(.ref a2), .null, .null, .null, .null, .null, .null, .null, .null, .null] .null := Arv.set Ar7 q7 S7 M7 Hs7 G7 rfl W10 0 rfl (Nat.le_of_ble_eq_true rfl)
  have ne_a1_b6_b5_b9 := Nat.ne_of_lt (Nat.lt_of_lt_of_le F_size_a1.lt o6_4)
  have Fl11 := (o6_3.other W10 (Or.inl ne_a1_b6_b5_b9))
  have Ex12 := (o6_0.wr W10)
  obtain ⟨T13, h13, X13, e13, W13, st13⟩ := putF X10 hx hZ hown (host := "") (Or.inl (w_52 hw)) Via.refl e10 Fl11 Ex12 (Or.inl (w_53 hw)) (w_22 hw) (ty := .int) (by decide) rfl rfl (g := (mkF m 19 #[.val (.ref a1), .val (.ref a2), .val (.ref b6_b5_b9), .val (.int (0 : Int32))] [(.int (1 : Int32)), (.ref a1)])) rfl rfl (hb hby d8_19)
  have s2 := (Keep.of_wr W13).1
  have N13 := Fr.snoc X13 N10 g_a1
  have Fw13 : Fld Z h13 a1 "java/util/ArrayList" "size" "I" (.int (1 : Int32)) := Fl11.same W13
  have Ex14 := (Ex12.wr W13)
  have Fl15 := ((o6_1.other W10 (Or.inl ne_a1_b6_b5_b9)).other W13 (Or.inr (slot_ne (Or.inl (w_41 hw)) (Or.inl (w_53 hw)) (by decide) (t := .int) (t' := .int) (by decide) (by decide))))
  have Fl16 := ((o6_2.other W10 (Or.inl ne_a1_b6_b5_b9)).other W13 (Or.inr (slot_ne (Or.inl (w_44 hw)) (Or.inl (w_53 hw)) (by decide) (t := (.array (.object "java/lang/Object"))) (t' := .int) (by decide) (by decide))))
  have sz_b6_b5_b9 : h0.size ≤ b6_b5_b9 := o6_4
  have Ex17 := ((o6_5.wr W10).wr W13)
  have Va18 := (Vs10.other W13 (Ne.symm ne_a1_b6_b5_b9))
  have Kp0 : Keep h0 T6.heap [a1] := (Keep.refl h0 [a1]).trans K6 (allS (Or.inl (List.mem_of_getElem? (i := 0) rfl)) all0)
  have Kp1 : Keep h0 h10 [a1] := Kp0.wr W10 (Or.inr sz_b6_b5_b9)
  have Kp2 : Keep h0 h13 [a1] := Kp1.wr W13 (Or.inl (List.mem_of_getElem? (i := 0) rfl))
  refine ⟨T13, _, _, _, none, X13, (fun _ => rfl), by decide, by decide, ?_, fun fs hr => ?_⟩
  · show Q16 Z a1 a2 a3 k4 h0 n0 _ T13.heap _
    rw [e13]
    exact ⟨b6_b5_b9, k6_k5_k9, rfl, N13, Kp2, Ex14, Fl15, Fl16, Fw13, sz_b6_b5_b9, Ex17, o6_6, Va18⟩
  · show Steps p.tables e below (s₁.setTop (mkF m 0 #[.val (.ref a1), .val (.ref a2), .val (.ref a3), .val (.int (0 : Int32))] [])) _
    refine XS.iloadN X0.here hx rfl (hb hby d8_0) rfl ?_
    refine XS.aloadN X0.here hx rfl (hb hby d8_1) rfl rfl ?_
    refine X0.arraylength hx (by rw [e0]; exact Ar5.1) (State.isArrayOf_alike hZ.alike Ar5.2.1) (g := (mkF m 2 #[.val (.ref a1), .val (.ref a2), .val (.ref a3), .val (.int (0 : Int32))] [(.ref a3), (.int (0 : Int32))])) rfl rfl (hb hby d8_2) _ ?_
    show Steps p.tables e below (s₁.setTop (mkF m 3 #[.val (.ref a1), .val (.ref a2), .val (.ref a3), .val (.int (0 : Int32))] [(.int cl5.slots.size.toInt32), (.int (0 : Int32))])) _
    rw [len_of S5 M5]
    refine XS.icmpNo X0.here hx rfl (hb hby d8_3) rfl (teq ((by decide : (0 : Int32) = (0 : Int32)) : (0 : Int32) = (0 : Int32))).2 ?_
    refine XS.aloadN X0.here hx rfl (hb hby d8_6) rfl rfl ?_
    refine st6 _ ?_
    refine XS.astoreN X6.here hx rfl (hb hby d8_10) rfl rfl (l' := #[.val (.ref a1), .val (.ref a2), .val (.ref b6_b5_b9), .val (.int (0 : Int32))]) rfl ?_
    refine XS.aloadN X6.here hx rfl (hb hby d8_11) rfl rfl ?_
    refine XS.iloadN X6.here hx rfl (hb hby d8_12) rfl ?_
    refine XS.aloadN X6.here hx rfl (hb hby d8_13) rfl rfl ?_
    refine st10 _ ?_
    refine XS.aloadN X10.here hx rfl (hb hby d8_15) rfl rfl ?_
    refine XS.iloadN X10.here hx rfl (hb hby d8_16) rfl ?_
    refine XS.iconst X10.here hx rfl (hb hby d8_17) ?_
    show Steps p.tables e below (T10.setTop (mkF m 18 #[.val (.ref a1), .val (.ref a2), .val (.ref b6_b5_b9), .val (.int (0 : Int32))] [(.int (1 : Int32)), (.int (0 : Int32)), (.ref a1)])) _
    refine XS.iadd X10.here hx rfl (hb hby d8_18) rfl ?_
    refine st13 _ ?_
    exact X13.returnOut hx hret (hb hby d8_22) hr
-- java/util/ArrayList.add(Ljava/lang/Object;)Z
abbrev Rm17 : Room := { frames := 4, cells := 1, slots := 10, locals := 56 }
def Q17 (Z : State) (a1 : Addr) (a2 : Addr) (a5 : Addr) (k11 : ClassId) (h0 : Heap) (n0 : Nat) (v : Option Value) (h : Heap) (L : List Loc) : Prop := ∃ b14_b6_b5_b9 : Addr, ∃ k14_k6_k5_k9 : ClassId, v = some (.int (1 : Int32)) ∧ Fr n0 L ∧ Keep h0 h [a1] ∧ Exa Z h a1 "java/util/ArrayList" ∧ Fld Z h a1 "java/util/AbstractList" "modCount" "I" (.int (1 : Int32)) ∧ Fld Z h a1 "java/util/ArrayList" "elementData" "[Ljava/lang/Object;" (.ref b14_b6_b5_b9) ∧ Fld Z h a1 "java/util/ArrayList" "size" "I" (.int (1 : Int32)) ∧ h0.size ≤ b14_b6_b5_b9 ∧ Exa Z h b14_b6_b5_b9 "[Ljava/lang/Object;" ∧ Ovr Z k14_k6_k5_k9 "java/lang/Object" ∧ Arv Z h b14_b6_b5_b9 k14_k6_k5_k9 (.object "java/lang/Object") (10 : Int32) [(.ref a2), .null, .null, .null, .null, .null, .null, .null, .null, .null] .null
theorem ef17 (a1 : Addr) (a2 : Addr) (m : MethodId) : entryFrame m #[(.ref a1), (.ref a2)] 2 = mkF m 0 #[.val (.ref a1), .val (.ref a2)] [] := by first | (simp [entryFrame, mkF, argsToLocals, Value.category]; done) | rfl
theorem rm17 (l : Launch) (Z : State) (a0 : Array Value) (hw : ∀ d ∈ tables_1, d.before a0 Z = true) (ws : List Jvm.Cond) (a1 : Addr) (a2 : Addr) (a5 : Addr) (k11 : ClassId) (h0 : Heap) (n0 : Nat) (Z0 : n0 ≤ h0.size) (F_modCount_a1 : Fld Z h0 a1 "java/util/AbstractList" "modCount" "I" (.int (0 : Int32))) (E_a1 : Exa Z h0 a1 "java/util/ArrayList") (g_a1 : n0 ≤ a1) (F_elementData_a1 : Fld Z h0 a1 "java/util/ArrayList" "elementData" "[Ljava/lang/Object;" (.ref a5)) (F_size_a1 : Fld Z h0 a1 "java/util/ArrayList" "size" "I" (.int (0 : Int32))) (V_a5 : Arv Z h0 a5 k11 (.object "java/lang/Object") (0 : Int32) [] .null) (ne_a5_a1 : a5 ≠ a1) (S_DEFAULTCAPACITY_EMPTY_ELEMENTDATA : Sta Z Z.heap "java/util/ArrayList" "DEFAULTCAPACITY_EMPTY_ELEMENTDATA" "[Ljava/lang/Object;" (.ref a5)) (Od0 : Old Z n0 h0) (E_a2 : Exa Z h0 a2 "java/lang/Double") :
    OwnMet l Z y_9 jdk_38_method_25_code 2 (some .boolean) ws Rm17 #[(.ref a1), (.ref a2)] h0 (Q17 Z a1 a2 a5 k11 h0 n0) := by
  refine own_body (plainFor_of_name pn_4) (ef17 a1 a2) ?_
  intro p e s m below meth c s₁ hx hby hml hown hnm hret hZ X0 e0
  have N0 := Fr.nil n0
  obtain ⟨T3, X3, e3, st3⟩ := getF X0 hx hZ hown (host := "") (Or.inl (w_50 hw)) (Via.of (w_51 hw)) e0 F_modCount_a1 (g := (mkF m 2 #[.val (.ref a1), .val (.ref a2)] [(.ref a1), (.ref a1)])) rfl rfl (hb hby d7_2)
  obtain ⟨T4, h4, X4, e4, W4, st4⟩ := putF X3 hx hZ hown (host := "") (Or.inl (w_50 hw)) (Via.of (w_51 hw)) e3 F_modCount_a1 E_a1 (Or.inl (w_41 hw)) (w_22 hw) (ty := .int) (by decide) rfl rfl (g := (mkF m 7 #[.val (.ref a1), .val (.ref a2)] [(.int (1 : Int32)), (.ref a1)])) rfl rfl (hb hby d7_7)
  have s0 := (Keep.of_wr W4).1
  have N4 := Fr.snoc X4 N0 g_a1
  have Fw4 : Fld Z h4 a1 "java/util/AbstractList" "modCount" "I" (.int (1 : Int32)) := F_modCount_a1.same W4
  have Ex6 := (E_a1.wr W4)
  have Fl7 := (F_elementData_a1.other W4 (Or.inr (slot_ne (Or.inl (w_44 hw)) (Or.inl (w_41 hw)) (by decide) (t := (.array (.object "java/lang/Object"))) (t' := .int) (by decide) (by decide))))
  obtain ⟨T8, X8, e8, st8⟩ := getF X4 hx hZ hown (host := "") (Or.inl (w_43 hw)) Via.refl e4 Fl7 (g := (mkF m 13 #[.val (.ref a1), .val (.ref a2)] [(.ref a1), (.ref a2), (.ref a1)])) rfl rfl (hb hby d7_13)
  have Fl9 := (F_size_a1.other W4 (Or.inr (slot_ne (Or.inl (w_53 hw)) (Or.inl (w_41 hw)) (by decide) (t := .int) (t' := .int) (by decide) (by decide))))
  obtain ⟨T10, X10, e10, st10⟩ := getF X8 hx hZ hown (host := "") (Or.inl (w_52 hw)) Via.refl e8 Fl9 (g := (mkF m 17 #[.val (.ref a1), .val (.ref a2)] [(.ref a1), (.ref a5), (.ref a2), (.ref a1)])) rfl rfl (hb hby d7_17)
  have Va12 := (V_a5.other W4 ne_a5_a1)
  have Od1 : Old Z n0 h4 := Od0.wr W4 g_a1
  have Ex13 := (E_a2.wr W4)
  have z1 := Nat.le_trans Z0 s0
  obtain ⟨_, T14, L14, X14, hQ14, st14⟩ := own_private X10 hx hZ hown (y := y_8) Ex6 (w_54 hw) (w_55 hw) (mvT hZ (w_57 hw)) (w_56 hw) (w_23 hw) (w_58 hw) (rm16 l Z a0 hw [] a1 a2 a5 k11 h4 n0 z1 Va12 Fl9 Fl7 S_DEFAULTCAPACITY_EMPTY_ELEMENTDATA Od1 Ex6 g_a1 Fw4 Ex13) e10 (Ls := #[.val (.ref a1), .val (.ref a2)]) (by rw [hml]; rfl) (argsL := [(.ref a2), (.ref a5), (.int (0 : Int32))]) (rest := []) (lenOf pd_5 rfl) (hb hby d7_20) (W := 0)
  obtain ⟨b14_b6_b5_b9, k14_k6_k5_k9, rfl, Nq14, K14, o14_0, o14_1, o14_2, o14_3, o14_4, o14_5, o14_6, o14_7⟩ := hQ14
  have N14 := Fr.app N4 Nq14
  have s1 := K14.1
  have sz_b14_b6_b5_b9 : h0.size ≤ b14_b6_b5_b9 := Nat.le_trans s0 o14_4
  have Kp0 : Keep h0 h4 [a1] := (Keep.refl h0 [a1]).wr W4 (Or.inl (List.mem_of_getElem? (i := 0) rfl))
  have Kp1 : Keep h0 T14.heap [a1] := Kp0.trans K14 (allS (Or.inl (List.mem_of_getElem? (i := 0) rfl)) all0)
  refine ⟨T14, _, _, _, (some (.int (1 : Int32))), X14, nofun, by decide, by decide, ?_, fun fs hr => ?_⟩
  · show Q17 Z a1 a2 a5 k11 h0 n0 _ T14.heap _
    exact ⟨b14_b6_b5_b9, k14_k6_k5_k9, rfl, N14, Kp1, o14_0, o14_1, o14_2, o14_3, sz_b14_b6_b5_b9, o14_5, o14_6, o14_7⟩
  · show Steps p.tables e below (s₁.setTop (mkF m 0 #[.val (.ref a1), .val (.ref a2)] [])) _
    refine XS.aloadN X0.here hx rfl (hb hby d7_0) rfl rfl ?_
    refine XS.dup X0.here hx rfl (hb hby d7_1) rfl rfl ?_
    refine st3 _ ?_
    refine XS.iconst X3.here hx rfl (hb hby d7_5) ?_
    refine XS.iadd X3.here hx rfl (hb hby d7_6) rfl ?_
    refine st4 _ ?_
    refine XS.aloadN X4.here hx rfl (hb hby d7_10) rfl rfl ?_
    refine XS.aloadN X4.here hx rfl (hb hby d7_11) rfl rfl ?_
    refine XS.aloadN X4.here hx rfl (hb hby d7_12) rfl rfl ?_
    refine st8 _ ?_
    refine XS.aloadN X8.here hx rfl (hb hby d7_16) rfl rfl ?_
    refine st10 _ ?_
    show Steps p.tables e below (T10.setTop (mkF m 20 #[.val (.ref a1), .val (.ref a2)] [(.int (0 : Int32)), (.ref a5), (.ref a2), (.ref a1)])) _
    refine st14 _ ?_
    refine XS.iconst X14.here hx rfl (hb hby d7_23) ?_
    exact retN X14 hx (t := .boolean) hret (by simp) (hb hby d7_24) hr
-- java/util/ArrayList.add(Ljava/lang/Object;[Ljava/lang/Object;I)V
abbrev Rm18 : Room := { frames := 0, cells := 0, slots := 0, locals := 0 }
def Q18 (Z : State) (a1 : Addr) (a2 : Addr) (a3 : Addr) (a4 : Addr) (k5 : ClassId) (h0 : Heap) (n0 : Nat) (v : Option Value) (h : Heap) (L : List Loc) : Prop := v = none ∧ Fr n0 L ∧ Keep h0 h [a3, a1] ∧ Exa Z h a3 "[Ljava/lang/Object;" ∧ Arv Z h a3 k5 (.object "java/lang/Object") (10 : Int32) [(.ref a4), (.ref a2), .null, .null, .null, .null, .null, .null, .null, .null] .null ∧ Exa Z h a1 "java/util/ArrayList" ∧ Fld Z h a1 "java/util/AbstractList" "modCount" "I" (.int (2 : Int32)) ∧ Fld Z h a1 "java/util/ArrayList" "elementData" "[Ljava/lang/Object;" (.ref a3) ∧ Fld Z h a1 "java/util/ArrayList" "size" "I" (.int (2 : Int32))
theorem ef18 (a1 : Addr) (a2 : Addr) (a3 : Addr) (m : MethodId) : entryFrame m #[(.ref a1), (.ref a2), (.ref a3), (.int (1 : Int32))] 4 = mkF m 0 #[.val (.ref a1), .val (.ref a2), .val (.ref a3), .val (.int (1 : Int32))] [] := by first | (simp [entryFrame, mkF, argsToLocals, Value.category]; done) | rfl
theorem rm18 (l : Launch) (Z : State) (a0 : Array Value) (hw : ∀ d ∈ tables_1, d.before a0 Z = true) (ws : List Jvm.Cond) (a1 : Addr) (a2 : Addr) (a3 : Addr) (a4 : Addr) (k5 : ClassId) (h0 : Heap) (n0 : Nat) (Z0 : n0 ≤ h0.size) (V_a3 : Arv Z h0 a3 k5 (.object "java/lang/Object") (10 : Int32) [(.ref a4), .null, .null, .null, .null, .null, .null, .null, .null, .null] .null) (O_k5 : Ovr Z k5 "java/lang/Object") (E_a2 : Exa Z h0 a2 "java/lang/Double") (g_a3 : n0 ≤ a3) (F_size_a1 : Fld Z h0 a1 "java/util/ArrayList" "size" "I" (.int (1 : Int32))) (ne_a1_a3 : a1 ≠ a3) (E_a1 : Exa Z h0 a1 "java/util/ArrayList") (g_a1 : n0 ≤ a1) (E_a3 : Exa Z h0 a3 "[Ljava/lang/Object;") (F_modCount_a1 : Fld Z h0 a1 "java/util/AbstractList" "modCount" "I" (.int (2 : Int32))) (F_elementData_a1 : Fld Z h0 a1 "java/util/ArrayList" "elementData" "[Ljava/lang/Object;" (.ref a3)) :
    OwnMet l Z y_8 jdk_38_method_24_code 4 none ws Rm18 #[(.ref a1), (.ref a2), (.ref a3), (.int (1 : Int32))] h0 (Q18 Z a1 a2 a3 a4 k5 h0 n0) := by
  refine own_body (plainFor_of_name pn_4) (ef18 a1 a2 a3) ?_
  intro p e s m below meth c s₁ hx hby hml hown hnm hret hZ X0 e0
  have N0 := Fr.nil n0
  obtain ⟨cl6, Ar6, q6, S6, M6, Hs6, G6⟩ := id V_a3
  have hin7 : ¬ ((1 : Int32) < 0 ∨ cl6.slots.size ≤ ((1 : Int32)).toNatClampNeg) := inb_of S6 ⟨(by decide : ¬ ((1 : Int32) < (0 : Int32))), (by decide : (1 : Int32) < (10 : Int32))⟩
  obtain ⟨T8, h8, X8, e8, W8, st8⟩ := stR X0 hx hZ e0 Ar6 (j := (1 : Int32)) hin7 rfl (Sto.ofV Ar6 q6 O_k5 (Ins.of_exa E_a2 (w_95 hw))) (g := (mkF m 14 #[.val (.ref a1), .val (.ref a2), .val (.ref a3), .val (.int (1 : Int32))] [(.ref a2), (.int (1 : Int32)), (.ref a3)])) rfl rfl (hb hby d8_14)
  have s0 := (Keep.of_wr W8).1
  have N8 := Fr.snoc X8 N0 g_a3
  have Vs8 : Arv Z h8 a3 k5 (.object "java/lang/Object") (10 : Int32) [(.ref a4), (.ref a2), .null, .null, .null, .null, .null, .null, .null, .null] .null := Arv.set Ar6 q6 S6 M6 Hs6 G6 rfl W8 1 rfl (Nat.le_of_ble_eq_true rfl)
  have Fl9 := (F_size_a1.other W8 (Or.inl ne_a1_a3))
  have Ex10 := (E_a1.wr W8)
  obtain ⟨T11, h11, X11, e11, W11, st11⟩ := putF X8 hx hZ hown (host := "") (Or.inl (w_52 hw)) Via.refl e8 Fl9 Ex10 (Or.inl (w_53 hw)) (w_22 hw) (ty := .int) (by decide) rfl rfl (g := (mkF m 19 #[.val (.ref a1), .val (.ref a2), .val (.ref a3), .val (.int (1 : Int32))] [(.int (2 : Int32)), (.ref a1)])) rfl rfl (hb hby d8_19)
  have s1 := (Keep.of_wr W11).1
  have N11 := Fr.snoc X11 N8 g_a1
  have Fw11 : Fld Z h11 a1 "java/util/ArrayList" "size" "I" (.int (2 : Int32)) := Fl9.same W11
  have Ex12 := ((E_a3.wr W8).wr W11)
  have Va13 := (Vs8.other W11 (Ne.symm ne_a1_a3))
  have Ex14 := (Ex10.wr W11)
  have Fl15 := ((F_modCount_a1.other W8 (Or.inl ne_a1_a3)).other W11 (Or.inr (slot_ne (Or.inl (w_41 hw)) (Or.inl (w_53 hw)) (by decide) (t := .int) (t' := .int) (by decide) (by decide))))
  have Fl16 := ((F_elementData_a1.other W8 (Or.inl ne_a1_a3)).other W11 (Or.inr (slot_ne (Or.inl (w_44 hw)) (Or.inl (w_53 hw)) (by decide) (t := (.array (.object "java/lang/Object"))) (t' := .int) (by decide) (by decide))))
  have Kp0 : Keep h0 h8 [a3, a1] := (Keep.refl h0 [a3, a1]).wr W8 (Or.inl (List.mem_of_getElem? (i := 0) rfl))
  have Kp1 : Keep h0 h11 [a3, a1] := Kp0.wr W11 (Or.inl (List.mem_of_getElem? (i := 1) rfl))
  refine ⟨T11, _, _, _, none, X11, (fun _ => rfl), by decide, by decide, ?_, fun fs hr => ?_⟩
  · show Q18 Z a1 a2 a3 a4 k5 h0 n0 _ T11.heap _
    rw [e11]
    exact ⟨rfl, N11, Kp1, Ex12, Va13, Ex14, Fl15, Fl16, Fw11⟩
  · show Steps p.tables e below (s₁.setTop (mkF m 0 #[.val (.ref a1), .val (.ref a2), .val (.ref a3), .val (.int (1 : Int32))] [])) _
    refine XS.iloadN X0.here hx rfl (hb hby d8_0) rfl ?_
    refine XS.aloadN X0.here hx rfl (hb hby d8_1) rfl rfl ?_
    refine X0.arraylength hx (by rw [e0]; exact Ar6.1) (State.isArrayOf_alike hZ.alike Ar6.2.1) (g := (mkF m 2 #[.val (.ref a1), .val (.ref a2), .val (.ref a3), .val (.int (1 : Int32))] [(.ref a3), (.int (1 : Int32))])) rfl rfl (hb hby d8_2) _ ?_
    show Steps p.tables e below (s₁.setTop (mkF m 3 #[.val (.ref a1), .val (.ref a2), .val (.ref a3), .val (.int (1 : Int32))] [(.int cl6.slots.size.toInt32), (.int (1 : Int32))])) _
    rw [len_of S6 M6]
    refine XS.icmpYes X0.here hx rfl (pc0 := 3) (pc' := 11) rfl (hb hby d8_3) rfl (feq ((by decide : ¬ ((1 : Int32) = (10 : Int32))) : ¬ ((1 : Int32) = (10 : Int32)))).2 (by decide) (by decide) ?_
    refine XS.aloadN X0.here hx rfl (hb hby d8_11) rfl rfl ?_
    refine XS.iloadN X0.here hx rfl (hb hby d8_12) rfl ?_
    refine XS.aloadN X0.here hx rfl (hb hby d8_13) rfl rfl ?_
    refine st8 _ ?_
    refine XS.aloadN X8.here hx rfl (hb hby d8_15) rfl rfl ?_
    refine XS.iloadN X8.here hx rfl (hb hby d8_16) rfl ?_
    refine XS.iconst X8.here hx rfl (hb hby d8_17) ?_
    refine XS.iadd X8.here hx rfl (hb hby d8_18) rfl ?_
    refine st11 _ ?_
    exact X11.returnOut hx hret (hb hby d8_22) hr
-- java/util/ArrayList.add(Ljava/lang/Object;)Z
abbrev Rm19 : Room := { frames := 1, cells := 0, slots := 0, locals := 15 }
def Q19 (Z : State) (a1 : Addr) (a2 : Addr) (a5 : Addr) (a11 : Addr) (k12 : ClassId) (h0 : Heap) (n0 : Nat) (v : Option Value) (h : Heap) (L : List Loc) : Prop := v = some (.int (1 : Int32)) ∧ Fr n0 L ∧ Keep h0 h [a1, a5] ∧ Exa Z h a1 "java/util/ArrayList" ∧ Fld Z h a1 "java/util/AbstractList" "modCount" "I" (.int (2 : Int32)) ∧ Fld Z h a1 "java/util/ArrayList" "elementData" "[Ljava/lang/Object;" (.ref a5) ∧ Fld Z h a1 "java/util/ArrayList" "size" "I" (.int (2 : Int32)) ∧ Exa Z h a5 "[Ljava/lang/Object;" ∧ Arv Z h a5 k12 (.object "java/lang/Object") (10 : Int32) [(.ref a11), (.ref a2), .null, .null, .null, .null, .null, .null, .null, .null] .null
theorem ef19 (a1 : Addr) (a2 : Addr) (m : MethodId) : entryFrame m #[(.ref a1), (.ref a2)] 2 = mkF m 0 #[.val (.ref a1), .val (.ref a2)] [] := by first | (simp [entryFrame, mkF, argsToLocals, Value.category]; done) | rfl
theorem rm19 (l : Launch) (Z : State) (a0 : Array Value) (hw : ∀ d ∈ tables_1, d.before a0 Z = true) (ws : List Jvm.Cond) (a1 : Addr) (a2 : Addr) (a5 : Addr) (a11 : Addr) (k12 : ClassId) (h0 : Heap) (n0 : Nat) (Z0 : n0 ≤ h0.size) (F_modCount_a1 : Fld Z h0 a1 "java/util/AbstractList" "modCount" "I" (.int (1 : Int32))) (E_a1 : Exa Z h0 a1 "java/util/ArrayList") (g_a1 : n0 ≤ a1) (F_elementData_a1 : Fld Z h0 a1 "java/util/ArrayList" "elementData" "[Ljava/lang/Object;" (.ref a5)) (F_size_a1 : Fld Z h0 a1 "java/util/ArrayList" "size" "I" (.int (1 : Int32))) (V_a5 : Arv Z h0 a5 k12 (.object "java/lang/Object") (10 : Int32) [(.ref a11), .null, .null, .null, .null, .null, .null, .null, .null, .null] .null) (ne_a5_a1 : a5 ≠ a1) (O_k12 : Ovr Z k12 "java/lang/Object") (E_a2 : Exa Z h0 a2 "java/lang/Double") (g_a5 : n0 ≤ a5) (E_a5 : Exa Z h0 a5 "[Ljava/lang/Object;") :
    OwnMet l Z y_9 jdk_38_method_25_code 2 (some .boolean) ws Rm19 #[(.ref a1), (.ref a2)] h0 (Q19 Z a1 a2 a5 a11 k12 h0 n0) := by
  refine own_body (plainFor_of_name pn_4) (ef19 a1 a2) ?_
  intro p e s m below meth c s₁ hx hby hml hown hnm hret hZ X0 e0
  have N0 := Fr.nil n0
  obtain ⟨T3, X3, e3, st3⟩ := getF X0 hx hZ hown (host := "") (Or.inl (w_50 hw)) (Via.of (w_51 hw)) e0 F_modCount_a1 (g := (mkF m 2 #[.val (.ref a1), .val (.ref a2)] [(.ref a1), (.ref a1)])) rfl rfl (hb hby d7_2)
  obtain ⟨T4, h4, X4, e4, W4, st4⟩ := putF X3 hx hZ hown (host := "") (Or.inl (w_50 hw)) (Via.of (w_51 hw)) e3 F_modCount_a1 E_a1 (Or.inl (w_41 hw)) (w_22 hw) (ty := .int) (by decide) rfl rfl (g := (mkF m 7 #[.val (.ref a1), .val (.ref a2)] [(.int (2 : Int32)), (.ref a1)])) rfl rfl (hb hby d7_7)
  have s0 := (Keep.of_wr W4).1
  have N4 := Fr.snoc X4 N0 g_a1
  have Fw4 : Fld Z h4 a1 "java/util/AbstractList" "modCount" "I" (.int (2 : Int32)) := F_modCount_a1.same W4
  have Ex6 := (E_a1.wr W4)
  have Fl7 := (F_elementData_a1.other W4 (Or.inr (slot_ne (Or.inl (w_44 hw)) (Or.inl (w_41 hw)) (by decide) (t := (.array (.object "java/lang/Object"))) (t' := .int) (by decide) (by decide))))
  obtain ⟨T8, X8, e8, st8⟩ := getF X4 hx hZ hown (host := "") (Or.inl (w_43 hw)) Via.refl e4 Fl7 (g := (mkF m 13 #[.val (.ref a1), .val (.ref a2)] [(.ref a1), (.ref a2), (.ref a1)])) rfl rfl (hb hby d7_13)
  have Fl9 := (F_size_a1.other W4 (Or.inr (slot_ne (Or.inl (w_53 hw)) (Or.inl (w_41 hw)) (by decide) (t := .int) (t' := .int) (by decide) (by decide))))
  obtain ⟨T10, X10, e10, st10⟩ := getF X8 hx hZ hown (host := "") (Or.inl (w_52 hw)) Via.refl e8 Fl9 (g := (mkF m 17 #[.val (.ref a1), .val (.ref a2)] [(.ref a1), (.ref a5), (.ref a2), (.ref a1)])) rfl rfl (hb hby d7_17)
  have Va13 := (V_a5.other W4 ne_a5_a1)
  have Ex14 := (E_a2.wr W4)
  have Ex15 := (E_a5.wr W4)
  have z1 := Nat.le_trans Z0 s0
  obtain ⟨_, T16, L16, X16, hQ16, st16⟩ := own_private X10 hx hZ hown (y := y_8) Ex6 (w_54 hw) (w_55 hw) (mvT hZ (w_57 hw)) (w_56 hw) (w_23 hw) (w_58 hw) (rm18 l Z a0 hw [] a1 a2 a5 a11 k12 h4 n0 z1 Va13 O_k12 Ex14 g_a5 Fl9 (Ne.symm ne_a5_a1) Ex6 g_a1 Ex15 Fw4 Fl7) e10 (Ls := #[.val (.ref a1), .val (.ref a2)]) (by rw [hml]; rfl) (argsL := [(.ref a2), (.ref a5), (.int (1 : Int32))]) (rest := []) (lenOf pd_5 rfl) (hb hby d7_20) (W := 0)
  obtain ⟨rfl, Nq16, K16, o16_0, o16_1, o16_2, o16_3, o16_4, o16_5⟩ := hQ16
  have N16 := Fr.app N4 Nq16
  have s1 := K16.1
  have Kp0 : Keep h0 h4 [a1, a5] := (Keep.refl h0 [a1, a5]).wr W4 (Or.inl (List.mem_of_getElem? (i := 0) rfl))
  have Kp1 : Keep h0 T16.heap [a1, a5] := Kp0.trans K16 (allS (Or.inl (List.mem_of_getElem? (i := 1) rfl)) (allS (Or.inl (List.mem_of_getElem? (i := 0) rfl)) all0))
  refine ⟨T16, _, _, _, (some (.int (1 : Int32))), X16, nofun, by decide, by decide, ?_, fun fs hr => ?_⟩
  · show Q19 Z a1 a2 a5 a11 k12 h0 n0 _ T16.heap _
    exact ⟨rfl, N16, Kp1, o16_2, o16_3, o16_4, o16_5, o16_0, o16_1⟩
  · show Steps p.tables e below (s₁.setTop (mkF m 0 #[.val (.ref a1), .val (.ref a2)] [])) _
    refine XS.aloadN X0.here hx rfl (hb hby d7_0) rfl rfl ?_
    refine XS.dup X0.here hx rfl (hb hby d7_1) rfl rfl ?_
    refine st3 _ ?_
    refine XS.iconst X3.here hx rfl (hb hby d7_5) ?_
    refine XS.iadd X3.here hx rfl (hb hby d7_6) rfl ?_
    refine st4 _ ?_
    refine XS.aloadN X4.here hx rfl (hb hby d7_10) rfl rfl ?_
    refine XS.aloadN X4.here hx rfl (hb hby d7_11) rfl rfl ?_
    refine XS.aloadN X4.here hx rfl (hb hby d7_12) rfl rfl ?_
    refine st8 _ ?_
    refine XS.aloadN X8.here hx rfl (hb hby d7_16) rfl rfl ?_
    refine st10 _ ?_
    show Steps p.tables e below (T10.setTop (mkF m 20 #[.val (.ref a1), .val (.ref a2)] [(.int (1 : Int32)), (.ref a5), (.ref a2), (.ref a1)])) _
    refine st16 _ ?_
    refine XS.iconst X16.here hx rfl (hb hby d7_23) ?_
    exact retN X16 hx (t := .boolean) hret (by simp) (hb hby d7_24) hr
theorem w_96 {a0 : Array Value} {Z : State} (hw : ∀ d ∈ tables_1, d.before a0 Z = true) : Jvm.Cond.before (Jvm.Cond.classLink "com/example/feedergen/feedergen/core/DrivenLineLengthForwardPinLaw" (26 : Nat) "com/example/feedergen/feedergen/core/DrivenLine") a0 Z = true := hw _ (List.mem_of_getElem? (i := 96) rfl)
theorem w_97 {a0 : Array Value} {Z : State} (hw : ∀ d ∈ tables_1, d.before a0 Z = true) : Jvm.Cond.before (Jvm.Cond.instantiable "com/example/feedergen/feedergen/core/DrivenLine" (4 : Nat)) a0 Z = true := hw _ (List.mem_of_getElem? (i := 97) rfl)
theorem w_98 {a0 : Array Value} {Z : State} (hw : ∀ d ∈ tables_1, d.before a0 Z = true) : Jvm.Cond.before (Jvm.Cond.initialized "com/example/feedergen/feedergen/core/DrivenLine") a0 Z = true := hw _ (List.mem_of_getElem? (i := 98) rfl)
theorem w_202 {a0 : Array Value} {Z : State} (hw : ∀ d ∈ tables_1, d.before a0 Z = true) : Jvm.Cond.before (Jvm.Cond.laysFinal "com/example/feedergen/feedergen/core/DrivenLine" "com/example/feedergen/feedergen/core/DrivenLine" "stops" "Ljava/util/List;") a0 Z = true := hw _ (List.mem_of_getElem? (i := 202) rfl)
theorem w_204 {a0 : Array Value} {Z : State} (hw : ∀ d ∈ tables_1, d.before a0 Z = true) : Jvm.Cond.before (Jvm.Cond.laysFinal "com/example/feedergen/feedergen/core/DrivenLine" "com/example/feedergen/feedergen/core/DrivenLine" "distances" "Ljava/util/List;") a0 Z = true := hw _ (List.mem_of_getElem? (i := 204) rfl)
theorem w_206 {a0 : Array Value} {Z : State} (hw : ∀ d ∈ tables_1, d.before a0 Z = true) : Jvm.Cond.before (Jvm.Cond.laysFinal "com/example/feedergen/feedergen/core/DrivenLine" "com/example/feedergen/feedergen/core/DrivenLine" "lengthBackward" "D") a0 Z = true := hw _ (List.mem_of_getElem? (i := 206) rfl)
theorem w_208 {a0 : Array Value} {Z : State} (hw : ∀ d ∈ tables_1, d.before a0 Z = true) : Jvm.Cond.before (Jvm.Cond.laysFinal "com/example/feedergen/feedergen/core/DrivenLine" "com/example/feedergen/feedergen/core/DrivenLine" "route" "Ljava/util/List;") a0 Z = true := hw _ (List.mem_of_getElem? (i := 208) rfl)
theorem d15_0 : decode prog_9_method_1_code 0 = .ok (.aload_n 0, 1) := by decide +kernel
theorem d15_1 : decode prog_9_method_1_code 1 = .ok (.invokespecial 1, 3) := by decide +kernel
theorem w_102 {a0 : Array Value} {Z : State} (hw : ∀ d ∈ tables_1, d.before a0 Z = true) : Jvm.Cond.before (Jvm.Cond.methodLink "com/example/feedergen/feedergen/core/DrivenLine" (1 : Nat) ({ cls := "java/lang/Record", name := "<init>", desc := "()V" } : Jvm.MethodName)) a0 Z = true := hw _ (List.mem_of_getElem? (i := 102) rfl)
theorem d15_4 : decode prog_9_method_1_code 4 = .ok (.aload_n 1, 1) := by decide +kernel
theorem d15_5 : decode prog_9_method_1_code 5 = .ok (.invokeinterface 7 1, 5) := by decide +kernel
theorem d16_0 : decode jdk_38_method_8_code 0 = .ok (.aload_n 0, 1) := by decide +kernel
theorem d16_1 : decode jdk_38_method_8_code 1 = .ok (.getfield 48, 3) := by decide +kernel
theorem d16_4 : decode jdk_38_method_8_code 4 = .ok (.ireturn, 1) := by decide +kernel
abbrev y_13 : MethodName := ⟨"java/util/ArrayList", "size", "()I"⟩
-- java/util/ArrayList.size()I
abbrev Rm20 : Room := { frames := 0, cells := 0, slots := 0, locals := 0 }
def Q20 (Z : State) (a1 : Addr) (h0 : Heap) (n0 : Nat) (v : Option Value) (h : Heap) (L : List Loc) : Prop := v = some (.int (2 : Int32)) ∧ Fr n0 L ∧ h = h0
theorem ef20 (a1 : Addr) (m : MethodId) : entryFrame m #[(.ref a1)] 1 = mkF m 0 #[.val (.ref a1)] [] := by first | (simp [entryFrame, mkF, argsToLocals, Value.category]; done) | rfl
theorem rm20 (l : Launch) (Z : State) (a0 : Array Value) (hw : ∀ d ∈ tables_1, d.before a0 Z = true) (ws : List Jvm.Cond) (a1 : Addr) (h0 : Heap) (n0 : Nat) (Z0 : n0 ≤ h0.size) (F_size_a1 : Fld Z h0 a1 "java/util/ArrayList" "size" "I" (.int (2 : Int32))) :
    OwnMet l Z y_13 jdk_38_method_8_code 1 (some .int) ws Rm20 #[(.ref a1)] h0 (Q20 Z a1 h0 n0) := by
  refine own_body (plainFor_of_name pn_4) (ef20 a1) ?_
  intro p e s m below meth c s₁ hx hby hml hown hnm hret hZ X0 e0
  have N0 := Fr.nil n0
  obtain ⟨T2, X2, e2, st2⟩ := getF X0 hx hZ hown (host := "") (Or.inl (w_52 hw)) Via.refl e0 F_size_a1 (g := (mkF m 1 #[.val (.ref a1)] [(.ref a1)])) rfl rfl (hb hby d16_1)
  refine ⟨T2, _, _, _, (some (.int (2 : Int32))), X2, nofun, by decide, by decide, ?_, fun fs hr => ?_⟩
  · show Q20 Z a1 h0 n0 _ T2.heap _
    rw [e2]
    exact ⟨rfl, N0, rfl⟩
  · show Steps p.tables e below (s₁.setTop (mkF m 0 #[.val (.ref a1)] [])) _
    refine XS.aloadN X0.here hx rfl (hb hby d16_0) rfl rfl ?_
    refine st2 _ ?_
    exact retI X2 hx hret (hb hby d16_4) hr
theorem pd_9 : parseMethodDescriptor "()I" = some ⟨[], some .int⟩ := by decide +kernel
theorem w_111 {a0 : Array Value} {Z : State} (hw : ∀ d ∈ tables_1, d.before a0 Z = true) : Jvm.Cond.before (Jvm.Cond.code ({ cls := "java/util/ArrayList", name := "size", desc := "()I" } : Jvm.MethodName) jdk_38_method_8_code (1 : Nat) (Option.some Jvm.ClassFile.FieldType.int)) a0 Z = true := hw _ (List.mem_of_getElem? (i := 111) rfl)
theorem w_103 {a0 : Array Value} {Z : State} (hw : ∀ d ∈ tables_1, d.before a0 Z = true) : Jvm.Cond.before (Jvm.Cond.methodLink "com/example/feedergen/feedergen/core/DrivenLine" (7 : Nat) ({ cls := "java/util/List", name := "size", desc := "()I" } : Jvm.MethodName)) a0 Z = true := hw _ (List.mem_of_getElem? (i := 103) rfl)
theorem w_106 {a0 : Array Value} {Z : State} (hw : ∀ d ∈ tables_1, d.before a0 Z = true) : Jvm.Cond.before (Jvm.Cond.selects "java/util/ArrayList" ({ cls := "java/util/List", name := "size", desc := "()I" } : Jvm.MethodName) ({ cls := "java/util/ArrayList", name := "size", desc := "()I" } : Jvm.MethodName)) a0 Z = true := hw _ (List.mem_of_getElem? (i := 106) rfl)
abbrev y_14 : MethodName := ⟨"java/util/List", "size", "()I"⟩
theorem w_104 {a0 : Array Value} {Z : State} (hw : ∀ d ∈ tables_1, d.before a0 Z = true) : Jvm.Cond.before (Jvm.Cond.declares ({ cls := "java/util/List", name := "size", desc := "()I" } : Jvm.MethodName)) a0 Z = true := hw _ (List.mem_of_getElem? (i := 104) rfl)
theorem w_105 {a0 : Array Value} {Z : State} (hw : ∀ d ∈ tables_1, d.before a0 Z = true) : Jvm.Cond.before (Jvm.Cond.interfaceMethod "java/util/List" "java/util/List" "size" "()I") a0 Z = true := hw _ (List.mem_of_getElem? (i := 105) rfl)
theorem w_107 {a0 : Array Value} {Z : State} (hw : ∀ d ∈ tables_1, d.before a0 Z = true) : Jvm.Cond.before (Jvm.Cond.instanceMethod ({ cls := "java/util/ArrayList", name := "size", desc := "()I" } : Jvm.MethodName)) a0 Z = true := hw _ (List.mem_of_getElem? (i := 107) rfl)
theorem w_108 {a0 : Array Value} {Z : State} (hw : ∀ d ∈ tables_1, d.before a0 Z = true) : Jvm.Cond.before (Jvm.Cond.publicMethod ({ cls := "java/util/ArrayList", name := "size", desc := "()I" } : Jvm.MethodName)) a0 Z = true := hw _ (List.mem_of_getElem? (i := 108) rfl)
theorem w_109 {a0 : Array Value} {Z : State} (hw : ∀ d ∈ tables_1, d.before a0 Z = true) : Jvm.Cond.before (Jvm.Cond.unhidden "java/util/ArrayList" "size" "()I") a0 Z = true := hw _ (List.mem_of_getElem? (i := 109) rfl)
theorem w_110 {a0 : Array Value} {Z : State} (hw : ∀ d ∈ tables_1, d.before a0 Z = true) : Jvm.Cond.before (Jvm.Cond.castable "java/util/ArrayList" "java/util/List") a0 Z = true := hw _ (List.mem_of_getElem? (i := 110) rfl)
theorem d15_10 : decode prog_9_method_1_code 10 = .ok (.iconst 2, 1) := by decide +kernel
theorem d15_11 : decode prog_9_method_1_code 11 = .ok (.if_icmp .lt 18, 3) := by decide +kernel
theorem d15_14 : decode prog_9_method_1_code 14 = .ok (.aload_n 2, 1) := by decide +kernel
theorem d15_15 : decode prog_9_method_1_code 15 = .ok (.invokeinterface 7 1, 5) := by decide +kernel
theorem d15_20 : decode prog_9_method_1_code 20 = .ok (.aload_n 1, 1) := by decide +kernel
theorem d15_21 : decode prog_9_method_1_code 21 = .ok (.invokeinterface 7 1, 5) := by decide +kernel
theorem d15_26 : decode prog_9_method_1_code 26 = .ok (.if_icmp .eq 28, 3) := by decide +kernel
theorem d15_54 : decode prog_9_method_1_code 54 = .ok (.aload_n 1, 1) := by decide +kernel
theorem d15_55 : decode prog_9_method_1_code 55 = .ok (.invokestatic 22, 3) := by decide +kernel
theorem d17_0 : decode jdk_40_method_48_code 0 = .ok (.aload_n 0, 1) := by decide +kernel
theorem d17_1 : decode jdk_40_method_48_code 1 = .ok (.invokestatic 112, 3) := by decide +kernel
theorem d18_0 : decode jdk_56_method_3_code 0 = .ok (.aload_n 0, 1) := by decide +kernel
theorem d18_1 : decode jdk_56_method_3_code 1 = .ok (.instanceof 10, 3) := by decide +kernel
theorem w_120 {a0 : Array Value} {Z : State} (hw : ∀ d ∈ tables_1, d.before a0 Z = true) : Jvm.Cond.before (Jvm.Cond.classLink "java/util/ImmutableCollections" (10 : Nat) "java/util/ImmutableCollections$List12") a0 Z = true := hw _ (List.mem_of_getElem? (i := 120) rfl)
theorem w_169 {a0 : Array Value} {Z : State} (hw : ∀ d ∈ tables_1, d.before a0 Z = true) : Jvm.Cond.before (Jvm.Cond.instantiable "java/util/ImmutableCollections$List12" (2 : Nat)) a0 Z = true := hw _ (List.mem_of_getElem? (i := 169) rfl)
theorem w_124 {a0 : Array Value} {Z : State} (hw : ∀ d ∈ tables_1, d.before a0 Z = true) : Jvm.Cond.before (Jvm.Cond.noSuperclass "java/lang/Object") a0 Z = true := hw _ (List.mem_of_getElem? (i := 124) rfl)
theorem w_123 {a0 : Array Value} {Z : State} (hw : ∀ d ∈ tables_1, d.before a0 Z = true) : Jvm.Cond.before (Jvm.Cond.superclass "java/util/AbstractCollection" "java/lang/Object") a0 Z = true := hw _ (List.mem_of_getElem? (i := 123) rfl)
theorem w_122 {a0 : Array Value} {Z : State} (hw : ∀ d ∈ tables_1, d.before a0 Z = true) : Jvm.Cond.before (Jvm.Cond.superclass "java/util/AbstractList" "java/util/AbstractCollection") a0 Z = true := hw _ (List.mem_of_getElem? (i := 122) rfl)
theorem w_121 {a0 : Array Value} {Z : State} (hw : ∀ d ∈ tables_1, d.before a0 Z = true) : Jvm.Cond.before (Jvm.Cond.superclass "java/util/ArrayList" "java/util/AbstractList") a0 Z = true := hw _ (List.mem_of_getElem? (i := 121) rfl)
theorem d18_4 : decode jdk_56_method_3_code 4 = .ok (.ifCond .ne 22, 3) := by decide +kernel
theorem d18_7 : decode jdk_56_method_3_code 7 = .ok (.aload_n 0, 1) := by decide +kernel
theorem d18_8 : decode jdk_56_method_3_code 8 = .ok (.instanceof 12, 3) := by decide +kernel
theorem w_125 {a0 : Array Value} {Z : State} (hw : ∀ d ∈ tables_1, d.before a0 Z = true) : Jvm.Cond.before (Jvm.Cond.classLink "java/util/ImmutableCollections" (12 : Nat) "java/util/ImmutableCollections$ListN") a0 Z = true := hw _ (List.mem_of_getElem? (i := 125) rfl)
theorem w_240 {a0 : Array Value} {Z : State} (hw : ∀ d ∈ tables_1, d.before a0 Z = true) : Jvm.Cond.before (Jvm.Cond.instantiable "java/util/ImmutableCollections$ListN" (2 : Nat)) a0 Z = true := hw _ (List.mem_of_getElem? (i := 240) rfl)
theorem d18_11 : decode jdk_56_method_3_code 11 = .ok (.ifCond .eq 20, 3) := by decide +kernel
theorem d18_31 : decode jdk_56_method_3_code 31 = .ok (.aload_n 0, 1) := by decide +kernel
theorem d18_32 : decode jdk_56_method_3_code 32 = .ok (.invokeinterface 20 1, 5) := by decide +kernel
theorem d19_0 : decode jdk_38_method_9_code 0 = .ok (.aload_n 0, 1) := by decide +kernel
theorem d19_1 : decode jdk_38_method_9_code 1 = .ok (.getfield 48, 3) := by decide +kernel
theorem d19_4 : decode jdk_38_method_9_code 4 = .ok (.ifCond .ne 7, 3) := by decide +kernel
theorem d19_11 : decode jdk_38_method_9_code 11 = .ok (.iconst 0, 1) := by decide +kernel
theorem d19_12 : decode jdk_38_method_9_code 12 = .ok (.ireturn, 1) := by decide +kernel
abbrev y_15 : MethodName := ⟨"java/util/ArrayList", "isEmpty", "()Z"⟩
-- java/util/ArrayList.isEmpty()Z
abbrev Rm21 : Room := { frames := 0, cells := 0, slots := 0, locals := 0 }
def Q21 (Z : State) (a1 : Addr) (h0 : Heap) (n0 : Nat) (v : Option Value) (h : Heap) (L : List Loc) : Prop := v = some (.int (0 : Int32)) ∧ Fr n0 L ∧ h = h0
theorem ef21 (a1 : Addr) (m : MethodId) : entryFrame m #[(.ref a1)] 1 = mkF m 0 #[.val (.ref a1)] [] := by first | (simp [entryFrame, mkF, argsToLocals, Value.category]; done) | rfl
theorem rm21 (l : Launch) (Z : State) (a0 : Array Value) (hw : ∀ d ∈ tables_1, d.before a0 Z = true) (ws : List Jvm.Cond) (a1 : Addr) (h0 : Heap) (n0 : Nat) (Z0 : n0 ≤ h0.size) (F_size_a1 : Fld Z h0 a1 "java/util/ArrayList" "size" "I" (.int (2 : Int32))) :
    OwnMet l Z y_15 jdk_38_method_9_code 1 (some .boolean) ws Rm21 #[(.ref a1)] h0 (Q21 Z a1 h0 n0) := by
  refine own_body (plainFor_of_name pn_4) (ef21 a1) ?_
  intro p e s m below meth c s₁ hx hby hml hown hnm hret hZ X0 e0
  have N0 := Fr.nil n0
  obtain ⟨T2, X2, e2, st2⟩ := getF X0 hx hZ hown (host := "") (Or.inl (w_52 hw)) Via.refl e0 F_size_a1 (g := (mkF m 1 #[.val (.ref a1)] [(.ref a1)])) rfl rfl (hb hby d19_1)
  refine ⟨T2, _, _, _, (some (.int (0 : Int32))), X2, nofun, by decide, by decide, ?_, fun fs hr => ?_⟩
  · show Q21 Z a1 h0 n0 _ T2.heap _
    rw [e2]
    exact ⟨rfl, N0, rfl⟩
  · show Steps p.tables e below (s₁.setTop (mkF m 0 #[.val (.ref a1)] [])) _
    refine XS.aloadN X0.here hx rfl (hb hby d19_0) rfl rfl ?_
    refine st2 _ ?_
    refine XS.ifYes X2.here hx rfl (pc0 := 4) (pc' := 11) rfl (hb hby d19_4) rfl ((if0 _ _).trans (feq ((by decide : ¬ ((2 : Int32) = (0 : Int32))) : ¬ ((2 : Int32) = (0 : Int32)))).2) (by decide) (by decide) ?_
    refine XS.iconst X2.here hx rfl (hb hby d19_11) ?_
    exact retN X2 hx (t := .boolean) hret (by simp) (hb hby d19_12) hr
theorem pd_10 : parseMethodDescriptor "()Z" = some ⟨[], some .boolean⟩ := by decide +kernel
theorem w_134 {a0 : Array Value} {Z : State} (hw : ∀ d ∈ tables_1, d.before a0 Z = true) : Jvm.Cond.before (Jvm.Cond.code ({ cls := "java/util/ArrayList", name := "isEmpty", desc := "()Z" } : Jvm.MethodName) jdk_38_method_9_code (1 : Nat) (Option.some Jvm.ClassFile.FieldType.boolean)) a0 Z = true := hw _ (List.mem_of_getElem? (i := 134) rfl)
theorem w_126 {a0 : Array Value} {Z : State} (hw : ∀ d ∈ tables_1, d.before a0 Z = true) : Jvm.Cond.before (Jvm.Cond.methodLink "java/util/ImmutableCollections" (20 : Nat) ({ cls := "java/util/Collection", name := "isEmpty", desc := "()Z" } : Jvm.MethodName)) a0 Z = true := hw _ (List.mem_of_getElem? (i := 126) rfl)
theorem w_129 {a0 : Array Value} {Z : State} (hw : ∀ d ∈ tables_1, d.before a0 Z = true) : Jvm.Cond.before (Jvm.Cond.selects "java/util/ArrayList" ({ cls := "java/util/Collection", name := "isEmpty", desc := "()Z" } : Jvm.MethodName) ({ cls := "java/util/ArrayList", name := "isEmpty", desc := "()Z" } : Jvm.MethodName)) a0 Z = true := hw _ (List.mem_of_getElem? (i := 129) rfl)
abbrev y_16 : MethodName := ⟨"java/util/Collection", "isEmpty", "()Z"⟩
theorem w_127 {a0 : Array Value} {Z : State} (hw : ∀ d ∈ tables_1, d.before a0 Z = true) : Jvm.Cond.before (Jvm.Cond.declares ({ cls := "java/util/Collection", name := "isEmpty", desc := "()Z" } : Jvm.MethodName)) a0 Z = true := hw _ (List.mem_of_getElem? (i := 127) rfl)
theorem w_128 {a0 : Array Value} {Z : State} (hw : ∀ d ∈ tables_1, d.before a0 Z = true) : Jvm.Cond.before (Jvm.Cond.interfaceMethod "java/util/Collection" "java/util/Collection" "isEmpty" "()Z") a0 Z = true := hw _ (List.mem_of_getElem? (i := 128) rfl)
theorem w_130 {a0 : Array Value} {Z : State} (hw : ∀ d ∈ tables_1, d.before a0 Z = true) : Jvm.Cond.before (Jvm.Cond.instanceMethod ({ cls := "java/util/ArrayList", name := "isEmpty", desc := "()Z" } : Jvm.MethodName)) a0 Z = true := hw _ (List.mem_of_getElem? (i := 130) rfl)
theorem w_131 {a0 : Array Value} {Z : State} (hw : ∀ d ∈ tables_1, d.before a0 Z = true) : Jvm.Cond.before (Jvm.Cond.publicMethod ({ cls := "java/util/ArrayList", name := "isEmpty", desc := "()Z" } : Jvm.MethodName)) a0 Z = true := hw _ (List.mem_of_getElem? (i := 131) rfl)
theorem w_132 {a0 : Array Value} {Z : State} (hw : ∀ d ∈ tables_1, d.before a0 Z = true) : Jvm.Cond.before (Jvm.Cond.unhidden "java/util/ArrayList" "isEmpty" "()Z") a0 Z = true := hw _ (List.mem_of_getElem? (i := 132) rfl)
theorem w_133 {a0 : Array Value} {Z : State} (hw : ∀ d ∈ tables_1, d.before a0 Z = true) : Jvm.Cond.before (Jvm.Cond.castable "java/util/ArrayList" "java/util/Collection") a0 Z = true := hw _ (List.mem_of_getElem? (i := 133) rfl)
theorem d18_37 : decode jdk_56_method_3_code 37 = .ok (.ifCond .eq 7, 3) := by decide +kernel
theorem d18_44 : decode jdk_56_method_3_code 44 = .ok (.aload_n 0, 1) := by decide +kernel
theorem d18_45 : decode jdk_56_method_3_code 45 = .ok (.invokeinterface 30 1, 5) := by decide +kernel
theorem d20_0 : decode jdk_38_method_16_code 0 = .ok (.aload_n 0, 1) := by decide +kernel
theorem d20_1 : decode jdk_38_method_16_code 1 = .ok (.getfield 9, 3) := by decide +kernel
theorem d20_4 : decode jdk_38_method_16_code 4 = .ok (.aload_n 0, 1) := by decide +kernel
theorem d20_5 : decode jdk_38_method_16_code 5 = .ok (.getfield 48, 3) := by decide +kernel
theorem d20_8 : decode jdk_38_method_16_code 8 = .ok (.invokestatic 66, 3) := by decide +kernel
theorem d21_0 : decode jdk_65_method_119_code 0 = .ok (.aload_n 0, 1) := by decide +kernel
theorem d21_1 : decode jdk_65_method_119_code 1 = .ok (.iload_n 1, 1) := by decide +kernel
theorem d21_2 : decode jdk_65_method_119_code 2 = .ok (.aload_n 0, 1) := by decide +kernel
theorem d21_3 : decode jdk_65_method_119_code 3 = .ok (.invokevirtual 86, 3) := by decide +kernel
theorem w_147 {a0 : Array Value} {Z : State} (hw : ∀ d ∈ tables_1, d.before a0 Z = true) : Jvm.Cond.before (Jvm.Cond.methodLink "java/util/Arrays" (86 : Nat) ({ cls := "java/lang/Object", name := "getClass", desc := "()Ljava/lang/Class;" } : Jvm.MethodName)) a0 Z = true := hw _ (List.mem_of_getElem? (i := 147) rfl)
theorem w_148 {a0 : Array Value} {Z : State} (hw : ∀ d ∈ tables_1, d.before a0 Z = true) : Jvm.Cond.before (Jvm.Cond.declares ({ cls := "java/lang/Object", name := "getClass", desc := "()Ljava/lang/Class;" } : Jvm.MethodName)) a0 Z = true := hw _ (List.mem_of_getElem? (i := 148) rfl)
theorem w_150 {a0 : Array Value} {Z : State} (hw : ∀ d ∈ tables_1, d.before a0 Z = true) : Jvm.Cond.before (Jvm.Cond.selects "[Ljava/lang/Object;" ({ cls := "java/lang/Object", name := "getClass", desc := "()Ljava/lang/Class;" } : Jvm.MethodName) ({ cls := "java/lang/Object", name := "getClass", desc := "()Ljava/lang/Class;" } : Jvm.MethodName)) a0 Z = true := hw _ (List.mem_of_getElem? (i := 150) rfl)
theorem w_149 {a0 : Array Value} {Z : State} (hw : ∀ d ∈ tables_1, d.before a0 Z = true) : Jvm.Cond.before (Jvm.Cond.instanceMethod ({ cls := "java/lang/Object", name := "getClass", desc := "()Ljava/lang/Class;" } : Jvm.MethodName)) a0 Z = true := hw _ (List.mem_of_getElem? (i := 149) rfl)
theorem w_151 {a0 : Array Value} {Z : State} (hw : ∀ d ∈ tables_1, d.before a0 Z = true) : Jvm.Cond.before (Jvm.Cond.native ({ cls := "java/lang/Object", name := "getClass", desc := "()Ljava/lang/Class;" } : Jvm.MethodName)) a0 Z = true := hw _ (List.mem_of_getElem? (i := 151) rfl)
theorem d21_6 : decode jdk_65_method_119_code 6 = .ok (.invokestatic 300, 3) := by decide +kernel
theorem d22_0 : decode jdk_65_method_120_code 0 = .ok (.aload_n 2, 1) := by decide +kernel
theorem d22_1 : decode jdk_65_method_120_code 1 = .ok (.ldc 110, 2) := by decide +kernel
theorem w_156 {a0 : Array Value} {Z : State} (hw : ∀ d ∈ tables_1, d.before a0 Z = true) : Jvm.Cond.before (Jvm.Cond.classLink "java/util/Arrays" (110 : Nat) "[Ljava/lang/Object;") a0 Z = true := hw _ (List.mem_of_getElem? (i := 156) rfl)
theorem d22_3 : decode jdk_65_method_120_code 3 = .ok (.if_acmp .ne 10, 3) := by decide +kernel
theorem d22_6 : decode jdk_65_method_120_code 6 = .ok (.iload_n 1, 1) := by decide +kernel
theorem d22_7 : decode jdk_65_method_120_code 7 = .ok (.anewarray 2, 3) := by decide +kernel
theorem w_157 {a0 : Array Value} {Z : State} (hw : ∀ d ∈ tables_1, d.before a0 Z = true) : Jvm.Cond.before (Jvm.Cond.classLink "java/util/Arrays" (2 : Nat) "java/lang/Object") a0 Z = true := hw _ (List.mem_of_getElem? (i := 157) rfl)
theorem d22_10 : decode jdk_65_method_120_code 10 = .ok (.goto 14, 3) := by decide +kernel
theorem d22_24 : decode jdk_65_method_120_code 24 = .ok (.astore_n 3, 1) := by decide +kernel
theorem d22_25 : decode jdk_65_method_120_code 25 = .ok (.aload_n 0, 1) := by decide +kernel
theorem d22_26 : decode jdk_65_method_120_code 26 = .ok (.iconst 0, 1) := by decide +kernel
theorem d22_27 : decode jdk_65_method_120_code 27 = .ok (.aload_n 3, 1) := by decide +kernel
theorem d22_28 : decode jdk_65_method_120_code 28 = .ok (.iconst 0, 1) := by decide +kernel
theorem d22_29 : decode jdk_65_method_120_code 29 = .ok (.aload_n 0, 1) := by decide +kernel
theorem d22_30 : decode jdk_65_method_120_code 30 = .ok (.arraylength, 1) := by decide +kernel
theorem d22_31 : decode jdk_65_method_120_code 31 = .ok (.iload_n 1, 1) := by decide +kernel
theorem d22_32 : decode jdk_65_method_120_code 32 = .ok (.invokestatic 304, 3) := by decide +kernel
theorem d23_0 : decode jdk_29_method_69_code 0 = .ok (.iload_n 0, 1) := by decide +kernel
theorem d23_1 : decode jdk_29_method_69_code 1 = .ok (.iload_n 1, 1) := by decide +kernel
theorem d23_2 : decode jdk_29_method_69_code 2 = .ok (.if_icmp .gt 7, 3) := by decide +kernel
theorem d23_9 : decode jdk_29_method_69_code 9 = .ok (.iload_n 1, 1) := by decide +kernel
theorem d23_10 : decode jdk_29_method_69_code 10 = .ok (.ireturn, 1) := by decide +kernel
abbrev y_17 : MethodName := ⟨"java/lang/Math", "min", "(II)I"⟩
-- java/lang/Math.min(II)I
abbrev Rm22 : Room := { frames := 0, cells := 0, slots := 0, locals := 0 }
def Q22 (Z : State)  (h0 : Heap) (n0 : Nat) (v : Option Value) (h : Heap) (L : List Loc) : Prop := v = some (.int (2 : Int32)) ∧ Fr n0 L ∧ h = h0
theorem ef22  (m : MethodId) : entryFrame m #[(.int (10 : Int32)), (.int (2 : Int32))] 2 = mkF m 0 #[.val (.int (10 : Int32)), .val (.int (2 : Int32))] [] := by first | (simp [entryFrame, mkF, argsToLocals, Value.category]; done) | rfl
theorem rm22 (l : Launch) (Z : State) (a0 : Array Value) (hw : ∀ d ∈ tables_1, d.before a0 Z = true) (ws : List Jvm.Cond)  (h0 : Heap) (n0 : Nat) (Z0 : n0 ≤ h0.size) :
    OwnMet l Z y_17 jdk_29_method_69_code 2 (some .int) ws Rm22 #[(.int (10 : Int32)), (.int (2 : Int32))] h0 (Q22 Z  h0 n0) := by
  refine own_body (Jvm.Free.JP.mathPlain rfl (by decide +kernel)) (ef22) ?_
  intro p e s m below meth c s₁ hx hby hml hown hnm hret hZ X0 e0
  have N0 := Fr.nil n0
  refine ⟨s₁, _, _, _, (some (.int (2 : Int32))), X0, nofun, by decide, by decide, ?_, fun fs hr => ?_⟩
  · show Q22 Z  h0 n0 _ s₁.heap _
    rw [e0]
    exact ⟨rfl, N0, rfl⟩
  · show Steps p.tables e below (s₁.setTop (mkF m 0 #[.val (.int (10 : Int32)), .val (.int (2 : Int32))] [])) _
    refine XS.iloadN X0.here hx rfl (hb hby d23_0) rfl ?_
    refine XS.iloadN X0.here hx rfl (hb hby d23_1) rfl ?_
    refine XS.icmpYes X0.here hx rfl (pc0 := 2) (pc' := 9) rfl (hb hby d23_2) rfl (tlt ((by decide : (2 : Int32) < (10 : Int32)) : (2 : Int32) < (10 : Int32))).2.2.1 (by decide) (by decide) ?_
    refine XS.iloadN X0.here hx rfl (hb hby d23_9) rfl ?_
    exact retI X0 hx hret (hb hby d23_10) hr
theorem w_160 {a0 : Array Value} {Z : State} (hw : ∀ d ∈ tables_1, d.before a0 Z = true) : Jvm.Cond.before (Jvm.Cond.code ({ cls := "java/lang/Math", name := "min", desc := "(II)I" } : Jvm.MethodName) jdk_29_method_69_code (2 : Nat) (Option.some Jvm.ClassFile.FieldType.int)) a0 Z = true := hw _ (List.mem_of_getElem? (i := 160) rfl)
theorem w_158 {a0 : Array Value} {Z : State} (hw : ∀ d ∈ tables_1, d.before a0 Z = true) : Jvm.Cond.before (Jvm.Cond.methodLink "java/util/Arrays" (304 : Nat) ({ cls := "java/lang/Math", name := "min", desc := "(II)I" } : Jvm.MethodName)) a0 Z = true := hw _ (List.mem_of_getElem? (i := 158) rfl)
theorem w_159 {a0 : Array Value} {Z : State} (hw : ∀ d ∈ tables_1, d.before a0 Z = true) : Jvm.Cond.before (Jvm.Cond.static ({ cls := "java/lang/Math", name := "min", desc := "(II)I" } : Jvm.MethodName)) a0 Z = true := hw _ (List.mem_of_getElem? (i := 159) rfl)
theorem d22_35 : decode jdk_65_method_120_code 35 = .ok (.invokestatic 150, 3) := by decide +kernel
theorem w_161 {a0 : Array Value} {Z : State} (hw : ∀ d ∈ tables_1, d.before a0 Z = true) : Jvm.Cond.before (Jvm.Cond.methodLink "java/util/Arrays" (150 : Nat) ({ cls := "java/lang/System", name := "arraycopy", desc := "(Ljava/lang/Object;ILjava/lang/Object;II)V" } : Jvm.MethodName)) a0 Z = true := hw _ (List.mem_of_getElem? (i := 161) rfl)
theorem w_164 {a0 : Array Value} {Z : State} (hw : ∀ d ∈ tables_1, d.before a0 Z = true) : Jvm.Cond.before (Jvm.Cond.native ({ cls := "java/lang/System", name := "arraycopy", desc := "(Ljava/lang/Object;ILjava/lang/Object;II)V" } : Jvm.MethodName)) a0 Z = true := hw _ (List.mem_of_getElem? (i := 164) rfl)
theorem w_162 {a0 : Array Value} {Z : State} (hw : ∀ d ∈ tables_1, d.before a0 Z = true) : Jvm.Cond.before (Jvm.Cond.static ({ cls := "java/lang/System", name := "arraycopy", desc := "(Ljava/lang/Object;ILjava/lang/Object;II)V" } : Jvm.MethodName)) a0 Z = true := hw _ (List.mem_of_getElem? (i := 162) rfl)
theorem w_163 {a0 : Array Value} {Z : State} (hw : ∀ d ∈ tables_1, d.before a0 Z = true) : Jvm.Cond.before (Jvm.Cond.initialized "java/lang/System") a0 Z = true := hw _ (List.mem_of_getElem? (i := 163) rfl)
theorem d22_38 : decode jdk_65_method_120_code 38 = .ok (.aload_n 3, 1) := by decide +kernel
theorem d22_39 : decode jdk_65_method_120_code 39 = .ok (.areturn, 1) := by decide +kernel
abbrev y_18 : MethodName := ⟨"java/util/Arrays", "copyOf", "([Ljava/lang/Object;ILjava/lang/Class;)[Ljava/lang/Object;"⟩
theorem pn_7 : plainName "java/util/Arrays" = true := by first | (simp [plainName, overriddenIn]; done) | decide +kernel
-- java/util/Arrays.copyOf([Ljava/lang/Object;ILjava/lang/Class;)[Ljava/lang/Object;
abbrev Rm23 : Room := { frames := 1, cells := 1, slots := 2, locals := 18 }
def Q23 (Z : State) (a1 : Addr) (a2 : Addr) (a5 : Addr) (k6 : ClassId) (h0 : Heap) (n0 : Nat) (v : Option Value) (h : Heap) (L : List Loc) : Prop := ∃ b4 : Addr, ∃ k4 : ClassId, v = some (.ref b4) ∧ Fr n0 L ∧ Keep h0 h [] ∧ h0.size ≤ b4 ∧ Exa Z h b4 "[Ljava/lang/Object;" ∧ Ovr Z k4 "java/lang/Object" ∧ Arv Z h b4 k4 (.object "java/lang/Object") (2 : Int32) [(.ref a5), (.ref a5)] .null
theorem ef23 (a1 : Addr) (a2 : Addr) (m : MethodId) : entryFrame m #[(.ref a1), (.int (2 : Int32)), (.ref a2)] 4 = mkF m 0 #[.val (.ref a1), .val (.int (2 : Int32)), .val (.ref a2), .unset] [] := by first | (simp [entryFrame, mkF, argsToLocals, Value.category]; done) | rfl
theorem rm23 (l : Launch) (Z : State) (a0 : Array Value) (hw : ∀ d ∈ tables_1, d.before a0 Z = true) (ws : List Jvm.Cond) (a1 : Addr) (a2 : Addr) (a5 : Addr) (k6 : ClassId) (h0 : Heap) (n0 : Nat) (Z0 : n0 ≤ h0.size) (M_1 : OwnMir Z "[Ljava/lang/Object;" a2) (V_a1 : Arv Z h0 a1 k6 (.object "java/lang/Object") (10 : Int32) [(.ref a5), (.ref a5), .null, .null, .null, .null, .null, .null, .null, .null] .null) (E_a5 : Exa Z h0 a5 "com/example/feedergen/feedergen/core/StopCandidate") :
    OwnMet l Z y_18 jdk_65_method_120_code 4 (some (.array (.object "java/lang/Object"))) ws Rm23 #[(.ref a1), (.int (2 : Int32)), (.ref a2)] h0 (Q23 Z a1 a2 a5 k6 h0 n0) := by
  refine own_body (plainFor_of_name pn_7) (ef23 a1 a2) ?_
  intro p e s m below meth c s₁ hx hby hml hown hnm hret hZ X0 e0
  have N0 := Fr.nil n0
  obtain ⟨T3, X3, e3, st3⟩ := own_ldcM X0 hx hZ hown (w_156 hw) M_1 e0 (g := (mkF m 1 #[.val (.ref a1), .val (.int (2 : Int32)), .val (.ref a2), .unset] [(.ref a2)])) rfl (hb hby d22_1)
  obtain ⟨T4, h4, k4, X4, e4, E4, A4, B4, O4, st4⟩ := newRE X3 hx hZ hown (w_157 hw) (w_74 hw) e3 (g := (mkF m 7 #[.val (.ref a1), .val (.int (2 : Int32)), .val (.ref a2), .unset] [(.int (2 : Int32))])) rfl (hb hby d22_7) rfl (by decide) (cap := 2) (by decide) (by decide) (by decide) (by decide) (ad := "[Ljava/lang/Object;") (by decide)
  obtain ⟨b4, g4⟩ : ∃ z, z = h0.size := ⟨_, rfl⟩
  rw [← g4] at A4 B4 st4
  have s0 := E4.1
  have Vn4 : Arv Z h4 b4 k4 (.object "java/lang/Object") (2 : Int32) [.null, .null] .null := (Arv.new A4 (by decide)).pad (pad_rep [] .null 2)
  have Va7 := (V_a1.ext E4)
  obtain ⟨cl8, Ar8, q8, S8, M8, Hs8, G8⟩ := id Va7
  have z1 := Nat.le_trans Z0 s0
  obtain ⟨_, T9, L9, X9, hQ9, st9⟩ := own_callS X4 hx hZ hown (y := y_17) (w_158 hw) (w_159 hw) (w_71 hw) (w_160 hw) (rm22 l Z a0 hw []  h4 n0 z1) e4 (Ls := #[.val (.ref a1), .val (.int (2 : Int32)), .val (.ref a2), .val (.ref b4)]) (by rw [hml]; rfl) (argsL := [(.int (10 : Int32)), (.int (2 : Int32))]) (rest := [(.int (0 : Int32)), (.ref b4), (.int (0 : Int32)), (.ref a1)]) (lenOf pd_2 rfl) (hb hby d22_32) (W := 4)
  obtain ⟨rfl, Nq9, e9⟩ := hQ9
  have N9 := Fr.app N0 Nq9
  obtain ⟨cl10, Ar10, q10, S10, M10, Hs10, G10⟩ := id Vn4
  have Ex11 := (E_a5.ext E4)
  have g_b4 : n0 ≤ b4 := Nat.le_trans Z0 (Nat.le_of_eq g4.symm)
  obtain ⟨T12, h12, L12, X12, e12, N12, K12, V12, st12⟩ := cpA X9 hx hZ hown (w_161 hw) (w_164 hw) (w_162 hw) (w_163 hw) e9 Va7 Vn4 (us := [(.ref a5), (.ref a5)]) (Or.inr ⟨rfl, rfl, ⟨(Sto.ofV Ar10 q10 O4 (Ins.of_exa Ex11 (w_75 hw))), ⟨(Sto.ofV Ar10 q10 O4 (Ins.of_exa Ex11 (w_75 hw))), trivial⟩⟩⟩) (by decide) (by decide) (by decide) (by decide) (by decide) (by rfl) (by decide) N9 g_b4 (g := (mkF m 35 #[.val (.ref a1), .val (.int (2 : Int32)), .val (.ref a2), .val (.ref b4)] [(.int (2 : Int32)), (.int (0 : Int32)), (.ref b4), (.int (0 : Int32)), (.ref a1)])) rfl (by rw [hml]; rfl) rfl (hb hby d22_35) (by decide) (W := 0) (by show 2 * 0 + _ ≤ _; exact Nat.le_of_eq rfl) (by decide)
  have s1 := K12.1
  have Vc12 : Arv Z h12 b4 k4 (.object "java/lang/Object") (2 : Int32) [(.ref a5), (.ref a5)] .null := V12
  have sz_b4 : h0.size ≤ b4 := (Nat.le_of_eq g4.symm)
  have Ex13 := (B4.keep K12)
  have Kp0 : Keep h0 h4 [] := (Keep.refl h0 []).ext E4
  have Kp1 : Keep h0 h12 [] := Kp0.trans K12 (allS (Or.inr sz_b4) all0)
  refine ⟨T12, _, _, _, (some (.ref b4)), X12, nofun, by decide, by decide, ?_, fun fs hr => ?_⟩
  · show Q23 Z a1 a2 a5 k6 h0 n0 _ T12.heap _
    rw [e12]
    exact ⟨b4, k4, rfl, N12, Kp1, sz_b4, Ex13, O4, Vc12⟩
  · show Steps p.tables e below (s₁.setTop (mkF m 0 #[.val (.ref a1), .val (.int (2 : Int32)), .val (.ref a2), .unset] [])) _
    refine XS.aloadN X0.here hx rfl (hb hby d22_0) rfl rfl ?_
    refine st3 _ ?_
    refine Jvm.RoadKit.acmp (g := (mkF m 3 #[.val (.ref a1), .val (.int (2 : Int32)), .val (.ref a2), .unset] [(.ref a2), (.ref a2)])) X3 hx rfl rfl rfl (pc0 := 3) (pc' := 6) (same := true) rfl (hb hby d22_3) rfl (decide_eq_true rfl) (by decide) (by decide) ?_
    refine XS.iloadN X3.here hx rfl (hb hby d22_6) rfl ?_
    refine st4 _ ?_
    refine XS.goto X4.here hx rfl (pc0 := 10) (pc' := 24) rfl (hb hby d22_10) (by decide) (by decide) ?_
    refine XS.astoreN X4.here hx rfl (hb hby d22_24) rfl rfl (l' := #[.val (.ref a1), .val (.int (2 : Int32)), .val (.ref a2), .val (.ref b4)]) rfl ?_
    refine XS.aloadN X4.here hx rfl (hb hby d22_25) rfl rfl ?_
    refine XS.iconst X4.here hx rfl (hb hby d22_26) ?_
    refine XS.aloadN X4.here hx rfl (hb hby d22_27) rfl rfl ?_
    refine XS.iconst X4.here hx rfl (hb hby d22_28) ?_
    refine XS.aloadN X4.here hx rfl (hb hby d22_29) rfl rfl ?_
    show Steps p.tables e below (T4.setTop (mkF m 30 #[.val (.ref a1), .val (.int (2 : Int32)), .val (.ref a2), .val (.ref b4)] [(.ref a1), (.int (0 : Int32)), (.ref b4), (.int (0 : Int32)), (.ref a1)])) _
    refine X4.arraylength hx (by rw [e4]; exact Ar8.1) (State.isArrayOf_alike hZ.alike Ar8.2.1) (g := (mkF m 30 #[.val (.ref a1), .val (.int (2 : Int32)), .val (.ref a2), .val (.ref b4)] [(.ref a1), (.int (0 : Int32)), (.ref b4), (.int (0 : Int32)), (.ref a1)])) rfl rfl (hb hby d22_30) _ ?_
    show Steps p.tables e below (T4.setTop (mkF m 31 #[.val (.ref a1), .val (.int (2 : Int32)), .val (.ref a2), .val (.ref b4)] [(.int cl8.slots.size.toInt32), (.int (0 : Int32)), (.ref b4), (.int (0 : Int32)), (.ref a1)])) _
    rw [len_of S8 M8]
    refine XS.iloadN X4.here hx rfl (hb hby d22_31) rfl ?_
    refine st9 _ ?_
    refine st12 _ ?_
    refine XS.aloadN X12.here hx rfl (hb hby d22_38) rfl rfl ?_
    exact retOut X12 hx hret rfl (Or.inr (Or.inr (Or.inr (Or.inr ⟨rfl, rfl, rfl⟩)))) (hb hby d22_39) hr
theorem pd_11 : parseMethodDescriptor "([Ljava/lang/Object;ILjava/lang/Class;)[Ljava/lang/Object;" = some ⟨[(.array (.object "java/lang/Object")), .int, (.object "java/lang/Class")], some (.array (.object "java/lang/Object"))⟩ := by decide +kernel
theorem w_145 {a0 : Array Value} {Z : State} (hw : ∀ d ∈ tables_1, d.before a0 Z = true) : Jvm.Cond.before (Jvm.Cond.initialized "java/util/Arrays") a0 Z = true := hw _ (List.mem_of_getElem? (i := 145) rfl)
theorem w_155 {a0 : Array Value} {Z : State} (hw : ∀ d ∈ tables_1, d.before a0 Z = true) : Jvm.Cond.before (Jvm.Cond.code ({ cls := "java/util/Arrays", name := "copyOf", desc := "([Ljava/lang/Object;ILjava/lang/Class;)[Ljava/lang/Object;" } : Jvm.MethodName) jdk_65_method_120_code (4 : Nat) (Option.some (Jvm.ClassFile.FieldType.array (Jvm.ClassFile.FieldType.object "java/lang/Object")))) a0 Z = true := hw _ (List.mem_of_getElem? (i := 155) rfl)
theorem w_153 {a0 : Array Value} {Z : State} (hw : ∀ d ∈ tables_1, d.before a0 Z = true) : Jvm.Cond.before (Jvm.Cond.methodLink "java/util/Arrays" (300 : Nat) ({ cls := "java/util/Arrays", name := "copyOf", desc := "([Ljava/lang/Object;ILjava/lang/Class;)[Ljava/lang/Object;" } : Jvm.MethodName)) a0 Z = true := hw _ (List.mem_of_getElem? (i := 153) rfl)
theorem w_154 {a0 : Array Value} {Z : State} (hw : ∀ d ∈ tables_1, d.before a0 Z = true) : Jvm.Cond.before (Jvm.Cond.static ({ cls := "java/util/Arrays", name := "copyOf", desc := "([Ljava/lang/Object;ILjava/lang/Class;)[Ljava/lang/Object;" } : Jvm.MethodName)) a0 Z = true := hw _ (List.mem_of_getElem? (i := 154) rfl)
theorem d21_9 : decode jdk_65_method_119_code 9 = .ok (.areturn, 1) := by decide +kernel
abbrev y_19 : MethodName := ⟨"java/util/Arrays", "copyOf", "([Ljava/lang/Object;I)[Ljava/lang/Object;"⟩
-- java/util/Arrays.copyOf([Ljava/lang/Object;I)[Ljava/lang/Object;
abbrev Rm24 : Room := { frames := 2, cells := 1, slots := 2, locals := 33 }
def Q24 (Z : State) (a1 : Addr) (a2 : Addr) (a4 : Addr) (k5 : ClassId) (h0 : Heap) (n0 : Nat) (v : Option Value) (h : Heap) (L : List Loc) : Prop := ∃ b6_b4 : Addr, ∃ k6_k4 : ClassId, v = some (.ref b6_b4) ∧ Fr n0 L ∧ Keep h0 h [] ∧ h0.size ≤ b6_b4 ∧ Exa Z h b6_b4 "[Ljava/lang/Object;" ∧ Ovr Z k6_k4 "java/lang/Object" ∧ Arv Z h b6_b4 k6_k4 (.object "java/lang/Object") (2 : Int32) [(.ref a4), (.ref a4)] .null
theorem ef24 (a1 : Addr) (m : MethodId) : entryFrame m #[(.ref a1), (.int (2 : Int32))] 2 = mkF m 0 #[.val (.ref a1), .val (.int (2 : Int32))] [] := by first | (simp [entryFrame, mkF, argsToLocals, Value.category]; done) | rfl
theorem rm24 (l : Launch) (Z : State) (a0 : Array Value) (hw : ∀ d ∈ tables_1, d.before a0 Z = true) (ws : List Jvm.Cond) (a1 : Addr) (a2 : Addr) (a4 : Addr) (k5 : ClassId) (h0 : Heap) (n0 : Nat) (Z0 : n0 ≤ h0.size) (E_a1 : Exa Z h0 a1 "[Ljava/lang/Object;") (M_1 : OwnMir Z "[Ljava/lang/Object;" a2) (V_a1 : Arv Z h0 a1 k5 (.object "java/lang/Object") (10 : Int32) [(.ref a4), (.ref a4), .null, .null, .null, .null, .null, .null, .null, .null] .null) (E_a4 : Exa Z h0 a4 "com/example/feedergen/feedergen/core/StopCandidate") :
    OwnMet l Z y_19 jdk_65_method_119_code 2 (some (.array (.object "java/lang/Object"))) ws Rm24 #[(.ref a1), (.int (2 : Int32))] h0 (Q24 Z a1 a2 a4 k5 h0 n0) := by
  refine own_body (plainFor_of_name pn_7) (ef24 a1) ?_
  intro p e s m below meth c s₁ hx hby hml hown hnm hret hZ X0 e0
  have N0 := Fr.nil n0
  obtain ⟨T3, X3, e3, st3⟩ := own_gcls X0 hx hZ hown (w_147 hw) (w_148 hw) (w_124 hw) (w_150 hw) (w_149 hw) (w_151 hw) e0 E_a1 M_1 (g := (mkF m 3 #[.val (.ref a1), .val (.int (2 : Int32))] [(.ref a1), (.int (2 : Int32)), (.ref a1)])) rfl (by rw [hml]; rfl) rfl (hb hby d21_3) (by decide) (W := 2) (by show 2 * 0 + _ ≤ _; exact Nat.le_of_eq rfl) (by decide)
  obtain ⟨_, T6, L6, X6, hQ6, st6⟩ := own_callS X3 hx hZ hown (y := y_18) (w_153 hw) (w_154 hw) (w_145 hw) (w_155 hw) (rm23 l Z a0 hw [] a1 a2 a4 k5 h0 n0 Z0 M_1 V_a1 E_a4) e3 (Ls := #[.val (.ref a1), .val (.int (2 : Int32))]) (by rw [hml]; rfl) (argsL := [(.ref a1), (.int (2 : Int32)), (.ref a2)]) (rest := []) (lenOf pd_11 rfl) (hb hby d21_6) (W := 0)
  obtain ⟨b6_b4, k6_k4, rfl, Nq6, K6, o6_0, o6_1, o6_2, o6_3⟩ := hQ6
  have N6 := Fr.app N0 Nq6
  have s0 := K6.1
  have sz_b6_b4 : h0.size ≤ b6_b4 := o6_0
  have Kp0 : Keep h0 T6.heap [] := (Keep.refl h0 []).trans K6 all0
  refine ⟨T6, _, _, _, (some (.ref b6_b4)), X6, nofun, by decide, by decide, ?_, fun fs hr => ?_⟩
  · show Q24 Z a1 a2 a4 k5 h0 n0 _ T6.heap _
    exact ⟨b6_b4, k6_k4, rfl, N6, Kp0, sz_b6_b4, o6_1, o6_2, o6_3⟩
  · show Steps p.tables e below (s₁.setTop (mkF m 0 #[.val (.ref a1), .val (.int (2 : Int32))] [])) _
    refine XS.aloadN X0.here hx rfl (hb hby d21_0) rfl rfl ?_
    refine XS.iloadN X0.here hx rfl (hb hby d21_1) rfl ?_
    refine XS.aloadN X0.here hx rfl (hb hby d21_2) rfl rfl ?_
    refine st3 _ ?_
    refine st6 _ ?_
    exact retOut X6 hx hret rfl (Or.inr (Or.inr (Or.inr (Or.inr ⟨rfl, rfl, rfl⟩)))) (hb hby d21_9) hr
theorem pd_12 : parseMethodDescriptor "([Ljava/lang/Object;I)[Ljava/lang/Object;" = some ⟨[(.array (.object "java/lang/Object")), .int], some (.array (.object "java/lang/Object"))⟩ := by decide +kernel
theorem w_146 {a0 : Array Value} {Z : State} (hw : ∀ d ∈ tables_1, d.before a0 Z = true) : Jvm.Cond.before (Jvm.Cond.code ({ cls := "java/util/Arrays", name := "copyOf", desc := "([Ljava/lang/Object;I)[Ljava/lang/Object;" } : Jvm.MethodName) jdk_65_method_119_code (2 : Nat) (Option.some (Jvm.ClassFile.FieldType.array (Jvm.ClassFile.FieldType.object "java/lang/Object")))) a0 Z = true := hw _ (List.mem_of_getElem? (i := 146) rfl)
theorem w_143 {a0 : Array Value} {Z : State} (hw : ∀ d ∈ tables_1, d.before a0 Z = true) : Jvm.Cond.before (Jvm.Cond.methodLink "java/util/ArrayList" (66 : Nat) ({ cls := "java/util/Arrays", name := "copyOf", desc := "([Ljava/lang/Object;I)[Ljava/lang/Object;" } : Jvm.MethodName)) a0 Z = true := hw _ (List.mem_of_getElem? (i := 143) rfl)
theorem w_144 {a0 : Array Value} {Z : State} (hw : ∀ d ∈ tables_1, d.before a0 Z = true) : Jvm.Cond.before (Jvm.Cond.static ({ cls := "java/util/Arrays", name := "copyOf", desc := "([Ljava/lang/Object;I)[Ljava/lang/Object;" } : Jvm.MethodName)) a0 Z = true := hw _ (List.mem_of_getElem? (i := 144) rfl)
theorem d20_11 : decode jdk_38_method_16_code 11 = .ok (.areturn, 1) := by decide +kernel
abbrev y_20 : MethodName := ⟨"java/util/ArrayList", "toArray", "()[Ljava/lang/Object;"⟩
-- java/util/ArrayList.toArray()[Ljava/lang/Object;
abbrev Rm25 : Room := { frames := 3, cells := 1, slots := 2, locals := 46 }
def Q25 (Z : State) (a1 : Addr) (a2 : Addr) (a5 : Addr) (a6 : Addr) (k7 : ClassId) (h0 : Heap) (n0 : Nat) (v : Option Value) (h : Heap) (L : List Loc) : Prop := ∃ b8_b6_b4 : Addr, ∃ k8_k6_k4 : ClassId, v = some (.ref b8_b6_b4) ∧ Fr n0 L ∧ Keep h0 h [] ∧ h0.size ≤ b8_b6_b4 ∧ Exa Z h b8_b6_b4 "[Ljava/lang/Object;" ∧ Ovr Z k8_k6_k4 "java/lang/Object" ∧ Arv Z h b8_b6_b4 k8_k6_k4 (.object "java/lang/Object") (2 : Int32) [(.ref a6), (.ref a6)] .null
theorem ef25 (a1 : Addr) (m : MethodId) : entryFrame m #[(.ref a1)] 1 = mkF m 0 #[.val (.ref a1)] [] := by first | (simp [entryFrame, mkF, argsToLocals, Value.category]; done) | rfl
theorem rm25 (l : Launch) (Z : State) (a0 : Array Value) (hw : ∀ d ∈ tables_1, d.before a0 Z = true) (ws : List Jvm.Cond) (a1 : Addr) (a2 : Addr) (a5 : Addr) (a6 : Addr) (k7 : ClassId) (h0 : Heap) (n0 : Nat) (Z0 : n0 ≤ h0.size) (F_elementData_a1 : Fld Z h0 a1 "java/util/ArrayList" "elementData" "[Ljava/lang/Object;" (.ref a2)) (F_size_a1 : Fld Z h0 a1 "java/util/ArrayList" "size" "I" (.int (2 : Int32))) (E_a2 : Exa Z h0 a2 "[Ljava/lang/Object;") (M_1 : OwnMir Z "[Ljava/lang/Object;" a5) (V_a2 : Arv Z h0 a2 k7 (.object "java/lang/Object") (10 : Int32) [(.ref a6), (.ref a6), .null, .null, .null, .null, .null, .null, .null, .null] .null) (E_a6 : Exa Z h0 a6 "com/example/feedergen/feedergen/core/StopCandidate") :
    OwnMet l Z y_20 jdk_38_method_16_code 1 (some (.array (.object "java/lang/Object"))) ws Rm25 #[(.ref a1)] h0 (Q25 Z a1 a2 a5 a6 k7 h0 n0) := by
  refine own_body (plainFor_of_name pn_4) (ef25 a1) ?_
  intro p e s m below meth c s₁ hx hby hml hown hnm hret hZ X0 e0
  have N0 := Fr.nil n0
  obtain ⟨T3, X3, e3, st3⟩ := getF X0 hx hZ hown (host := "") (Or.inl (w_43 hw)) Via.refl e0 F_elementData_a1 (g := (mkF m 1 #[.val (.ref a1)] [(.ref a1)])) rfl rfl (hb hby d20_1)
  obtain ⟨T4, X4, e4, st4⟩ := getF X3 hx hZ hown (host := "") (Or.inl (w_52 hw)) Via.refl e3 F_size_a1 (g := (mkF m 5 #[.val (.ref a1)] [(.ref a1), (.ref a2)])) rfl rfl (hb hby d20_5)
  obtain ⟨_, T8, L8, X8, hQ8, st8⟩ := own_callS X4 hx hZ hown (y := y_19) (w_143 hw) (w_144 hw) (w_145 hw) (w_146 hw) (rm24 l Z a0 hw [] a2 a5 a6 k7 h0 n0 Z0 E_a2 M_1 V_a2 E_a6) e4 (Ls := #[.val (.ref a1)]) (by rw [hml]; rfl) (argsL := [(.ref a2), (.int (2 : Int32))]) (rest := []) (lenOf pd_12 rfl) (hb hby d20_8) (W := 0)
  obtain ⟨b8_b6_b4, k8_k6_k4, rfl, Nq8, K8, o8_0, o8_1, o8_2, o8_3⟩ := hQ8
  have N8 := Fr.app N0 Nq8
  have s0 := K8.1
  have sz_b8_b6_b4 : h0.size ≤ b8_b6_b4 := o8_0
  have Kp0 : Keep h0 T8.heap [] := (Keep.refl h0 []).trans K8 all0
  refine ⟨T8, _, _, _, (some (.ref b8_b6_b4)), X8, nofun, by decide, by decide, ?_, fun fs hr => ?_⟩
  · show Q25 Z a1 a2 a5 a6 k7 h0 n0 _ T8.heap _
    exact ⟨b8_b6_b4, k8_k6_k4, rfl, N8, Kp0, sz_b8_b6_b4, o8_1, o8_2, o8_3⟩
  · show Steps p.tables e below (s₁.setTop (mkF m 0 #[.val (.ref a1)] [])) _
    refine XS.aloadN X0.here hx rfl (hb hby d20_0) rfl rfl ?_
    refine st3 _ ?_
    refine XS.aloadN X3.here hx rfl (hb hby d20_4) rfl rfl ?_
    refine st4 _ ?_
    refine st8 _ ?_
    exact retOut X8 hx hret rfl (Or.inr (Or.inr (Or.inr (Or.inr ⟨rfl, rfl, rfl⟩)))) (hb hby d20_11) hr
theorem w_142 {a0 : Array Value} {Z : State} (hw : ∀ d ∈ tables_1, d.before a0 Z = true) : Jvm.Cond.before (Jvm.Cond.code ({ cls := "java/util/ArrayList", name := "toArray", desc := "()[Ljava/lang/Object;" } : Jvm.MethodName) jdk_38_method_16_code (1 : Nat) (Option.some (Jvm.ClassFile.FieldType.array (Jvm.ClassFile.FieldType.object "java/lang/Object")))) a0 Z = true := hw _ (List.mem_of_getElem? (i := 142) rfl)
theorem w_135 {a0 : Array Value} {Z : State} (hw : ∀ d ∈ tables_1, d.before a0 Z = true) : Jvm.Cond.before (Jvm.Cond.methodLink "java/util/ImmutableCollections" (30 : Nat) ({ cls := "java/util/Collection", name := "toArray", desc := "()[Ljava/lang/Object;" } : Jvm.MethodName)) a0 Z = true := hw _ (List.mem_of_getElem? (i := 135) rfl)
theorem w_138 {a0 : Array Value} {Z : State} (hw : ∀ d ∈ tables_1, d.before a0 Z = true) : Jvm.Cond.before (Jvm.Cond.selects "java/util/ArrayList" ({ cls := "java/util/Collection", name := "toArray", desc := "()[Ljava/lang/Object;" } : Jvm.MethodName) ({ cls := "java/util/ArrayList", name := "toArray", desc := "()[Ljava/lang/Object;" } : Jvm.MethodName)) a0 Z = true := hw _ (List.mem_of_getElem? (i := 138) rfl)
abbrev y_21 : MethodName := ⟨"java/util/Collection", "toArray", "()[Ljava/lang/Object;"⟩
theorem w_136 {a0 : Array Value} {Z : State} (hw : ∀ d ∈ tables_1, d.before a0 Z = true) : Jvm.Cond.before (Jvm.Cond.declares ({ cls := "java/util/Collection", name := "toArray", desc := "()[Ljava/lang/Object;" } : Jvm.MethodName)) a0 Z = true := hw _ (List.mem_of_getElem? (i := 136) rfl)
theorem w_137 {a0 : Array Value} {Z : State} (hw : ∀ d ∈ tables_1, d.before a0 Z = true) : Jvm.Cond.before (Jvm.Cond.interfaceMethod "java/util/Collection" "java/util/Collection" "toArray" "()[Ljava/lang/Object;") a0 Z = true := hw _ (List.mem_of_getElem? (i := 137) rfl)
theorem w_139 {a0 : Array Value} {Z : State} (hw : ∀ d ∈ tables_1, d.before a0 Z = true) : Jvm.Cond.before (Jvm.Cond.instanceMethod ({ cls := "java/util/ArrayList", name := "toArray", desc := "()[Ljava/lang/Object;" } : Jvm.MethodName)) a0 Z = true := hw _ (List.mem_of_getElem? (i := 139) rfl)
theorem w_140 {a0 : Array Value} {Z : State} (hw : ∀ d ∈ tables_1, d.before a0 Z = true) : Jvm.Cond.before (Jvm.Cond.publicMethod ({ cls := "java/util/ArrayList", name := "toArray", desc := "()[Ljava/lang/Object;" } : Jvm.MethodName)) a0 Z = true := hw _ (List.mem_of_getElem? (i := 140) rfl)
theorem w_141 {a0 : Array Value} {Z : State} (hw : ∀ d ∈ tables_1, d.before a0 Z = true) : Jvm.Cond.before (Jvm.Cond.unhidden "java/util/ArrayList" "toArray" "()[Ljava/lang/Object;") a0 Z = true := hw _ (List.mem_of_getElem? (i := 141) rfl)
theorem d18_50 : decode jdk_56_method_3_code 50 = .ok (.invokestatic 34, 3) := by decide +kernel
theorem d24_0 : decode jdk_40_method_47_code 0 = .ok (.aload_n 0, 1) := by decide +kernel
theorem d24_1 : decode jdk_40_method_47_code 1 = .ok (.arraylength, 1) := by decide +kernel
theorem d24_2 : decode jdk_40_method_47_code 2 = .ok (.tableswitch 57 0 2 #[26, 32, 43], 26) := by decide +kernel
theorem d24_45 : decode jdk_40_method_47_code 45 = .ok (.new 96, 3) := by decide +kernel
theorem w_168 {a0 : Array Value} {Z : State} (hw : ∀ d ∈ tables_1, d.before a0 Z = true) : Jvm.Cond.before (Jvm.Cond.classLink "java/util/List" (96 : Nat) "java/util/ImmutableCollections$List12") a0 Z = true := hw _ (List.mem_of_getElem? (i := 168) rfl)
theorem w_170 {a0 : Array Value} {Z : State} (hw : ∀ d ∈ tables_1, d.before a0 Z = true) : Jvm.Cond.before (Jvm.Cond.initialized "java/util/ImmutableCollections$List12") a0 Z = true := hw _ (List.mem_of_getElem? (i := 170) rfl)
theorem w_194 {a0 : Array Value} {Z : State} (hw : ∀ d ∈ tables_1, d.before a0 Z = true) : Jvm.Cond.before (Jvm.Cond.laysFinal "java/util/ImmutableCollections$List12" "java/util/ImmutableCollections$List12" "e0" "Ljava/lang/Object;") a0 Z = true := hw _ (List.mem_of_getElem? (i := 194) rfl)
theorem w_196 {a0 : Array Value} {Z : State} (hw : ∀ d ∈ tables_1, d.before a0 Z = true) : Jvm.Cond.before (Jvm.Cond.laysFinal "java/util/ImmutableCollections$List12" "java/util/ImmutableCollections$List12" "e1" "Ljava/lang/Object;") a0 Z = true := hw _ (List.mem_of_getElem? (i := 196) rfl)
theorem d24_48 : decode jdk_40_method_47_code 48 = .ok (.dup, 1) := by decide +kernel
theorem d24_49 : decode jdk_40_method_47_code 49 = .ok (.aload_n 0, 1) := by decide +kernel
theorem d24_50 : decode jdk_40_method_47_code 50 = .ok (.iconst 0, 1) := by decide +kernel
theorem d24_51 : decode jdk_40_method_47_code 51 = .ok (.aaload, 1) := by decide +kernel
theorem d24_52 : decode jdk_40_method_47_code 52 = .ok (.aload_n 0, 1) := by decide +kernel
theorem d24_53 : decode jdk_40_method_47_code 53 = .ok (.iconst 1, 1) := by decide +kernel
theorem d24_54 : decode jdk_40_method_47_code 54 = .ok (.aaload, 1) := by decide +kernel
theorem d24_55 : decode jdk_40_method_47_code 55 = .ok (.invokespecial 100, 3) := by decide +kernel
theorem d25_0 : decode jdk_44_method_2_code 0 = .ok (.aload_n 0, 1) := by decide +kernel
theorem d25_1 : decode jdk_44_method_2_code 1 = .ok (.invokespecial 1, 3) := by decide +kernel
theorem d26_0 : decode jdk_46_method_1_code 0 = .ok (.aload_n 0, 1) := by decide +kernel
theorem d26_1 : decode jdk_46_method_1_code 1 = .ok (.invokespecial 1, 3) := by decide +kernel
theorem d27_0 : decode jdk_47_method_1_code 0 = .ok (.aload_n 0, 1) := by decide +kernel
theorem d27_1 : decode jdk_47_method_1_code 1 = .ok (.invokespecial 1, 3) := by decide +kernel
theorem w_187 {a0 : Array Value} {Z : State} (hw : ∀ d ∈ tables_1, d.before a0 Z = true) : Jvm.Cond.before (Jvm.Cond.methodLink "java/util/ImmutableCollections$AbstractImmutableCollection" (1 : Nat) ({ cls := "java/util/AbstractCollection", name := "<init>", desc := "()V" } : Jvm.MethodName)) a0 Z = true := hw _ (List.mem_of_getElem? (i := 187) rfl)
theorem d27_4 : decode jdk_47_method_1_code 4 = .ok (.return_, 1) := by decide +kernel
abbrev y_22 : MethodName := ⟨"java/util/ImmutableCollections$AbstractImmutableCollection", "<init>", "()V"⟩
theorem pn_8 : plainName "java/util/ImmutableCollections$AbstractImmutableCollection" = true := by first | (simp [plainName, overriddenIn]; done) | decide +kernel
-- java/util/ImmutableCollections$AbstractImmutableCollection.<init>()V
abbrev Rm26 : Room := { frames := 2, cells := 0, slots := 0, locals := 24 }
def Q26 (Z : State) (a1 : Addr) (h0 : Heap) (n0 : Nat) (v : Option Value) (h : Heap) (L : List Loc) : Prop := v = none ∧ Fr n0 L ∧ h = h0
theorem ef26 (a1 : Addr) (m : MethodId) : entryFrame m #[(.ref a1)] 1 = mkF m 0 #[.val (.ref a1)] [] := by first | (simp [entryFrame, mkF, argsToLocals, Value.category]; done) | rfl
theorem rm26 (l : Launch) (Z : State) (a0 : Array Value) (hw : ∀ d ∈ tables_1, d.before a0 Z = true) (ws : List Jvm.Cond) (a1 : Addr) (h0 : Heap) (n0 : Nat) (Z0 : n0 ≤ h0.size) :
    OwnMet l Z y_22 jdk_47_method_1_code 1 none ws Rm26 #[(.ref a1)] h0 (Q26 Z a1 h0 n0) := by
  refine own_body (plainFor_of_name pn_8) (ef26 a1) ?_
  intro p e s m below meth c s₁ hx hby hml hown hnm hret hZ X0 e0
  have N0 := Fr.nil n0
  obtain ⟨_, T2, L2, X2, hQ2, st2⟩ := own_special X0 hx hZ hown (y := y_2) (a := a1) (w_187 hw) (w_34 hw) (w_37 hw) (w_38 hw) (rm3 l Z a0 hw [] a1 h0 n0 Z0) e0 (Ls := #[.val (.ref a1)]) (by rw [hml]; rfl) (argsL := []) (rest := []) (lenOf pd_0 rfl) (hb hby d27_1) (W := 0)
  obtain ⟨rfl, Nq2, e2⟩ := hQ2
  have N2 := Fr.app N0 Nq2
  refine ⟨T2, _, _, _, none, X2, (fun _ => rfl), by decide, by decide, ?_, fun fs hr => ?_⟩
  · show Q26 Z a1 h0 n0 _ T2.heap _
    rw [e2]
    exact ⟨rfl, N2, rfl⟩
  · show Steps p.tables e below (s₁.setTop (mkF m 0 #[.val (.ref a1)] [])) _
    refine XS.aloadN X0.here hx rfl (hb hby d27_0) rfl rfl ?_
    refine st2 _ ?_
    exact X2.returnOut hx hret (hb hby d27_4) hr
theorem w_185 {a0 : Array Value} {Z : State} (hw : ∀ d ∈ tables_1, d.before a0 Z = true) : Jvm.Cond.before (Jvm.Cond.initialized "java/util/ImmutableCollections$AbstractImmutableCollection") a0 Z = true := hw _ (List.mem_of_getElem? (i := 185) rfl)
theorem w_186 {a0 : Array Value} {Z : State} (hw : ∀ d ∈ tables_1, d.before a0 Z = true) : Jvm.Cond.before (Jvm.Cond.code ({ cls := "java/util/ImmutableCollections$AbstractImmutableCollection", name := "<init>", desc := "()V" } : Jvm.MethodName) jdk_47_method_1_code (1 : Nat) (Option.none : Option Jvm.ClassFile.FieldType)) a0 Z = true := hw _ (List.mem_of_getElem? (i := 186) rfl)
theorem w_181 {a0 : Array Value} {Z : State} (hw : ∀ d ∈ tables_1, d.before a0 Z = true) : Jvm.Cond.before (Jvm.Cond.methodLink "java/util/ImmutableCollections$AbstractImmutableList" (1 : Nat) ({ cls := "java/util/ImmutableCollections$AbstractImmutableCollection", name := "<init>", desc := "()V" } : Jvm.MethodName)) a0 Z = true := hw _ (List.mem_of_getElem? (i := 181) rfl)
theorem w_182 {a0 : Array Value} {Z : State} (hw : ∀ d ∈ tables_1, d.before a0 Z = true) : Jvm.Cond.before (Jvm.Cond.instanceMethod ({ cls := "java/util/ImmutableCollections$AbstractImmutableCollection", name := "<init>", desc := "()V" } : Jvm.MethodName)) a0 Z = true := hw _ (List.mem_of_getElem? (i := 182) rfl)
theorem d26_4 : decode jdk_46_method_1_code 4 = .ok (.return_, 1) := by decide +kernel
abbrev y_23 : MethodName := ⟨"java/util/ImmutableCollections$AbstractImmutableList", "<init>", "()V"⟩
theorem pn_9 : plainName "java/util/ImmutableCollections$AbstractImmutableList" = true := by first | (simp [plainName, overriddenIn]; done) | decide +kernel
-- java/util/ImmutableCollections$AbstractImmutableList.<init>()V
abbrev Rm27 : Room := { frames := 3, cells := 0, slots := 0, locals := 36 }
def Q27 (Z : State) (a1 : Addr) (h0 : Heap) (n0 : Nat) (v : Option Value) (h : Heap) (L : List Loc) : Prop := v = none ∧ Fr n0 L ∧ h = h0
theorem ef27 (a1 : Addr) (m : MethodId) : entryFrame m #[(.ref a1)] 1 = mkF m 0 #[.val (.ref a1)] [] := by first | (simp [entryFrame, mkF, argsToLocals, Value.category]; done) | rfl
theorem rm27 (l : Launch) (Z : State) (a0 : Array Value) (hw : ∀ d ∈ tables_1, d.before a0 Z = true) (ws : List Jvm.Cond) (a1 : Addr) (h0 : Heap) (n0 : Nat) (Z0 : n0 ≤ h0.size) :
    OwnMet l Z y_23 jdk_46_method_1_code 1 none ws Rm27 #[(.ref a1)] h0 (Q27 Z a1 h0 n0) := by
  refine own_body (plainFor_of_name pn_9) (ef27 a1) ?_
  intro p e s m below meth c s₁ hx hby hml hown hnm hret hZ X0 e0
  have N0 := Fr.nil n0
  obtain ⟨_, T2, L2, X2, hQ2, st2⟩ := own_special X0 hx hZ hown (y := y_22) (a := a1) (w_181 hw) (w_182 hw) (w_185 hw) (w_186 hw) (rm26 l Z a0 hw [] a1 h0 n0 Z0) e0 (Ls := #[.val (.ref a1)]) (by rw [hml]; rfl) (argsL := []) (rest := []) (lenOf pd_0 rfl) (hb hby d26_1) (W := 0)
  obtain ⟨rfl, Nq2, e2⟩ := hQ2
  have N2 := Fr.app N0 Nq2
  refine ⟨T2, _, _, _, none, X2, (fun _ => rfl), by decide, by decide, ?_, fun fs hr => ?_⟩
  · show Q27 Z a1 h0 n0 _ T2.heap _
    rw [e2]
    exact ⟨rfl, N2, rfl⟩
  · show Steps p.tables e below (s₁.setTop (mkF m 0 #[.val (.ref a1)] [])) _
    refine XS.aloadN X0.here hx rfl (hb hby d26_0) rfl rfl ?_
    refine st2 _ ?_
    exact X2.returnOut hx hret (hb hby d26_4) hr
theorem w_179 {a0 : Array Value} {Z : State} (hw : ∀ d ∈ tables_1, d.before a0 Z = true) : Jvm.Cond.before (Jvm.Cond.initialized "java/util/ImmutableCollections$AbstractImmutableList") a0 Z = true := hw _ (List.mem_of_getElem? (i := 179) rfl)
theorem w_180 {a0 : Array Value} {Z : State} (hw : ∀ d ∈ tables_1, d.before a0 Z = true) : Jvm.Cond.before (Jvm.Cond.code ({ cls := "java/util/ImmutableCollections$AbstractImmutableList", name := "<init>", desc := "()V" } : Jvm.MethodName) jdk_46_method_1_code (1 : Nat) (Option.none : Option Jvm.ClassFile.FieldType)) a0 Z = true := hw _ (List.mem_of_getElem? (i := 180) rfl)
theorem w_175 {a0 : Array Value} {Z : State} (hw : ∀ d ∈ tables_1, d.before a0 Z = true) : Jvm.Cond.before (Jvm.Cond.methodLink "java/util/ImmutableCollections$List12" (1 : Nat) ({ cls := "java/util/ImmutableCollections$AbstractImmutableList", name := "<init>", desc := "()V" } : Jvm.MethodName)) a0 Z = true := hw _ (List.mem_of_getElem? (i := 175) rfl)
theorem w_176 {a0 : Array Value} {Z : State} (hw : ∀ d ∈ tables_1, d.before a0 Z = true) : Jvm.Cond.before (Jvm.Cond.instanceMethod ({ cls := "java/util/ImmutableCollections$AbstractImmutableList", name := "<init>", desc := "()V" } : Jvm.MethodName)) a0 Z = true := hw _ (List.mem_of_getElem? (i := 176) rfl)
theorem d25_4 : decode jdk_44_method_2_code 4 = .ok (.aload_n 0, 1) := by decide +kernel
theorem d25_5 : decode jdk_44_method_2_code 5 = .ok (.aload_n 1, 1) := by decide +kernel
theorem d25_6 : decode jdk_44_method_2_code 6 = .ok (.invokestatic 7, 3) := by decide +kernel
theorem d28_0 : decode jdk_31_method_10_code 0 = .ok (.aload_n 0, 1) := by decide +kernel
theorem d28_1 : decode jdk_31_method_10_code 1 = .ok (.ifnonnull 11, 3) := by decide +kernel
theorem d28_12 : decode jdk_31_method_10_code 12 = .ok (.aload_n 0, 1) := by decide +kernel
theorem d28_13 : decode jdk_31_method_10_code 13 = .ok (.areturn, 1) := by decide +kernel
abbrev y_24 : MethodName := ⟨"java/util/Objects", "requireNonNull", "(Ljava/lang/Object;)Ljava/lang/Object;"⟩
theorem pn_10 : plainName "java/util/Objects" = true := by first | (simp [plainName, overriddenIn]; done) | decide +kernel
-- java/util/Objects.requireNonNull(Ljava/lang/Object;)Ljava/lang/Object;
abbrev Rm28 : Room := { frames := 0, cells := 0, slots := 0, locals := 0 }
def Q28 (Z : State) (a1 : Addr) (h0 : Heap) (n0 : Nat) (v : Option Value) (h : Heap) (L : List Loc) : Prop := v = some (.ref a1) ∧ Fr n0 L ∧ h = h0
theorem ef28 (a1 : Addr) (m : MethodId) : entryFrame m #[(.ref a1)] 1 = mkF m 0 #[.val (.ref a1)] [] := by first | (simp [entryFrame, mkF, argsToLocals, Value.category]; done) | rfl
theorem rm28 (l : Launch) (Z : State) (a0 : Array Value) (hw : ∀ d ∈ tables_1, d.before a0 Z = true) (ws : List Jvm.Cond) (a1 : Addr) (h0 : Heap) (n0 : Nat) (Z0 : n0 ≤ h0.size) :
    OwnMet l Z y_24 jdk_31_method_10_code 1 (some (.object "java/lang/Object")) ws Rm28 #[(.ref a1)] h0 (Q28 Z a1 h0 n0) := by
  refine own_body (plainFor_of_name pn_10) (ef28 a1) ?_
  intro p e s m below meth c s₁ hx hby hml hown hnm hret hZ X0 e0
  have N0 := Fr.nil n0
  refine ⟨s₁, _, _, _, (some (.ref a1)), X0, nofun, by decide, by decide, ?_, fun fs hr => ?_⟩
  · show Q28 Z a1 h0 n0 _ s₁.heap _
    rw [e0]
    exact ⟨rfl, N0, rfl⟩
  · show Steps p.tables e below (s₁.setTop (mkF m 0 #[.val (.ref a1)] [])) _
    refine XS.aloadN X0.here hx rfl (hb hby d28_0) rfl rfl ?_
    refine XS.ifnonnullYes X0.here hx rfl (pc0 := 1) (pc' := 12) rfl (hb hby d28_1) rfl (by decide) (by decide) ?_
    refine XS.aloadN X0.here hx rfl (hb hby d28_12) rfl rfl ?_
    exact retOut X0 hx hret rfl (Or.inr (Or.inr (Or.inr (Or.inr ⟨rfl, rfl, rfl⟩)))) (hb hby d28_13) hr
theorem pd_13 : parseMethodDescriptor "(Ljava/lang/Object;)Ljava/lang/Object;" = some ⟨[(.object "java/lang/Object")], some (.object "java/lang/Object")⟩ := by decide +kernel
theorem w_191 {a0 : Array Value} {Z : State} (hw : ∀ d ∈ tables_1, d.before a0 Z = true) : Jvm.Cond.before (Jvm.Cond.initialized "java/util/Objects") a0 Z = true := hw _ (List.mem_of_getElem? (i := 191) rfl)
theorem w_192 {a0 : Array Value} {Z : State} (hw : ∀ d ∈ tables_1, d.before a0 Z = true) : Jvm.Cond.before (Jvm.Cond.code ({ cls := "java/util/Objects", name := "requireNonNull", desc := "(Ljava/lang/Object;)Ljava/lang/Object;" } : Jvm.MethodName) jdk_31_method_10_code (1 : Nat) (Option.some (Jvm.ClassFile.FieldType.object "java/lang/Object"))) a0 Z = true := hw _ (List.mem_of_getElem? (i := 192) rfl)
theorem w_189 {a0 : Array Value} {Z : State} (hw : ∀ d ∈ tables_1, d.before a0 Z = true) : Jvm.Cond.before (Jvm.Cond.methodLink "java/util/ImmutableCollections$List12" (7 : Nat) ({ cls := "java/util/Objects", name := "requireNonNull", desc := "(Ljava/lang/Object;)Ljava/lang/Object;" } : Jvm.MethodName)) a0 Z = true := hw _ (List.mem_of_getElem? (i := 189) rfl)
theorem w_190 {a0 : Array Value} {Z : State} (hw : ∀ d ∈ tables_1, d.before a0 Z = true) : Jvm.Cond.before (Jvm.Cond.static ({ cls := "java/util/Objects", name := "requireNonNull", desc := "(Ljava/lang/Object;)Ljava/lang/Object;" } : Jvm.MethodName)) a0 Z = true := hw _ (List.mem_of_getElem? (i := 190) rfl)
theorem d25_9 : decode jdk_44_method_2_code 9 = .ok (.putfield 13, 3) := by decide +kernel
theorem w_193 {a0 : Array Value} {Z : State} (hw : ∀ d ∈ tables_1, d.before a0 Z = true) : Jvm.Cond.before (Jvm.Cond.fieldLink "java/util/ImmutableCollections$List12" (13 : Nat) "java/util/ImmutableCollections$List12" "e0" "Ljava/lang/Object;") a0 Z = true := hw _ (List.mem_of_getElem? (i := 193) rfl)
theorem d25_12 : decode jdk_44_method_2_code 12 = .ok (.aload_n 0, 1) := by decide +kernel
theorem d25_13 : decode jdk_44_method_2_code 13 = .ok (.aload_n 2, 1) := by decide +kernel
theorem d25_14 : decode jdk_44_method_2_code 14 = .ok (.invokestatic 7, 3) := by decide +kernel
theorem d25_17 : decode jdk_44_method_2_code 17 = .ok (.putfield 24, 3) := by decide +kernel
theorem w_195 {a0 : Array Value} {Z : State} (hw : ∀ d ∈ tables_1, d.before a0 Z = true) : Jvm.Cond.before (Jvm.Cond.fieldLink "java/util/ImmutableCollections$List12" (24 : Nat) "java/util/ImmutableCollections$List12" "e1" "Ljava/lang/Object;") a0 Z = true := hw _ (List.mem_of_getElem? (i := 195) rfl)
theorem d25_20 : decode jdk_44_method_2_code 20 = .ok (.return_, 1) := by decide +kernel
abbrev y_25 : MethodName := ⟨"java/util/ImmutableCollections$List12", "<init>", "(Ljava/lang/Object;Ljava/lang/Object;)V"⟩
theorem pn_11 : plainName "java/util/ImmutableCollections$List12" = true := by first | (simp [plainName, overriddenIn]; done) | decide +kernel
-- java/util/ImmutableCollections$List12.<init>(Ljava/lang/Object;Ljava/lang/Object;)V
abbrev Rm29 : Room := { frames := 4, cells := 0, slots := 0, locals := 48 }
def Q29 (Z : State) (a1 : Addr) (a2 : Addr) (h0 : Heap) (n0 : Nat) (v : Option Value) (h : Heap) (L : List Loc) : Prop := v = none ∧ Fr n0 L ∧ Keep h0 h [a1] ∧ Exa Z h a1 "java/util/ImmutableCollections$List12" ∧ Fld Z h a1 "java/util/ImmutableCollections$List12" "e0" "Ljava/lang/Object;" (.ref a2) ∧ Fld Z h a1 "java/util/ImmutableCollections$List12" "e1" "Ljava/lang/Object;" (.ref a2)
theorem ef29 (a1 : Addr) (a2 : Addr) (m : MethodId) : entryFrame m #[(.ref a1), (.ref a2), (.ref a2)] 3 = mkF m 0 #[.val (.ref a1), .val (.ref a2), .val (.ref a2)] [] := by first | (simp [entryFrame, mkF, argsToLocals, Value.category]; done) | rfl
theorem rm29 (l : Launch) (Z : State) (a0 : Array Value) (hw : ∀ d ∈ tables_1, d.before a0 Z = true) (ws : List Jvm.Cond) (a1 : Addr) (a2 : Addr) (h0 : Heap) (n0 : Nat) (Z0 : n0 ≤ h0.size) (F_e0_a1 : Fld Z h0 a1 "java/util/ImmutableCollections$List12" "e0" "Ljava/lang/Object;" .null) (E_a1 : Exa Z h0 a1 "java/util/ImmutableCollections$List12") (g_a1 : n0 ≤ a1) (F_e1_a1 : Fld Z h0 a1 "java/util/ImmutableCollections$List12" "e1" "Ljava/lang/Object;" .null) :
    OwnMet l Z y_25 jdk_44_method_2_code 3 none ws Rm29 #[(.ref a1), (.ref a2), (.ref a2)] h0 (Q29 Z a1 a2 h0 n0) := by
  refine own_body (plainFor_of_name pn_11) (ef29 a1 a2) ?_
  intro p e s m below meth c s₁ hx hby hml hown hnm hret hZ X0 e0
  have N0 := Fr.nil n0
  obtain ⟨_, T3, L3, X3, hQ3, st3⟩ := own_special X0 hx hZ hown (y := y_23) (a := a1) (w_175 hw) (w_176 hw) (w_179 hw) (w_180 hw) (rm27 l Z a0 hw [] a1 h0 n0 Z0) e0 (Ls := #[.val (.ref a1), .val (.ref a2), .val (.ref a2)]) (by rw [hml]; rfl) (argsL := []) (rest := []) (lenOf pd_0 rfl) (hb hby d25_1) (W := 0)
  obtain ⟨rfl, Nq3, e3⟩ := hQ3
  have N3 := Fr.app N0 Nq3
  obtain ⟨_, T4, L4, X4, hQ4, st4⟩ := own_callS X3 hx hZ hown (y := y_24) (w_189 hw) (w_190 hw) (w_191 hw) (w_192 hw) (rm28 l Z a0 hw [] a2 h0 n0 Z0) e3 (Ls := #[.val (.ref a1), .val (.ref a2), .val (.ref a2)]) (by rw [hml]; rfl) (argsL := [(.ref a2)]) (rest := [(.ref a1)]) (lenOf pd_13 rfl) (hb hby d25_6) (W := 1)
  obtain ⟨rfl, Nq4, e4⟩ := hQ4
  have N4 := Fr.app N3 Nq4
  obtain ⟨T5, h5, X5, e5, W5, st5⟩ := putF X4 hx hZ hown (host := "") (Or.inl (w_193 hw)) Via.refl e4 F_e0_a1 E_a1 (Or.inr ⟨(w_194 hw), rfl, hnm⟩) (w_169 hw) (ty := (.object "java/lang/Object")) (by decide) rfl rfl (g := (mkF m 9 #[.val (.ref a1), .val (.ref a2), .val (.ref a2)] [(.ref a2), (.ref a1)])) rfl rfl (hb hby d25_9)
  have s0 := (Keep.of_wr W5).1
  have N5 := Fr.snoc X5 N4 g_a1
  have Fw5 : Fld Z h5 a1 "java/util/ImmutableCollections$List12" "e0" "Ljava/lang/Object;" (.ref a2) := F_e0_a1.same W5
  have z1 := Nat.le_trans Z0 s0
  obtain ⟨_, T6, L6, X6, hQ6, st6⟩ := own_callS X5 hx hZ hown (y := y_24) (w_189 hw) (w_190 hw) (w_191 hw) (w_192 hw) (rm28 l Z a0 hw [] a2 h5 n0 z1) e5 (Ls := #[.val (.ref a1), .val (.ref a2), .val (.ref a2)]) (by rw [hml]; rfl) (argsL := [(.ref a2)]) (rest := [(.ref a1)]) (lenOf pd_13 rfl) (hb hby d25_14) (W := 1)
  obtain ⟨rfl, Nq6, e6⟩ := hQ6
  have N6 := Fr.app N5 Nq6
  have Ex7 := (E_a1.wr W5)
  have Fl8 := (F_e1_a1.other W5 (Or.inr (slot_ne (Or.inr (w_196 hw)) (Or.inr (w_194 hw)) (by decide) (t := (.object "java/lang/Object")) (t' := (.object "java/lang/Object")) (by decide) (by decide))))
  obtain ⟨T9, h9, X9, e9, W9, st9⟩ := putF X6 hx hZ hown (host := "") (Or.inl (w_195 hw)) Via.refl e6 Fl8 Ex7 (Or.inr ⟨(w_196 hw), rfl, hnm⟩) (w_169 hw) (ty := (.object "java/lang/Object")) (by decide) rfl rfl (g := (mkF m 17 #[.val (.ref a1), .val (.ref a2), .val (.ref a2)] [(.ref a2), (.ref a1)])) rfl rfl (hb hby d25_17)
  have s1 := (Keep.of_wr W9).1
  have N9 := Fr.snoc X9 N6 g_a1
  have Fw9 : Fld Z h9 a1 "java/util/ImmutableCollections$List12" "e1" "Ljava/lang/Object;" (.ref a2) := Fl8.same W9
  have Ex10 := (Ex7.wr W9)
  have Fl11 := (Fw5.other W9 (Or.inr (slot_ne (Or.inr (w_194 hw)) (Or.inr (w_196 hw)) (by decide) (t := (.object "java/lang/Object")) (t' := (.object "java/lang/Object")) (by decide) (by decide))))
  have Kp0 : Keep h0 h5 [a1] := (Keep.refl h0 [a1]).wr W5 (Or.inl (List.mem_of_getElem? (i := 0) rfl))
  have Kp1 : Keep h0 h9 [a1] := Kp0.wr W9 (Or.inl (List.mem_of_getElem? (i := 0) rfl))
  refine ⟨T9, _, _, _, none, X9, (fun _ => rfl), by decide, by decide, ?_, fun fs hr => ?_⟩
  · show Q29 Z a1 a2 h0 n0 _ T9.heap _
    rw [e9]
    exact ⟨rfl, N9, Kp1, Ex10, Fl11, Fw9⟩
  · show Steps p.tables e below (s₁.setTop (mkF m 0 #[.val (.ref a1), .val (.ref a2), .val (.ref a2)] [])) _
    refine XS.aloadN X0.here hx rfl (hb hby d25_0) rfl rfl ?_
    refine st3 _ ?_
    refine XS.aloadN X3.here hx rfl (hb hby d25_4) rfl rfl ?_
    refine XS.aloadN X3.here hx rfl (hb hby d25_5) rfl rfl ?_
    refine st4 _ ?_
    refine st5 _ ?_
    refine XS.aloadN X5.here hx rfl (hb hby d25_12) rfl rfl ?_
    refine XS.aloadN X5.here hx rfl (hb hby d25_13) rfl rfl ?_
    refine st6 _ ?_
    refine st9 _ ?_
    exact X9.returnOut hx hret (hb hby d25_20) hr
theorem pd_14 : parseMethodDescriptor "(Ljava/lang/Object;Ljava/lang/Object;)V" = some ⟨[(.object "java/lang/Object"), (.object "java/lang/Object")], none⟩ := by decide +kernel
theorem w_174 {a0 : Array Value} {Z : State} (hw : ∀ d ∈ tables_1, d.before a0 Z = true) : Jvm.Cond.before (Jvm.Cond.code ({ cls := "java/util/ImmutableCollections$List12", name := "<init>", desc := "(Ljava/lang/Object;Ljava/lang/Object;)V" } : Jvm.MethodName) jdk_44_method_2_code (3 : Nat) (Option.none : Option Jvm.ClassFile.FieldType)) a0 Z = true := hw _ (List.mem_of_getElem? (i := 174) rfl)
theorem w_171 {a0 : Array Value} {Z : State} (hw : ∀ d ∈ tables_1, d.before a0 Z = true) : Jvm.Cond.before (Jvm.Cond.methodLink "java/util/List" (100 : Nat) ({ cls := "java/util/ImmutableCollections$List12", name := "<init>", desc := "(Ljava/lang/Object;Ljava/lang/Object;)V" } : Jvm.MethodName)) a0 Z = true := hw _ (List.mem_of_getElem? (i := 171) rfl)
theorem w_172 {a0 : Array Value} {Z : State} (hw : ∀ d ∈ tables_1, d.before a0 Z = true) : Jvm.Cond.before (Jvm.Cond.instanceMethod ({ cls := "java/util/ImmutableCollections$List12", name := "<init>", desc := "(Ljava/lang/Object;Ljava/lang/Object;)V" } : Jvm.MethodName)) a0 Z = true := hw _ (List.mem_of_getElem? (i := 172) rfl)
theorem d24_58 : decode jdk_40_method_47_code 58 = .ok (.areturn, 1) := by decide +kernel
abbrev y_26 : MethodName := ⟨"java/util/List", "of", "([Ljava/lang/Object;)Ljava/util/List;"⟩
theorem pn_12 : plainName "java/util/List" = true := by first | (simp [plainName, overriddenIn]; done) | decide +kernel
-- java/util/List.of([Ljava/lang/Object;)Ljava/util/List;
abbrev Rm30 : Room := { frames := 5, cells := 1, slots := 2, locals := 63 }
def Q30 (Z : State) (a1 : Addr) (a2 : Addr) (k3 : ClassId) (h0 : Heap) (n0 : Nat) (v : Option Value) (h : Heap) (L : List Loc) : Prop := ∃ b5 : Addr, v = some (.ref b5) ∧ Fr n0 L ∧ Keep h0 h [] ∧ h0.size ≤ b5 ∧ Exa Z h b5 "java/util/ImmutableCollections$List12" ∧ Fld Z h b5 "java/util/ImmutableCollections$List12" "e0" "Ljava/lang/Object;" (.ref a2) ∧ Fld Z h b5 "java/util/ImmutableCollections$List12" "e1" "Ljava/lang/Object;" (.ref a2)
theorem ef30 (a1 : Addr) (m : MethodId) : entryFrame m #[(.ref a1)] 2 = mkF m 0 #[.val (.ref a1), .unset] [] := by first | (simp [entryFrame, mkF, argsToLocals, Value.category]; done) | rfl
theorem rm30 (l : Launch) (Z : State) (a0 : Array Value) (hw : ∀ d ∈ tables_1, d.before a0 Z = true) (ws : List Jvm.Cond) (a1 : Addr) (a2 : Addr) (k3 : ClassId) (h0 : Heap) (n0 : Nat) (Z0 : n0 ≤ h0.size) (V_a1 : Arv Z h0 a1 k3 (.object "java/lang/Object") (2 : Int32) [(.ref a2), (.ref a2)] .null) :
    OwnMet l Z y_26 jdk_40_method_47_code 2 (some (.object "java/util/List")) ws Rm30 #[(.ref a1)] h0 (Q30 Z a1 a2 k3 h0 n0) := by
  refine own_body (plainFor_of_name pn_12) (ef30 a1) ?_
  intro p e s m below meth c s₁ hx hby hml hown hnm hret hZ X0 e0
  have N0 := Fr.nil n0
  obtain ⟨cl4, Ar4, q4, S4, M4, Hs4, G4⟩ := id V_a1
  obtain ⟨T5, h5, X5, e5, E5, A5, D5, -, st5⟩ := newO X0 hx hZ hown (w_168 hw) (w_169 hw) (w_170 hw) e0 (g := (mkF m 45 #[.val (.ref a1), .unset] [])) rfl (hb hby d24_45) (by decide) (by decide)
  obtain ⟨b5, g5⟩ : ∃ z, z = h0.size := ⟨_, rfl⟩
  rw [← g5] at A5 D5 st5
  have s0 := E5.1
  have Fn5_e0 : Fld Z h5 b5 "java/util/ImmutableCollections$List12" "e0" "Ljava/lang/Object;" .null := D5 (Or.inr (w_194 hw)) (ty := (.object "java/lang/Object")) (by decide)
  have Fn5_e1 : Fld Z h5 b5 "java/util/ImmutableCollections$List12" "e1" "Ljava/lang/Object;" .null := D5 (Or.inr (w_196 hw)) (ty := (.object "java/lang/Object")) (by decide)
  have Va6 := (V_a1.ext E5)
  obtain ⟨cl7, Ar7, q7, S7, M7, Hs7, G7⟩ := id Va6
  have hin8 : ¬ ((0 : Int32) < 0 ∨ cl7.slots.size ≤ ((0 : Int32)).toNatClampNeg) := inb_of S7 ⟨(by decide : ¬ ((0 : Int32) < (0 : Int32))), (by decide : (0 : Int32) < (2 : Int32))⟩
  have hin9 : ¬ ((1 : Int32) < 0 ∨ cl7.slots.size ≤ ((1 : Int32)).toNatClampNeg) := inb_of S7 ⟨(by decide : ¬ ((1 : Int32) < (0 : Int32))), (by decide : (1 : Int32) < (2 : Int32))⟩
  have g_b5 : n0 ≤ b5 := Nat.le_trans Z0 (Nat.le_of_eq g5.symm)
  have z1 := Nat.le_trans Z0 s0
  obtain ⟨_, T10, L10, X10, hQ10, st10⟩ := own_special X5 hx hZ hown (y := y_25) (a := b5) (w_171 hw) (w_172 hw) (w_170 hw) (w_174 hw) (rm29 l Z a0 hw [] b5 a2 h5 n0 z1 Fn5_e0 A5 g_b5 Fn5_e1) e5 (Ls := #[.val (.ref a1), .unset]) (by rw [hml]; rfl) (argsL := [(.ref a2), (.ref a2)]) (rest := [(.ref b5)]) (lenOf pd_14 rfl) (hb hby d24_55) (W := 1)
  obtain ⟨rfl, Nq10, K10, o10_0, o10_1, o10_2⟩ := hQ10
  have N10 := Fr.app N0 Nq10
  have s1 := K10.1
  have sz_b5 : h0.size ≤ b5 := (Nat.le_of_eq g5.symm)
  have Kp0 : Keep h0 h5 [] := (Keep.refl h0 []).ext E5
  have Kp1 : Keep h0 T10.heap [] := Kp0.trans K10 (allS (Or.inr sz_b5) all0)
  refine ⟨T10, _, _, _, (some (.ref b5)), X10, nofun, by decide, by decide, ?_, fun fs hr => ?_⟩
  · show Q30 Z a1 a2 k3 h0 n0 _ T10.heap _
    exact ⟨b5, rfl, N10, Kp1, sz_b5, o10_0, o10_1, o10_2⟩
  · show Steps p.tables e below (s₁.setTop (mkF m 0 #[.val (.ref a1), .unset] [])) _
    refine XS.aloadN X0.here hx rfl (hb hby d24_0) rfl rfl ?_
    refine X0.arraylength hx (by rw [e0]; exact Ar4.1) (State.isArrayOf_alike hZ.alike Ar4.2.1) (g := (mkF m 1 #[.val (.ref a1), .unset] [(.ref a1)])) rfl rfl (hb hby d24_1) _ ?_
    show Steps p.tables e below (s₁.setTop (mkF m 2 #[.val (.ref a1), .unset] [(.int cl4.slots.size.toInt32)])) _
    rw [len_of S4 M4]
    refine XS.tswIn X0.here hx rfl (pc0 := 2) (pc' := 45) rfl (hb hby d24_2) rfl (by decide) rfl (by decide) (by decide) ?_
    refine st5 _ ?_
    refine XS.dup X5.here hx rfl (hb hby d24_48) rfl rfl ?_
    refine XS.aloadN X5.here hx rfl (hb hby d24_49) rfl rfl ?_
    refine XS.iconst X5.here hx rfl (hb hby d24_50) ?_
    refine X5.aaload hx (j := (0 : Int32)) (v := (.ref a2)) (by rw [e5]; exact Ar7.1) (State.isArrayOf_alike hZ.alike Ar7.2.1) rfl Ar7.2.2 hin8 (Has.at Hs7 hin8 rfl) (g := (mkF m 51 #[.val (.ref a1), .unset] [(.int (0 : Int32)), (.ref a1), (.ref b5), (.ref b5)])) rfl rfl (hb hby d24_51) _ ?_
    refine XS.aloadN X5.here hx rfl (hb hby d24_52) rfl rfl ?_
    refine XS.iconst X5.here hx rfl (hb hby d24_53) ?_
    refine X5.aaload hx (j := (1 : Int32)) (v := (.ref a2)) (by rw [e5]; exact Ar7.1) (State.isArrayOf_alike hZ.alike Ar7.2.1) rfl Ar7.2.2 hin9 (Has.at Hs7 hin9 rfl) (g := (mkF m 54 #[.val (.ref a1), .unset] [(.int (1 : Int32)), (.ref a1), (.ref a2), (.ref b5), (.ref b5)])) rfl rfl (hb hby d24_54) _ ?_
    refine st10 _ ?_
    exact retOut X10 hx hret rfl (Or.inr (Or.inr (Or.inr (Or.inr ⟨rfl, rfl, rfl⟩)))) (hb hby d24_58) hr
theorem pd_15 : parseMethodDescriptor "([Ljava/lang/Object;)Ljava/util/List;" = some ⟨[(.array (.object "java/lang/Object"))], some (.object "java/util/List")⟩ := by decide +kernel
theorem w_114 {a0 : Array Value} {Z : State} (hw : ∀ d ∈ tables_1, d.before a0 Z = true) : Jvm.Cond.before (Jvm.Cond.initialized "java/util/List") a0 Z = true := hw _ (List.mem_of_getElem? (i := 114) rfl)
theorem w_167 {a0 : Array Value} {Z : State} (hw : ∀ d ∈ tables_1, d.before a0 Z = true) : Jvm.Cond.before (Jvm.Cond.code ({ cls := "java/util/List", name := "of", desc := "([Ljava/lang/Object;)Ljava/util/List;" } : Jvm.MethodName) jdk_40_method_47_code (2 : Nat) (Option.some (Jvm.ClassFile.FieldType.object "java/util/List"))) a0 Z = true := hw _ (List.mem_of_getElem? (i := 167) rfl)
theorem w_165 {a0 : Array Value} {Z : State} (hw : ∀ d ∈ tables_1, d.before a0 Z = true) : Jvm.Cond.before (Jvm.Cond.methodLink "java/util/ImmutableCollections" (34 : Nat) ({ cls := "java/util/List", name := "of", desc := "([Ljava/lang/Object;)Ljava/util/List;" } : Jvm.MethodName)) a0 Z = true := hw _ (List.mem_of_getElem? (i := 165) rfl)
theorem w_166 {a0 : Array Value} {Z : State} (hw : ∀ d ∈ tables_1, d.before a0 Z = true) : Jvm.Cond.before (Jvm.Cond.static ({ cls := "java/util/List", name := "of", desc := "([Ljava/lang/Object;)Ljava/util/List;" } : Jvm.MethodName)) a0 Z = true := hw _ (List.mem_of_getElem? (i := 166) rfl)
theorem d18_53 : decode jdk_56_method_3_code 53 = .ok (.areturn, 1) := by decide +kernel
abbrev y_27 : MethodName := ⟨"java/util/ImmutableCollections", "listCopy", "(Ljava/util/Collection;)Ljava/util/List;"⟩
theorem pn_13 : plainName "java/util/ImmutableCollections" = true := by first | (simp [plainName, overriddenIn]; done) | decide +kernel
-- java/util/ImmutableCollections.listCopy(Ljava/util/Collection;)Ljava/util/List;
abbrev Rm31 : Room := { frames := 6, cells := 2, slots := 4, locals := 76 }
def Q31 (Z : State) (a1 : Addr) (a5 : Addr) (a6 : Addr) (a7 : Addr) (k8 : ClassId) (h0 : Heap) (n0 : Nat) (v : Option Value) (h : Heap) (L : List Loc) : Prop := ∃ b10_b5 : Addr, v = some (.ref b10_b5) ∧ Fr n0 L ∧ Keep h0 h [] ∧ h0.size ≤ b10_b5 ∧ Exa Z h b10_b5 "java/util/ImmutableCollections$List12" ∧ Fld Z h b10_b5 "java/util/ImmutableCollections$List12" "e0" "Ljava/lang/Object;" (.ref a7) ∧ Fld Z h b10_b5 "java/util/ImmutableCollections$List12" "e1" "Ljava/lang/Object;" (.ref a7)
theorem ef31 (a1 : Addr) (m : MethodId) : entryFrame m #[(.ref a1)] 2 = mkF m 0 #[.val (.ref a1), .unset] [] := by first | (simp [entryFrame, mkF, argsToLocals, Value.category]; done) | rfl
theorem rm31 (l : Launch) (Z : State) (a0 : Array Value) (hw : ∀ d ∈ tables_1, d.before a0 Z = true) (ws : List Jvm.Cond) (a1 : Addr) (a5 : Addr) (a6 : Addr) (a7 : Addr) (k8 : ClassId) (h0 : Heap) (n0 : Nat) (Z0 : n0 ≤ h0.size) (E_a1 : Exa Z h0 a1 "java/util/ArrayList") (F_size_a1 : Fld Z h0 a1 "java/util/ArrayList" "size" "I" (.int (2 : Int32))) (F_elementData_a1 : Fld Z h0 a1 "java/util/ArrayList" "elementData" "[Ljava/lang/Object;" (.ref a5)) (E_a5 : Exa Z h0 a5 "[Ljava/lang/Object;") (M_1 : OwnMir Z "[Ljava/lang/Object;" a6) (V_a5 : Arv Z h0 a5 k8 (.object "java/lang/Object") (10 : Int32) [(.ref a7), (.ref a7), .null, .null, .null, .null, .null, .null, .null, .null] .null) (E_a7 : Exa Z h0 a7 "com/example/feedergen/feedergen/core/StopCandidate") :
    OwnMet l Z y_27 jdk_56_method_3_code 2 (some (.object "java/util/List")) ws Rm31 #[(.ref a1)] h0 (Q31 Z a1 a5 a6 a7 k8 h0 n0) := by
  refine own_body (plainFor_of_name pn_13) (ef31 a1) ?_
  intro p e s m below meth c s₁ hx hby hml hown hnm hret hZ X0 e0
  have N0 := Fr.nil n0
  obtain ⟨T2, X2, e2, st2⟩ := instNo X0 hx hZ hown (w_120 hw) e0 E_a1 (own_NSno (w_121 hw) (w_169 hw) (NS.step (w_121 hw) (NS.step (w_122 hw) (NS.step (w_123 hw) (own_NSroot (w_124 hw) (w_169 hw) (by decide)) (by decide)) (by decide)) (by decide)) (by decide)) (g := (mkF m 1 #[.val (.ref a1), .unset] [(.ref a1)])) rfl rfl (hb hby d18_1)
  obtain ⟨T3, X3, e3, st3⟩ := instNo X2 hx hZ hown (w_125 hw) e2 E_a1 (own_NSno (w_121 hw) (w_240 hw) (NS.step (w_121 hw) (NS.step (w_122 hw) (NS.step (w_123 hw) (own_NSroot (w_124 hw) (w_240 hw) (by decide)) (by decide)) (by decide)) (by decide)) (by decide)) (g := (mkF m 8 #[.val (.ref a1), .unset] [(.ref a1)])) rfl rfl (hb hby d18_8)
  obtain ⟨_, T4, L4, X4, hQ4, st4⟩ := own_iface X3 hx hZ hown (y := y_16) (z := y_15) E_a1 (w_126 hw) (w_127 hw) (w_128 hw) (w_129 hw) (w_130 hw) (w_131 hw) (w_132 hw) (w_133 hw) (w_23 hw) (w_134 hw) (rm21 l Z a0 hw [] a1 h0 n0 Z0 F_size_a1) e3 (Ls := #[.val (.ref a1), .unset]) (by rw [hml]; rfl) (argsL := []) (rest := []) (lenOf pd_10 rfl) (hb hby d18_32) (W := 0)
  obtain ⟨rfl, Nq4, e4⟩ := hQ4
  have N4 := Fr.app N0 Nq4
  obtain ⟨_, T9, L9, X9, hQ9, st9⟩ := own_iface X4 hx hZ hown (y := y_21) (z := y_20) E_a1 (w_135 hw) (w_136 hw) (w_137 hw) (w_138 hw) (w_139 hw) (w_140 hw) (w_141 hw) (w_133 hw) (w_23 hw) (w_142 hw) (rm25 l Z a0 hw [] a1 a5 a6 a7 k8 h0 n0 Z0 F_elementData_a1 F_size_a1 E_a5 M_1 V_a5 E_a7) e4 (Ls := #[.val (.ref a1), .unset]) (by rw [hml]; rfl) (argsL := []) (rest := []) (lenOf pd_4 rfl) (hb hby d18_45) (W := 0)
  obtain ⟨b9_b8_b6_b4, k9_k8_k6_k4, rfl, Nq9, K9, o9_0, o9_1, o9_2, o9_3⟩ := hQ9
  have N9 := Fr.app N4 Nq9
  have s0 := K9.1
  have z1 := Nat.le_trans Z0 s0
  obtain ⟨_, T10, L10, X10, hQ10, st10⟩ := own_callS X9 hx hZ hown (y := y_26) (w_165 hw) (w_166 hw) (w_114 hw) (w_167 hw) (rm30 l Z a0 hw [] b9_b8_b6_b4 a7 k9_k8_k6_k4 T9.heap n0 z1 o9_3) rfl (Ls := #[.val (.ref a1), .unset]) (by rw [hml]; rfl) (argsL := [(.ref b9_b8_b6_b4)]) (rest := []) (lenOf pd_15 rfl) (hb hby d18_50) (W := 0)
  obtain ⟨b10_b5, rfl, Nq10, K10, o10_0, o10_1, o10_2, o10_3⟩ := hQ10
  have N10 := Fr.app N9 Nq10
  have s1 := K10.1
  have sz_b10_b5 : h0.size ≤ b10_b5 := Nat.le_trans s0 o10_0
  have Kp0 : Keep h0 T9.heap [] := (Keep.refl h0 []).trans K9 all0
  have Kp1 : Keep h0 T10.heap [] := Kp0.trans K10 all0
  refine ⟨T10, _, _, _, (some (.ref b10_b5)), X10, nofun, by decide, by decide, ?_, fun fs hr => ?_⟩
  · show Q31 Z a1 a5 a6 a7 k8 h0 n0 _ T10.heap _
    exact ⟨b10_b5, rfl, N10, Kp1, sz_b10_b5, o10_1, o10_2, o10_3⟩
  · show Steps p.tables e below (s₁.setTop (mkF m 0 #[.val (.ref a1), .unset] [])) _
    refine XS.aloadN X0.here hx rfl (hb hby d18_0) rfl rfl ?_
    refine st2 _ ?_
    refine XS.ifNo X2.here hx rfl (hb hby d18_4) rfl ((if0 _ _).trans (teq ((by decide : (0 : Int32) = (0 : Int32)) : (0 : Int32) = (0 : Int32))).2) ?_
    refine XS.aloadN X2.here hx rfl (hb hby d18_7) rfl rfl ?_
    refine st3 _ ?_
    refine XS.ifYes X3.here hx rfl (pc0 := 11) (pc' := 31) rfl (hb hby d18_11) rfl ((if0 _ _).trans (teq ((by decide : (0 : Int32) = (0 : Int32)) : (0 : Int32) = (0 : Int32))).1) (by decide) (by decide) ?_
    refine XS.aloadN X3.here hx rfl (hb hby d18_31) rfl rfl ?_
    refine st4 _ ?_
    refine XS.ifYes X4.here hx rfl (pc0 := 37) (pc' := 44) rfl (hb hby d18_37) rfl ((if0 _ _).trans (teq ((by decide : (0 : Int32) = (0 : Int32)) : (0 : Int32) = (0 : Int32))).1) (by decide) (by decide) ?_
    refine XS.aloadN X4.here hx rfl (hb hby d18_44) rfl rfl ?_
    refine st9 _ ?_
    refine st10 _ ?_
    show Steps p.tables e below (T10.setTop (mkF m 53 #[.val (.ref a1), .unset] [(.ref b10_b5)])) _
    exact retOut X10 hx hret rfl (Or.inr (Or.inr (Or.inr (Or.inr ⟨rfl, rfl, rfl⟩)))) (hb hby d18_53) hr
theorem pd_16 : parseMethodDescriptor "(Ljava/util/Collection;)Ljava/util/List;" = some ⟨[(.object "java/util/Collection")], some (.object "java/util/List")⟩ := by decide +kernel
theorem w_118 {a0 : Array Value} {Z : State} (hw : ∀ d ∈ tables_1, d.before a0 Z = true) : Jvm.Cond.before (Jvm.Cond.initialized "java/util/ImmutableCollections") a0 Z = true := hw _ (List.mem_of_getElem? (i := 118) rfl)
theorem w_119 {a0 : Array Value} {Z : State} (hw : ∀ d ∈ tables_1, d.before a0 Z = true) : Jvm.Cond.before (Jvm.Cond.code ({ cls := "java/util/ImmutableCollections", name := "listCopy", desc := "(Ljava/util/Collection;)Ljava/util/List;" } : Jvm.MethodName) jdk_56_method_3_code (2 : Nat) (Option.some (Jvm.ClassFile.FieldType.object "java/util/List"))) a0 Z = true := hw _ (List.mem_of_getElem? (i := 119) rfl)
theorem w_116 {a0 : Array Value} {Z : State} (hw : ∀ d ∈ tables_1, d.before a0 Z = true) : Jvm.Cond.before (Jvm.Cond.methodLink "java/util/List" (112 : Nat) ({ cls := "java/util/ImmutableCollections", name := "listCopy", desc := "(Ljava/util/Collection;)Ljava/util/List;" } : Jvm.MethodName)) a0 Z = true := hw _ (List.mem_of_getElem? (i := 116) rfl)
theorem w_117 {a0 : Array Value} {Z : State} (hw : ∀ d ∈ tables_1, d.before a0 Z = true) : Jvm.Cond.before (Jvm.Cond.static ({ cls := "java/util/ImmutableCollections", name := "listCopy", desc := "(Ljava/util/Collection;)Ljava/util/List;" } : Jvm.MethodName)) a0 Z = true := hw _ (List.mem_of_getElem? (i := 117) rfl)
theorem d17_4 : decode jdk_40_method_48_code 4 = .ok (.areturn, 1) := by decide +kernel
abbrev y_28 : MethodName := ⟨"java/util/List", "copyOf", "(Ljava/util/Collection;)Ljava/util/List;"⟩
-- java/util/List.copyOf(Ljava/util/Collection;)Ljava/util/List;
abbrev Rm32 : Room := { frames := 7, cells := 2, slots := 4, locals := 89 }
def Q32 (Z : State) (a1 : Addr) (a2 : Addr) (a3 : Addr) (a4 : Addr) (k5 : ClassId) (h0 : Heap) (n0 : Nat) (v : Option Value) (h : Heap) (L : List Loc) : Prop := ∃ b6_b10_b5 : Addr, v = some (.ref b6_b10_b5) ∧ Fr n0 L ∧ Keep h0 h [] ∧ h0.size ≤ b6_b10_b5 ∧ Exa Z h b6_b10_b5 "java/util/ImmutableCollections$List12" ∧ Fld Z h b6_b10_b5 "java/util/ImmutableCollections$List12" "e0" "Ljava/lang/Object;" (.ref a4) ∧ Fld Z h b6_b10_b5 "java/util/ImmutableCollections$List12" "e1" "Ljava/lang/Object;" (.ref a4)
theorem ef32 (a1 : Addr) (m : MethodId) : entryFrame m #[(.ref a1)] 1 = mkF m 0 #[.val (.ref a1)] [] := by first | (simp [entryFrame, mkF, argsToLocals, Value.category]; done) | rfl
theorem rm32 (l : Launch) (Z : State) (a0 : Array Value) (hw : ∀ d ∈ tables_1, d.before a0 Z = true) (ws : List Jvm.Cond) (a1 : Addr) (a2 : Addr) (a3 : Addr) (a4 : Addr) (k5 : ClassId) (h0 : Heap) (n0 : Nat) (Z0 : n0 ≤ h0.size) (E_a1 : Exa Z h0 a1 "java/util/ArrayList") (F_size_a1 : Fld Z h0 a1 "java/util/ArrayList" "size" "I" (.int (2 : Int32))) (F_elementData_a1 : Fld Z h0 a1 "java/util/ArrayList" "elementData" "[Ljava/lang/Object;" (.ref a2)) (E_a2 : Exa Z h0 a2 "[Ljava/lang/Object;") (M_1 : OwnMir Z "[Ljava/lang/Object;" a3) (V_a2 : Arv Z h0 a2 k5 (.object "java/lang/Object") (10 : Int32) [(.ref a4), (.ref a4), .null, .null, .null, .null, .null, .null, .null, .null] .null) (E_a4 : Exa Z h0 a4 "com/example/feedergen/feedergen/core/StopCandidate") :
    OwnMet l Z y_28 jdk_40_method_48_code 1 (some (.object "java/util/List")) ws Rm32 #[(.ref a1)] h0 (Q32 Z a1 a2 a3 a4 k5 h0 n0) := by
  refine own_body (plainFor_of_name pn_12) (ef32 a1) ?_
  intro p e s m below meth c s₁ hx hby hml hown hnm hret hZ X0 e0
  have N0 := Fr.nil n0
  obtain ⟨_, T6, L6, X6, hQ6, st6⟩ := own_callS X0 hx hZ hown (y := y_27) (w_116 hw) (w_117 hw) (w_118 hw) (w_119 hw) (rm31 l Z a0 hw [] a1 a2 a3 a4 k5 h0 n0 Z0 E_a1 F_size_a1 F_elementData_a1 E_a2 M_1 V_a2 E_a4) e0 (Ls := #[.val (.ref a1)]) (by rw [hml]; rfl) (argsL := [(.ref a1)]) (rest := []) (lenOf pd_16 rfl) (hb hby d17_1) (W := 0)
  obtain ⟨b6_b10_b5, rfl, Nq6, K6, o6_0, o6_1, o6_2, o6_3⟩ := hQ6
  have N6 := Fr.app N0 Nq6
  have s0 := K6.1
  have sz_b6_b10_b5 : h0.size ≤ b6_b10_b5 := o6_0
  have Kp0 : Keep h0 T6.heap [] := (Keep.refl h0 []).trans K6 all0
  refine ⟨T6, _, _, _, (some (.ref b6_b10_b5)), X6, nofun, by decide, by decide, ?_, fun fs hr => ?_⟩
  · show Q32 Z a1 a2 a3 a4 k5 h0 n0 _ T6.heap _
    exact ⟨b6_b10_b5, rfl, N6, Kp0, sz_b6_b10_b5, o6_1, o6_2, o6_3⟩
  · show Steps p.tables e below (s₁.setTop (mkF m 0 #[.val (.ref a1)] [])) _
    refine XS.aloadN X0.here hx rfl (hb hby d17_0) rfl rfl ?_
    refine st6 _ ?_
    exact retOut X6 hx hret rfl (Or.inr (Or.inr (Or.inr (Or.inr ⟨rfl, rfl, rfl⟩)))) (hb hby d17_4) hr
theorem w_115 {a0 : Array Value} {Z : State} (hw : ∀ d ∈ tables_1, d.before a0 Z = true) : Jvm.Cond.before (Jvm.Cond.code ({ cls := "java/util/List", name := "copyOf", desc := "(Ljava/util/Collection;)Ljava/util/List;" } : Jvm.MethodName) jdk_40_method_48_code (1 : Nat) (Option.some (Jvm.ClassFile.FieldType.object "java/util/List"))) a0 Z = true := hw _ (List.mem_of_getElem? (i := 115) rfl)
theorem w_112 {a0 : Array Value} {Z : State} (hw : ∀ d ∈ tables_1, d.before a0 Z = true) : Jvm.Cond.before (Jvm.Cond.methodLink "com/example/feedergen/feedergen/core/DrivenLine" (22 : Nat) ({ cls := "java/util/List", name := "copyOf", desc := "(Ljava/util/Collection;)Ljava/util/List;" } : Jvm.MethodName)) a0 Z = true := hw _ (List.mem_of_getElem? (i := 112) rfl)
theorem w_113 {a0 : Array Value} {Z : State} (hw : ∀ d ∈ tables_1, d.before a0 Z = true) : Jvm.Cond.before (Jvm.Cond.static ({ cls := "java/util/List", name := "copyOf", desc := "(Ljava/util/Collection;)Ljava/util/List;" } : Jvm.MethodName)) a0 Z = true := hw _ (List.mem_of_getElem? (i := 113) rfl)
theorem d15_58 : decode prog_9_method_1_code 58 = .ok (.astore_n 1, 1) := by decide +kernel
theorem d15_59 : decode prog_9_method_1_code 59 = .ok (.aload_n 2, 1) := by decide +kernel
theorem d15_60 : decode prog_9_method_1_code 60 = .ok (.invokestatic 22, 3) := by decide +kernel
-- java/util/Arrays.copyOf([Ljava/lang/Object;ILjava/lang/Class;)[Ljava/lang/Object;
abbrev Rm33 : Room := { frames := 1, cells := 1, slots := 2, locals := 18 }
def Q33 (Z : State) (a1 : Addr) (a2 : Addr) (a5 : Addr) (a6 : Addr) (k7 : ClassId) (h0 : Heap) (n0 : Nat) (v : Option Value) (h : Heap) (L : List Loc) : Prop := ∃ b4 : Addr, ∃ k4 : ClassId, v = some (.ref b4) ∧ Fr n0 L ∧ Keep h0 h [] ∧ h0.size ≤ b4 ∧ Exa Z h b4 "[Ljava/lang/Object;" ∧ Ovr Z k4 "java/lang/Object" ∧ Arv Z h b4 k4 (.object "java/lang/Object") (2 : Int32) [(.ref a5), (.ref a6)] .null
theorem ef33 (a1 : Addr) (a2 : Addr) (m : MethodId) : entryFrame m #[(.ref a1), (.int (2 : Int32)), (.ref a2)] 4 = mkF m 0 #[.val (.ref a1), .val (.int (2 : Int32)), .val (.ref a2), .unset] [] := by first | (simp [entryFrame, mkF, argsToLocals, Value.category]; done) | rfl
theorem rm33 (l : Launch) (Z : State) (a0 : Array Value) (hw : ∀ d ∈ tables_1, d.before a0 Z = true) (ws : List Jvm.Cond) (a1 : Addr) (a2 : Addr) (a5 : Addr) (a6 : Addr) (k7 : ClassId) (h0 : Heap) (n0 : Nat) (Z0 : n0 ≤ h0.size) (M_1 : OwnMir Z "[Ljava/lang/Object;" a2) (V_a1 : Arv Z h0 a1 k7 (.object "java/lang/Object") (10 : Int32) [(.ref a5), (.ref a6), .null, .null, .null, .null, .null, .null, .null, .null] .null) (E_a6 : Exa Z h0 a6 "java/lang/Double") (E_a5 : Exa Z h0 a5 "java/lang/Double") :
    OwnMet l Z y_18 jdk_65_method_120_code 4 (some (.array (.object "java/lang/Object"))) ws Rm33 #[(.ref a1), (.int (2 : Int32)), (.ref a2)] h0 (Q33 Z a1 a2 a5 a6 k7 h0 n0) := by
  refine own_body (plainFor_of_name pn_7) (ef33 a1 a2) ?_
  intro p e s m below meth c s₁ hx hby hml hown hnm hret hZ X0 e0
  have N0 := Fr.nil n0
  obtain ⟨T3, X3, e3, st3⟩ := own_ldcM X0 hx hZ hown (w_156 hw) M_1 e0 (g := (mkF m 1 #[.val (.ref a1), .val (.int (2 : Int32)), .val (.ref a2), .unset] [(.ref a2)])) rfl (hb hby d22_1)
  obtain ⟨T4, h4, k4, X4, e4, E4, A4, B4, O4, st4⟩ := newRE X3 hx hZ hown (w_157 hw) (w_74 hw) e3 (g := (mkF m 7 #[.val (.ref a1), .val (.int (2 : Int32)), .val (.ref a2), .unset] [(.int (2 : Int32))])) rfl (hb hby d22_7) rfl (by decide) (cap := 2) (by decide) (by decide) (by decide) (by decide) (ad := "[Ljava/lang/Object;") (by decide)
  obtain ⟨b4, g4⟩ : ∃ z, z = h0.size := ⟨_, rfl⟩
  rw [← g4] at A4 B4 st4
  have s0 := E4.1
  have Vn4 : Arv Z h4 b4 k4 (.object "java/lang/Object") (2 : Int32) [.null, .null] .null := (Arv.new A4 (by decide)).pad (pad_rep [] .null 2)
  have Va8 := (V_a1.ext E4)
  obtain ⟨cl9, Ar9, q9, S9, M9, Hs9, G9⟩ := id Va8
  have z1 := Nat.le_trans Z0 s0
  obtain ⟨_, T10, L10, X10, hQ10, st10⟩ := own_callS X4 hx hZ hown (y := y_17) (w_158 hw) (w_159 hw) (w_71 hw) (w_160 hw) (rm22 l Z a0 hw []  h4 n0 z1) e4 (Ls := #[.val (.ref a1), .val (.int (2 : Int32)), .val (.ref a2), .val (.ref b4)]) (by rw [hml]; rfl) (argsL := [(.int (10 : Int32)), (.int (2 : Int32))]) (rest := [(.int (0 : Int32)), (.ref b4), (.int (0 : Int32)), (.ref a1)]) (lenOf pd_2 rfl) (hb hby d22_32) (W := 4)
  obtain ⟨rfl, Nq10, e10⟩ := hQ10
  have N10 := Fr.app N0 Nq10
  obtain ⟨cl11, Ar11, q11, S11, M11, Hs11, G11⟩ := id Vn4
  have Ex12 := (E_a6.ext E4)
  have Ex13 := (E_a5.ext E4)
  have g_b4 : n0 ≤ b4 := Nat.le_trans Z0 (Nat.le_of_eq g4.symm)
  obtain ⟨T14, h14, L14, X14, e14, N14, K14, V14, st14⟩ := cpA X10 hx hZ hown (w_161 hw) (w_164 hw) (w_162 hw) (w_163 hw) e10 Va8 Vn4 (us := [(.ref a5), (.ref a6)]) (Or.inr ⟨rfl, rfl, ⟨(Sto.ofV Ar11 q11 O4 (Ins.of_exa Ex13 (w_95 hw))), ⟨(Sto.ofV Ar11 q11 O4 (Ins.of_exa Ex12 (w_95 hw))), trivial⟩⟩⟩) (by decide) (by decide) (by decide) (by decide) (by decide) (by rfl) (by decide) N10 g_b4 (g := (mkF m 35 #[.val (.ref a1), .val (.int (2 : Int32)), .val (.ref a2), .val (.ref b4)] [(.int (2 : Int32)), (.int (0 : Int32)), (.ref b4), (.int (0 : Int32)), (.ref a1)])) rfl (by rw [hml]; rfl) rfl (hb hby d22_35) (by decide) (W := 0) (by show 2 * 0 + _ ≤ _; exact Nat.le_of_eq rfl) (by decide)
  have s1 := K14.1
  have Vc14 : Arv Z h14 b4 k4 (.object "java/lang/Object") (2 : Int32) [(.ref a5), (.ref a6)] .null := V14
  have sz_b4 : h0.size ≤ b4 := (Nat.le_of_eq g4.symm)
  have Ex15 := (B4.keep K14)
  have Kp0 : Keep h0 h4 [] := (Keep.refl h0 []).ext E4
  have Kp1 : Keep h0 h14 [] := Kp0.trans K14 (allS (Or.inr sz_b4) all0)
  refine ⟨T14, _, _, _, (some (.ref b4)), X14, nofun, by decide, by decide, ?_, fun fs hr => ?_⟩
  · show Q33 Z a1 a2 a5 a6 k7 h0 n0 _ T14.heap _
    rw [e14]
    exact ⟨b4, k4, rfl, N14, Kp1, sz_b4, Ex15, O4, Vc14⟩
  · show Steps p.tables e below (s₁.setTop (mkF m 0 #[.val (.ref a1), .val (.int (2 : Int32)), .val (.ref a2), .unset] [])) _
    refine XS.aloadN X0.here hx rfl (hb hby d22_0) rfl rfl ?_
    refine st3 _ ?_
    refine Jvm.RoadKit.acmp (g := (mkF m 3 #[.val (.ref a1), .val (.int (2 : Int32)), .val (.ref a2), .unset] [(.ref a2), (.ref a2)])) X3 hx rfl rfl rfl (pc0 := 3) (pc' := 6) (same := true) rfl (hb hby d22_3) rfl (decide_eq_true rfl) (by decide) (by decide) ?_
    refine XS.iloadN X3.here hx rfl (hb hby d22_6) rfl ?_
    refine st4 _ ?_
    refine XS.goto X4.here hx rfl (pc0 := 10) (pc' := 24) rfl (hb hby d22_10) (by decide) (by decide) ?_
    refine XS.astoreN X4.here hx rfl (hb hby d22_24) rfl rfl (l' := #[.val (.ref a1), .val (.int (2 : Int32)), .val (.ref a2), .val (.ref b4)]) rfl ?_
    refine XS.aloadN X4.here hx rfl (hb hby d22_25) rfl rfl ?_
    refine XS.iconst X4.here hx rfl (hb hby d22_26) ?_
    refine XS.aloadN X4.here hx rfl (hb hby d22_27) rfl rfl ?_
    refine XS.iconst X4.here hx rfl (hb hby d22_28) ?_
    refine XS.aloadN X4.here hx rfl (hb hby d22_29) rfl rfl ?_
    show Steps p.tables e below (T4.setTop (mkF m 30 #[.val (.ref a1), .val (.int (2 : Int32)), .val (.ref a2), .val (.ref b4)] [(.ref a1), (.int (0 : Int32)), (.ref b4), (.int (0 : Int32)), (.ref a1)])) _
    refine X4.arraylength hx (by rw [e4]; exact Ar9.1) (State.isArrayOf_alike hZ.alike Ar9.2.1) (g := (mkF m 30 #[.val (.ref a1), .val (.int (2 : Int32)), .val (.ref a2), .val (.ref b4)] [(.ref a1), (.int (0 : Int32)), (.ref b4), (.int (0 : Int32)), (.ref a1)])) rfl rfl (hb hby d22_30) _ ?_
    show Steps p.tables e below (T4.setTop (mkF m 31 #[.val (.ref a1), .val (.int (2 : Int32)), .val (.ref a2), .val (.ref b4)] [(.int cl9.slots.size.toInt32), (.int (0 : Int32)), (.ref b4), (.int (0 : Int32)), (.ref a1)])) _
    rw [len_of S9 M9]
    refine XS.iloadN X4.here hx rfl (hb hby d22_31) rfl ?_
    refine st10 _ ?_
    refine st14 _ ?_
    refine XS.aloadN X14.here hx rfl (hb hby d22_38) rfl rfl ?_
    exact retOut X14 hx hret rfl (Or.inr (Or.inr (Or.inr (Or.inr ⟨rfl, rfl, rfl⟩)))) (hb hby d22_39) hr
-- java/util/Arrays.copyOf([Ljava/lang/Object;I)[Ljava/lang/Object;
abbrev Rm34 : Room := { frames := 2, cells := 1, slots := 2, locals := 33 }
def Q34 (Z : State) (a1 : Addr) (a2 : Addr) (a4 : Addr) (a5 : Addr) (k6 : ClassId) (h0 : Heap) (n0 : Nat) (v : Option Value) (h : Heap) (L : List Loc) : Prop := ∃ b7_b4 : Addr, ∃ k7_k4 : ClassId, v = some (.ref b7_b4) ∧ Fr n0 L ∧ Keep h0 h [] ∧ h0.size ≤ b7_b4 ∧ Exa Z h b7_b4 "[Ljava/lang/Object;" ∧ Ovr Z k7_k4 "java/lang/Object" ∧ Arv Z h b7_b4 k7_k4 (.object "java/lang/Object") (2 : Int32) [(.ref a4), (.ref a5)] .null
theorem ef34 (a1 : Addr) (m : MethodId) : entryFrame m #[(.ref a1), (.int (2 : Int32))] 2 = mkF m 0 #[.val (.ref a1), .val (.int (2 : Int32))] [] := by first | (simp [entryFrame, mkF, argsToLocals, Value.category]; done) | rfl
theorem rm34 (l : Launch) (Z : State) (a0 : Array Value) (hw : ∀ d ∈ tables_1, d.before a0 Z = true) (ws : List Jvm.Cond) (a1 : Addr) (a2 : Addr) (a4 : Addr) (a5 : Addr) (k6 : ClassId) (h0 : Heap) (n0 : Nat) (Z0 : n0 ≤ h0.size) (E_a1 : Exa Z h0 a1 "[Ljava/lang/Object;") (M_1 : OwnMir Z "[Ljava/lang/Object;" a2) (V_a1 : Arv Z h0 a1 k6 (.object "java/lang/Object") (10 : Int32) [(.ref a4), (.ref a5), .null, .null, .null, .null, .null, .null, .null, .null] .null) (E_a5 : Exa Z h0 a5 "java/lang/Double") (E_a4 : Exa Z h0 a4 "java/lang/Double") :
    OwnMet l Z y_19 jdk_65_method_119_code 2 (some (.array (.object "java/lang/Object"))) ws Rm34 #[(.ref a1), (.int (2 : Int32))] h0 (Q34 Z a1 a2 a4 a5 k6 h0 n0) := by
  refine own_body (plainFor_of_name pn_7) (ef34 a1) ?_
  intro p e s m below meth c s₁ hx hby hml hown hnm hret hZ X0 e0
  have N0 := Fr.nil n0
  obtain ⟨T3, X3, e3, st3⟩ := own_gcls X0 hx hZ hown (w_147 hw) (w_148 hw) (w_124 hw) (w_150 hw) (w_149 hw) (w_151 hw) e0 E_a1 M_1 (g := (mkF m 3 #[.val (.ref a1), .val (.int (2 : Int32))] [(.ref a1), (.int (2 : Int32)), (.ref a1)])) rfl (by rw [hml]; rfl) rfl (hb hby d21_3) (by decide) (W := 2) (by show 2 * 0 + _ ≤ _; exact Nat.le_of_eq rfl) (by decide)
  obtain ⟨_, T7, L7, X7, hQ7, st7⟩ := own_callS X3 hx hZ hown (y := y_18) (w_153 hw) (w_154 hw) (w_145 hw) (w_155 hw) (rm33 l Z a0 hw [] a1 a2 a4 a5 k6 h0 n0 Z0 M_1 V_a1 E_a5 E_a4) e3 (Ls := #[.val (.ref a1), .val (.int (2 : Int32))]) (by rw [hml]; rfl) (argsL := [(.ref a1), (.int (2 : Int32)), (.ref a2)]) (rest := []) (lenOf pd_11 rfl) (hb hby d21_6) (W := 0)
  obtain ⟨b7_b4, k7_k4, rfl, Nq7, K7, o7_0, o7_1, o7_2, o7_3⟩ := hQ7
  have N7 := Fr.app N0 Nq7
  have s0 := K7.1
  have sz_b7_b4 : h0.size ≤ b7_b4 := o7_0
  have Kp0 : Keep h0 T7.heap [] := (Keep.refl h0 []).trans K7 all0
  refine ⟨T7, _, _, _, (some (.ref b7_b4)), X7, nofun, by decide, by decide, ?_, fun fs hr => ?_⟩
  · show Q34 Z a1 a2 a4 a5 k6 h0 n0 _ T7.heap _
    exact ⟨b7_b4, k7_k4, rfl, N7, Kp0, sz_b7_b4, o7_1, o7_2, o7_3⟩
  · show Steps p.tables e below (s₁.setTop (mkF m 0 #[.val (.ref a1), .val (.int (2 : Int32))] [])) _
    refine XS.aloadN X0.here hx rfl (hb hby d21_0) rfl rfl ?_
    refine XS.iloadN X0.here hx rfl (hb hby d21_1) rfl ?_
    refine XS.aloadN X0.here hx rfl (hb hby d21_2) rfl rfl ?_
    refine st3 _ ?_
    refine st7 _ ?_
    exact retOut X7 hx hret rfl (Or.inr (Or.inr (Or.inr (Or.inr ⟨rfl, rfl, rfl⟩)))) (hb hby d21_9) hr
-- java/util/ArrayList.toArray()[Ljava/lang/Object;
abbrev Rm35 : Room := { frames := 3, cells := 1, slots := 2, locals := 46 }
def Q35 (Z : State) (a1 : Addr) (a2 : Addr) (a5 : Addr) (a6 : Addr) (a7 : Addr) (k8 : ClassId) (h0 : Heap) (n0 : Nat) (v : Option Value) (h : Heap) (L : List Loc) : Prop := ∃ b9_b7_b4 : Addr, ∃ k9_k7_k4 : ClassId, v = some (.ref b9_b7_b4) ∧ Fr n0 L ∧ Keep h0 h [] ∧ h0.size ≤ b9_b7_b4 ∧ Exa Z h b9_b7_b4 "[Ljava/lang/Object;" ∧ Ovr Z k9_k7_k4 "java/lang/Object" ∧ Arv Z h b9_b7_b4 k9_k7_k4 (.object "java/lang/Object") (2 : Int32) [(.ref a6), (.ref a7)] .null
theorem ef35 (a1 : Addr) (m : MethodId) : entryFrame m #[(.ref a1)] 1 = mkF m 0 #[.val (.ref a1)] [] := by first | (simp [entryFrame, mkF, argsToLocals, Value.category]; done) | rfl
theorem rm35 (l : Launch) (Z : State) (a0 : Array Value) (hw : ∀ d ∈ tables_1, d.before a0 Z = true) (ws : List Jvm.Cond) (a1 : Addr) (a2 : Addr) (a5 : Addr) (a6 : Addr) (a7 : Addr) (k8 : ClassId) (h0 : Heap) (n0 : Nat) (Z0 : n0 ≤ h0.size) (F_elementData_a1 : Fld Z h0 a1 "java/util/ArrayList" "elementData" "[Ljava/lang/Object;" (.ref a2)) (F_size_a1 : Fld Z h0 a1 "java/util/ArrayList" "size" "I" (.int (2 : Int32))) (E_a2 : Exa Z h0 a2 "[Ljava/lang/Object;") (M_1 : OwnMir Z "[Ljava/lang/Object;" a5) (V_a2 : Arv Z h0 a2 k8 (.object "java/lang/Object") (10 : Int32) [(.ref a6), (.ref a7), .null, .null, .null, .null, .null, .null, .null, .null] .null) (E_a7 : Exa Z h0 a7 "java/lang/Double") (E_a6 : Exa Z h0 a6 "java/lang/Double") :
    OwnMet l Z y_20 jdk_38_method_16_code 1 (some (.array (.object "java/lang/Object"))) ws Rm35 #[(.ref a1)] h0 (Q35 Z a1 a2 a5 a6 a7 k8 h0 n0) := by
  refine own_body (plainFor_of_name pn_4) (ef35 a1) ?_
  intro p e s m below meth c s₁ hx hby hml hown hnm hret hZ X0 e0
  have N0 := Fr.nil n0
  obtain ⟨T3, X3, e3, st3⟩ := getF X0 hx hZ hown (host := "") (Or.inl (w_43 hw)) Via.refl e0 F_elementData_a1 (g := (mkF m 1 #[.val (.ref a1)] [(.ref a1)])) rfl rfl (hb hby d20_1)
  obtain ⟨T4, X4, e4, st4⟩ := getF X3 hx hZ hown (host := "") (Or.inl (w_52 hw)) Via.refl e3 F_size_a1 (g := (mkF m 5 #[.val (.ref a1)] [(.ref a1), (.ref a2)])) rfl rfl (hb hby d20_5)
  obtain ⟨_, T9, L9, X9, hQ9, st9⟩ := own_callS X4 hx hZ hown (y := y_19) (w_143 hw) (w_144 hw) (w_145 hw) (w_146 hw) (rm34 l Z a0 hw [] a2 a5 a6 a7 k8 h0 n0 Z0 E_a2 M_1 V_a2 E_a7 E_a6) e4 (Ls := #[.val (.ref a1)]) (by rw [hml]; rfl) (argsL := [(.ref a2), (.int (2 : Int32))]) (rest := []) (lenOf pd_12 rfl) (hb hby d20_8) (W := 0)
  obtain ⟨b9_b7_b4, k9_k7_k4, rfl, Nq9, K9, o9_0, o9_1, o9_2, o9_3⟩ := hQ9
  have N9 := Fr.app N0 Nq9
  have s0 := K9.1
  have sz_b9_b7_b4 : h0.size ≤ b9_b7_b4 := o9_0
  have Kp0 : Keep h0 T9.heap [] := (Keep.refl h0 []).trans K9 all0
  refine ⟨T9, _, _, _, (some (.ref b9_b7_b4)), X9, nofun, by decide, by decide, ?_, fun fs hr => ?_⟩
  · show Q35 Z a1 a2 a5 a6 a7 k8 h0 n0 _ T9.heap _
    exact ⟨b9_b7_b4, k9_k7_k4, rfl, N9, Kp0, sz_b9_b7_b4, o9_1, o9_2, o9_3⟩
  · show Steps p.tables e below (s₁.setTop (mkF m 0 #[.val (.ref a1)] [])) _
    refine XS.aloadN X0.here hx rfl (hb hby d20_0) rfl rfl ?_
    refine st3 _ ?_
    refine XS.aloadN X3.here hx rfl (hb hby d20_4) rfl rfl ?_
    refine st4 _ ?_
    refine st9 _ ?_
    exact retOut X9 hx hret rfl (Or.inr (Or.inr (Or.inr (Or.inr ⟨rfl, rfl, rfl⟩)))) (hb hby d20_11) hr
-- java/util/ImmutableCollections$List12.<init>(Ljava/lang/Object;Ljava/lang/Object;)V
abbrev Rm36 : Room := { frames := 4, cells := 0, slots := 0, locals := 48 }
def Q36 (Z : State) (a1 : Addr) (a2 : Addr) (a3 : Addr) (h0 : Heap) (n0 : Nat) (v : Option Value) (h : Heap) (L : List Loc) : Prop := v = none ∧ Fr n0 L ∧ Keep h0 h [a1] ∧ Exa Z h a1 "java/util/ImmutableCollections$List12" ∧ Fld Z h a1 "java/util/ImmutableCollections$List12" "e0" "Ljava/lang/Object;" (.ref a2) ∧ Fld Z h a1 "java/util/ImmutableCollections$List12" "e1" "Ljava/lang/Object;" (.ref a3)
theorem ef36 (a1 : Addr) (a2 : Addr) (a3 : Addr) (m : MethodId) : entryFrame m #[(.ref a1), (.ref a2), (.ref a3)] 3 = mkF m 0 #[.val (.ref a1), .val (.ref a2), .val (.ref a3)] [] := by first | (simp [entryFrame, mkF, argsToLocals, Value.category]; done) | rfl
theorem rm36 (l : Launch) (Z : State) (a0 : Array Value) (hw : ∀ d ∈ tables_1, d.before a0 Z = true) (ws : List Jvm.Cond) (a1 : Addr) (a2 : Addr) (a3 : Addr) (h0 : Heap) (n0 : Nat) (Z0 : n0 ≤ h0.size) (F_e0_a1 : Fld Z h0 a1 "java/util/ImmutableCollections$List12" "e0" "Ljava/lang/Object;" .null) (E_a1 : Exa Z h0 a1 "java/util/ImmutableCollections$List12") (g_a1 : n0 ≤ a1) (F_e1_a1 : Fld Z h0 a1 "java/util/ImmutableCollections$List12" "e1" "Ljava/lang/Object;" .null) :
    OwnMet l Z y_25 jdk_44_method_2_code 3 none ws Rm36 #[(.ref a1), (.ref a2), (.ref a3)] h0 (Q36 Z a1 a2 a3 h0 n0) := by
  refine own_body (plainFor_of_name pn_11) (ef36 a1 a2 a3) ?_
  intro p e s m below meth c s₁ hx hby hml hown hnm hret hZ X0 e0
  have N0 := Fr.nil n0
  obtain ⟨_, T4, L4, X4, hQ4, st4⟩ := own_special X0 hx hZ hown (y := y_23) (a := a1) (w_175 hw) (w_176 hw) (w_179 hw) (w_180 hw) (rm27 l Z a0 hw [] a1 h0 n0 Z0) e0 (Ls := #[.val (.ref a1), .val (.ref a2), .val (.ref a3)]) (by rw [hml]; rfl) (argsL := []) (rest := []) (lenOf pd_0 rfl) (hb hby d25_1) (W := 0)
  obtain ⟨rfl, Nq4, e4⟩ := hQ4
  have N4 := Fr.app N0 Nq4
  obtain ⟨_, T5, L5, X5, hQ5, st5⟩ := own_callS X4 hx hZ hown (y := y_24) (w_189 hw) (w_190 hw) (w_191 hw) (w_192 hw) (rm28 l Z a0 hw [] a2 h0 n0 Z0) e4 (Ls := #[.val (.ref a1), .val (.ref a2), .val (.ref a3)]) (by rw [hml]; rfl) (argsL := [(.ref a2)]) (rest := [(.ref a1)]) (lenOf pd_13 rfl) (hb hby d25_6) (W := 1)
  obtain ⟨rfl, Nq5, e5⟩ := hQ5
  have N5 := Fr.app N4 Nq5
  obtain ⟨T6, h6, X6, e6, W6, st6⟩ := putF X5 hx hZ hown (host := "") (Or.inl (w_193 hw)) Via.refl e5 F_e0_a1 E_a1 (Or.inr ⟨(w_194 hw), rfl, hnm⟩) (w_169 hw) (ty := (.object "java/lang/Object")) (by decide) rfl rfl (g := (mkF m 9 #[.val (.ref a1), .val (.ref a2), .val (.ref a3)] [(.ref a2), (.ref a1)])) rfl rfl (hb hby d25_9)
  have s0 := (Keep.of_wr W6).1
  have N6 := Fr.snoc X6 N5 g_a1
  have Fw6 : Fld Z h6 a1 "java/util/ImmutableCollections$List12" "e0" "Ljava/lang/Object;" (.ref a2) := F_e0_a1.same W6
  have z1 := Nat.le_trans Z0 s0
  obtain ⟨_, T7, L7, X7, hQ7, st7⟩ := own_callS X6 hx hZ hown (y := y_24) (w_189 hw) (w_190 hw) (w_191 hw) (w_192 hw) (rm28 l Z a0 hw [] a3 h6 n0 z1) e6 (Ls := #[.val (.ref a1), .val (.ref a2), .val (.ref a3)]) (by rw [hml]; rfl) (argsL := [(.ref a3)]) (rest := [(.ref a1)]) (lenOf pd_13 rfl) (hb hby d25_14) (W := 1)
  obtain ⟨rfl, Nq7, e7⟩ := hQ7
  have N7 := Fr.app N6 Nq7
  have Ex8 := (E_a1.wr W6)
  have Fl9 := (F_e1_a1.other W6 (Or.inr (slot_ne (Or.inr (w_196 hw)) (Or.inr (w_194 hw)) (by decide) (t := (.object "java/lang/Object")) (t' := (.object "java/lang/Object")) (by decide) (by decide))))
  obtain ⟨T10, h10, X10, e10, W10, st10⟩ := putF X7 hx hZ hown (host := "") (Or.inl (w_195 hw)) Via.refl e7 Fl9 Ex8 (Or.inr ⟨(w_196 hw), rfl, hnm⟩) (w_169 hw) (ty := (.object "java/lang/Object")) (by decide) rfl rfl (g := (mkF m 17 #[.val (.ref a1), .val (.ref a2), .val (.ref a3)] [(.ref a3), (.ref a1)])) rfl rfl (hb hby d25_17)
  have s1 := (Keep.of_wr W10).1
  have N10 := Fr.snoc X10 N7 g_a1
  have Fw10 : Fld Z h10 a1 "java/util/ImmutableCollections$List12" "e1" "Ljava/lang/Object;" (.ref a3) := Fl9.same W10
  have Ex11 := (Ex8.wr W10)
  have Fl12 := (Fw6.other W10 (Or.inr (slot_ne (Or.inr (w_194 hw)) (Or.inr (w_196 hw)) (by decide) (t := (.object "java/lang/Object")) (t' := (.object "java/lang/Object")) (by decide) (by decide))))
  have Kp0 : Keep h0 h6 [a1] := (Keep.refl h0 [a1]).wr W6 (Or.inl (List.mem_of_getElem? (i := 0) rfl))
  have Kp1 : Keep h0 h10 [a1] := Kp0.wr W10 (Or.inl (List.mem_of_getElem? (i := 0) rfl))
  refine ⟨T10, _, _, _, none, X10, (fun _ => rfl), by decide, by decide, ?_, fun fs hr => ?_⟩
  · show Q36 Z a1 a2 a3 h0 n0 _ T10.heap _
    rw [e10]
    exact ⟨rfl, N10, Kp1, Ex11, Fl12, Fw10⟩
  · show Steps p.tables e below (s₁.setTop (mkF m 0 #[.val (.ref a1), .val (.ref a2), .val (.ref a3)] [])) _
    refine XS.aloadN X0.here hx rfl (hb hby d25_0) rfl rfl ?_
    refine st4 _ ?_
    refine XS.aloadN X4.here hx rfl (hb hby d25_4) rfl rfl ?_
    refine XS.aloadN X4.here hx rfl (hb hby d25_5) rfl rfl ?_
    refine st5 _ ?_
    refine st6 _ ?_
    refine XS.aloadN X6.here hx rfl (hb hby d25_12) rfl rfl ?_
    refine XS.aloadN X6.here hx rfl (hb hby d25_13) rfl rfl ?_
    refine st7 _ ?_
    refine st10 _ ?_
    exact X10.returnOut hx hret (hb hby d25_20) hr
-- java/util/List.of([Ljava/lang/Object;)Ljava/util/List;
abbrev Rm37 : Room := { frames := 5, cells := 1, slots := 2, locals := 63 }
def Q37 (Z : State) (a1 : Addr) (a2 : Addr) (a3 : Addr) (k4 : ClassId) (h0 : Heap) (n0 : Nat) (v : Option Value) (h : Heap) (L : List Loc) : Prop := ∃ b6 : Addr, v = some (.ref b6) ∧ Fr n0 L ∧ Keep h0 h [] ∧ h0.size ≤ b6 ∧ Exa Z h b6 "java/util/ImmutableCollections$List12" ∧ Fld Z h b6 "java/util/ImmutableCollections$List12" "e0" "Ljava/lang/Object;" (.ref a2) ∧ Fld Z h b6 "java/util/ImmutableCollections$List12" "e1" "Ljava/lang/Object;" (.ref a3)
theorem ef37 (a1 : Addr) (m : MethodId) : entryFrame m #[(.ref a1)] 2 = mkF m 0 #[.val (.ref a1), .unset] [] := by first | (simp [entryFrame, mkF, argsToLocals, Value.category]; done) | rfl
theorem rm37 (l : Launch) (Z : State) (a0 : Array Value) (hw : ∀ d ∈ tables_1, d.before a0 Z = true) (ws : List Jvm.Cond) (a1 : Addr) (a2 : Addr) (a3 : Addr) (k4 : ClassId) (h0 : Heap) (n0 : Nat) (Z0 : n0 ≤ h0.size) (V_a1 : Arv Z h0 a1 k4 (.object "java/lang/Object") (2 : Int32) [(.ref a2), (.ref a3)] .null) :
    OwnMet l Z y_26 jdk_40_method_47_code 2 (some (.object "java/util/List")) ws Rm37 #[(.ref a1)] h0 (Q37 Z a1 a2 a3 k4 h0 n0) := by
  refine own_body (plainFor_of_name pn_12) (ef37 a1) ?_
  intro p e s m below meth c s₁ hx hby hml hown hnm hret hZ X0 e0
  have N0 := Fr.nil n0
  obtain ⟨cl5, Ar5, q5, S5, M5, Hs5, G5⟩ := id V_a1
  obtain ⟨T6, h6, X6, e6, E6, A6, D6, -, st6⟩ := newO X0 hx hZ hown (w_168 hw) (w_169 hw) (w_170 hw) e0 (g := (mkF m 45 #[.val (.ref a1), .unset] [])) rfl (hb hby d24_45) (by decide) (by decide)
  obtain ⟨b6, g6⟩ : ∃ z, z = h0.size := ⟨_, rfl⟩
  rw [← g6] at A6 D6 st6
  have s0 := E6.1
  have Fn6_e0 : Fld Z h6 b6 "java/util/ImmutableCollections$List12" "e0" "Ljava/lang/Object;" .null := D6 (Or.inr (w_194 hw)) (ty := (.object "java/lang/Object")) (by decide)
  have Fn6_e1 : Fld Z h6 b6 "java/util/ImmutableCollections$List12" "e1" "Ljava/lang/Object;" .null := D6 (Or.inr (w_196 hw)) (ty := (.object "java/lang/Object")) (by decide)
  have Va7 := (V_a1.ext E6)
  obtain ⟨cl8, Ar8, q8, S8, M8, Hs8, G8⟩ := id Va7
  have hin9 : ¬ ((0 : Int32) < 0 ∨ cl8.slots.size ≤ ((0 : Int32)).toNatClampNeg) := inb_of S8 ⟨(by decide : ¬ ((0 : Int32) < (0 : Int32))), (by decide : (0 : Int32) < (2 : Int32))⟩
  have hin10 : ¬ ((1 : Int32) < 0 ∨ cl8.slots.size ≤ ((1 : Int32)).toNatClampNeg) := inb_of S8 ⟨(by decide : ¬ ((1 : Int32) < (0 : Int32))), (by decide : (1 : Int32) < (2 : Int32))⟩
  have g_b6 : n0 ≤ b6 := Nat.le_trans Z0 (Nat.le_of_eq g6.symm)
  have z1 := Nat.le_trans Z0 s0
  obtain ⟨_, T11, L11, X11, hQ11, st11⟩ := own_special X6 hx hZ hown (y := y_25) (a := b6) (w_171 hw) (w_172 hw) (w_170 hw) (w_174 hw) (rm36 l Z a0 hw [] b6 a2 a3 h6 n0 z1 Fn6_e0 A6 g_b6 Fn6_e1) e6 (Ls := #[.val (.ref a1), .unset]) (by rw [hml]; rfl) (argsL := [(.ref a2), (.ref a3)]) (rest := [(.ref b6)]) (lenOf pd_14 rfl) (hb hby d24_55) (W := 1)
  obtain ⟨rfl, Nq11, K11, o11_0, o11_1, o11_2⟩ := hQ11
  have N11 := Fr.app N0 Nq11
  have s1 := K11.1
  have sz_b6 : h0.size ≤ b6 := (Nat.le_of_eq g6.symm)
  have Kp0 : Keep h0 h6 [] := (Keep.refl h0 []).ext E6
  have Kp1 : Keep h0 T11.heap [] := Kp0.trans K11 (allS (Or.inr sz_b6) all0)
  refine ⟨T11, _, _, _, (some (.ref b6)), X11, nofun, by decide, by decide, ?_, fun fs hr => ?_⟩
  · show Q37 Z a1 a2 a3 k4 h0 n0 _ T11.heap _
    exact ⟨b6, rfl, N11, Kp1, sz_b6, o11_0, o11_1, o11_2⟩
  · show Steps p.tables e below (s₁.setTop (mkF m 0 #[.val (.ref a1), .unset] [])) _
    refine XS.aloadN X0.here hx rfl (hb hby d24_0) rfl rfl ?_
    refine X0.arraylength hx (by rw [e0]; exact Ar5.1) (State.isArrayOf_alike hZ.alike Ar5.2.1) (g := (mkF m 1 #[.val (.ref a1), .unset] [(.ref a1)])) rfl rfl (hb hby d24_1) _ ?_
    show Steps p.tables e below (s₁.setTop (mkF m 2 #[.val (.ref a1), .unset] [(.int cl5.slots.size.toInt32)])) _
    rw [len_of S5 M5]
    refine XS.tswIn X0.here hx rfl (pc0 := 2) (pc' := 45) rfl (hb hby d24_2) rfl (by decide) rfl (by decide) (by decide) ?_
    refine st6 _ ?_
    refine XS.dup X6.here hx rfl (hb hby d24_48) rfl rfl ?_
    refine XS.aloadN X6.here hx rfl (hb hby d24_49) rfl rfl ?_
    refine XS.iconst X6.here hx rfl (hb hby d24_50) ?_
    refine X6.aaload hx (j := (0 : Int32)) (v := (.ref a2)) (by rw [e6]; exact Ar8.1) (State.isArrayOf_alike hZ.alike Ar8.2.1) rfl Ar8.2.2 hin9 (Has.at Hs8 hin9 rfl) (g := (mkF m 51 #[.val (.ref a1), .unset] [(.int (0 : Int32)), (.ref a1), (.ref b6), (.ref b6)])) rfl rfl (hb hby d24_51) _ ?_
    refine XS.aloadN X6.here hx rfl (hb hby d24_52) rfl rfl ?_
    refine XS.iconst X6.here hx rfl (hb hby d24_53) ?_
    refine X6.aaload hx (j := (1 : Int32)) (v := (.ref a3)) (by rw [e6]; exact Ar8.1) (State.isArrayOf_alike hZ.alike Ar8.2.1) rfl Ar8.2.2 hin10 (Has.at Hs8 hin10 rfl) (g := (mkF m 54 #[.val (.ref a1), .unset] [(.int (1 : Int32)), (.ref a1), (.ref a2), (.ref b6), (.ref b6)])) rfl rfl (hb hby d24_54) _ ?_
    refine st11 _ ?_
    exact retOut X11 hx hret rfl (Or.inr (Or.inr (Or.inr (Or.inr ⟨rfl, rfl, rfl⟩)))) (hb hby d24_58) hr
-- java/util/ImmutableCollections.listCopy(Ljava/util/Collection;)Ljava/util/List;
abbrev Rm38 : Room := { frames := 6, cells := 2, slots := 4, locals := 76 }
def Q38 (Z : State) (a1 : Addr) (a5 : Addr) (a6 : Addr) (a7 : Addr) (a8 : Addr) (k9 : ClassId) (h0 : Heap) (n0 : Nat) (v : Option Value) (h : Heap) (L : List Loc) : Prop := ∃ b11_b6 : Addr, v = some (.ref b11_b6) ∧ Fr n0 L ∧ Keep h0 h [] ∧ h0.size ≤ b11_b6 ∧ Exa Z h b11_b6 "java/util/ImmutableCollections$List12" ∧ Fld Z h b11_b6 "java/util/ImmutableCollections$List12" "e0" "Ljava/lang/Object;" (.ref a7) ∧ Fld Z h b11_b6 "java/util/ImmutableCollections$List12" "e1" "Ljava/lang/Object;" (.ref a8)
theorem ef38 (a1 : Addr) (m : MethodId) : entryFrame m #[(.ref a1)] 2 = mkF m 0 #[.val (.ref a1), .unset] [] := by first | (simp [entryFrame, mkF, argsToLocals, Value.category]; done) | rfl
theorem rm38 (l : Launch) (Z : State) (a0 : Array Value) (hw : ∀ d ∈ tables_1, d.before a0 Z = true) (ws : List Jvm.Cond) (a1 : Addr) (a5 : Addr) (a6 : Addr) (a7 : Addr) (a8 : Addr) (k9 : ClassId) (h0 : Heap) (n0 : Nat) (Z0 : n0 ≤ h0.size) (E_a1 : Exa Z h0 a1 "java/util/ArrayList") (F_size_a1 : Fld Z h0 a1 "java/util/ArrayList" "size" "I" (.int (2 : Int32))) (F_elementData_a1 : Fld Z h0 a1 "java/util/ArrayList" "elementData" "[Ljava/lang/Object;" (.ref a5)) (E_a5 : Exa Z h0 a5 "[Ljava/lang/Object;") (M_1 : OwnMir Z "[Ljava/lang/Object;" a6) (V_a5 : Arv Z h0 a5 k9 (.object "java/lang/Object") (10 : Int32) [(.ref a7), (.ref a8), .null, .null, .null, .null, .null, .null, .null, .null] .null) (E_a8 : Exa Z h0 a8 "java/lang/Double") (E_a7 : Exa Z h0 a7 "java/lang/Double") :
    OwnMet l Z y_27 jdk_56_method_3_code 2 (some (.object "java/util/List")) ws Rm38 #[(.ref a1)] h0 (Q38 Z a1 a5 a6 a7 a8 k9 h0 n0) := by
  refine own_body (plainFor_of_name pn_13) (ef38 a1) ?_
  intro p e s m below meth c s₁ hx hby hml hown hnm hret hZ X0 e0
  have N0 := Fr.nil n0
  obtain ⟨T2, X2, e2, st2⟩ := instNo X0 hx hZ hown (w_120 hw) e0 E_a1 (own_NSno (w_121 hw) (w_169 hw) (NS.step (w_121 hw) (NS.step (w_122 hw) (NS.step (w_123 hw) (own_NSroot (w_124 hw) (w_169 hw) (by decide)) (by decide)) (by decide)) (by decide)) (by decide)) (g := (mkF m 1 #[.val (.ref a1), .unset] [(.ref a1)])) rfl rfl (hb hby d18_1)
  obtain ⟨T3, X3, e3, st3⟩ := instNo X2 hx hZ hown (w_125 hw) e2 E_a1 (own_NSno (w_121 hw) (w_240 hw) (NS.step (w_121 hw) (NS.step (w_122 hw) (NS.step (w_123 hw) (own_NSroot (w_124 hw) (w_240 hw) (by decide)) (by decide)) (by decide)) (by decide)) (by decide)) (g := (mkF m 8 #[.val (.ref a1), .unset] [(.ref a1)])) rfl rfl (hb hby d18_8)
  obtain ⟨_, T4, L4, X4, hQ4, st4⟩ := own_iface X3 hx hZ hown (y := y_16) (z := y_15) E_a1 (w_126 hw) (w_127 hw) (w_128 hw) (w_129 hw) (w_130 hw) (w_131 hw) (w_132 hw) (w_133 hw) (w_23 hw) (w_134 hw) (rm21 l Z a0 hw [] a1 h0 n0 Z0 F_size_a1) e3 (Ls := #[.val (.ref a1), .unset]) (by rw [hml]; rfl) (argsL := []) (rest := []) (lenOf pd_10 rfl) (hb hby d18_32) (W := 0)
  obtain ⟨rfl, Nq4, e4⟩ := hQ4
  have N4 := Fr.app N0 Nq4
  obtain ⟨_, T10, L10, X10, hQ10, st10⟩ := own_iface X4 hx hZ hown (y := y_21) (z := y_20) E_a1 (w_135 hw) (w_136 hw) (w_137 hw) (w_138 hw) (w_139 hw) (w_140 hw) (w_141 hw) (w_133 hw) (w_23 hw) (w_142 hw) (rm35 l Z a0 hw [] a1 a5 a6 a7 a8 k9 h0 n0 Z0 F_elementData_a1 F_size_a1 E_a5 M_1 V_a5 E_a8 E_a7) e4 (Ls := #[.val (.ref a1), .unset]) (by rw [hml]; rfl) (argsL := []) (rest := []) (lenOf pd_4 rfl) (hb hby d18_45) (W := 0)
  obtain ⟨b10_b9_b7_b4, k10_k9_k7_k4, rfl, Nq10, K10, o10_0, o10_1, o10_2, o10_3⟩ := hQ10
  have N10 := Fr.app N4 Nq10
  have s0 := K10.1
  have z1 := Nat.le_trans Z0 s0
  obtain ⟨_, T11, L11, X11, hQ11, st11⟩ := own_callS X10 hx hZ hown (y := y_26) (w_165 hw) (w_166 hw) (w_114 hw) (w_167 hw) (rm37 l Z a0 hw [] b10_b9_b7_b4 a7 a8 k10_k9_k7_k4 T10.heap n0 z1 o10_3) rfl (Ls := #[.val (.ref a1), .unset]) (by rw [hml]; rfl) (argsL := [(.ref b10_b9_b7_b4)]) (rest := []) (lenOf pd_15 rfl) (hb hby d18_50) (W := 0)
  obtain ⟨b11_b6, rfl, Nq11, K11, o11_0, o11_1, o11_2, o11_3⟩ := hQ11
  have N11 := Fr.app N10 Nq11
  have s1 := K11.1
  have sz_b11_b6 : h0.size ≤ b11_b6 := Nat.le_trans s0 o11_0
  have Kp0 : Keep h0 T10.heap [] := (Keep.refl h0 []).trans K10 all0
  have Kp1 : Keep h0 T11.heap [] := Kp0.trans K11 all0
  refine ⟨T11, _, _, _, (some (.ref b11_b6)), X11, nofun, by decide, by decide, ?_, fun fs hr => ?_⟩
  · show Q38 Z a1 a5 a6 a7 a8 k9 h0 n0 _ T11.heap _
    exact ⟨b11_b6, rfl, N11, Kp1, sz_b11_b6, o11_1, o11_2, o11_3⟩
  · show Steps p.tables e below (s₁.setTop (mkF m 0 #[.val (.ref a1), .unset] [])) _
    refine XS.aloadN X0.here hx rfl (hb hby d18_0) rfl rfl ?_
    refine st2 _ ?_
    refine XS.ifNo X2.here hx rfl (hb hby d18_4) rfl ((if0 _ _).trans (teq ((by decide : (0 : Int32) = (0 : Int32)) : (0 : Int32) = (0 : Int32))).2) ?_
    refine XS.aloadN X2.here hx rfl (hb hby d18_7) rfl rfl ?_
    refine st3 _ ?_
    refine XS.ifYes X3.here hx rfl (pc0 := 11) (pc' := 31) rfl (hb hby d18_11) rfl ((if0 _ _).trans (teq ((by decide : (0 : Int32) = (0 : Int32)) : (0 : Int32) = (0 : Int32))).1) (by decide) (by decide) ?_
    refine XS.aloadN X3.here hx rfl (hb hby d18_31) rfl rfl ?_
    refine st4 _ ?_
    refine XS.ifYes X4.here hx rfl (pc0 := 37) (pc' := 44) rfl (hb hby d18_37) rfl ((if0 _ _).trans (teq ((by decide : (0 : Int32) = (0 : Int32)) : (0 : Int32) = (0 : Int32))).1) (by decide) (by decide) ?_
    refine XS.aloadN X4.here hx rfl (hb hby d18_44) rfl rfl ?_
    refine st10 _ ?_
    refine st11 _ ?_
    show Steps p.tables e below (T11.setTop (mkF m 53 #[.val (.ref a1), .unset] [(.ref b11_b6)])) _
    exact retOut X11 hx hret rfl (Or.inr (Or.inr (Or.inr (Or.inr ⟨rfl, rfl, rfl⟩)))) (hb hby d18_53) hr
-- java/util/List.copyOf(Ljava/util/Collection;)Ljava/util/List;
abbrev Rm39 : Room := { frames := 7, cells := 2, slots := 4, locals := 89 }
def Q39 (Z : State) (a1 : Addr) (a2 : Addr) (a3 : Addr) (a4 : Addr) (a5 : Addr) (k6 : ClassId) (h0 : Heap) (n0 : Nat) (v : Option Value) (h : Heap) (L : List Loc) : Prop := ∃ b7_b11_b6 : Addr, v = some (.ref b7_b11_b6) ∧ Fr n0 L ∧ Keep h0 h [] ∧ h0.size ≤ b7_b11_b6 ∧ Exa Z h b7_b11_b6 "java/util/ImmutableCollections$List12" ∧ Fld Z h b7_b11_b6 "java/util/ImmutableCollections$List12" "e0" "Ljava/lang/Object;" (.ref a4) ∧ Fld Z h b7_b11_b6 "java/util/ImmutableCollections$List12" "e1" "Ljava/lang/Object;" (.ref a5)
theorem ef39 (a1 : Addr) (m : MethodId) : entryFrame m #[(.ref a1)] 1 = mkF m 0 #[.val (.ref a1)] [] := by first | (simp [entryFrame, mkF, argsToLocals, Value.category]; done) | rfl
theorem rm39 (l : Launch) (Z : State) (a0 : Array Value) (hw : ∀ d ∈ tables_1, d.before a0 Z = true) (ws : List Jvm.Cond) (a1 : Addr) (a2 : Addr) (a3 : Addr) (a4 : Addr) (a5 : Addr) (k6 : ClassId) (h0 : Heap) (n0 : Nat) (Z0 : n0 ≤ h0.size) (E_a1 : Exa Z h0 a1 "java/util/ArrayList") (F_size_a1 : Fld Z h0 a1 "java/util/ArrayList" "size" "I" (.int (2 : Int32))) (F_elementData_a1 : Fld Z h0 a1 "java/util/ArrayList" "elementData" "[Ljava/lang/Object;" (.ref a2)) (E_a2 : Exa Z h0 a2 "[Ljava/lang/Object;") (M_1 : OwnMir Z "[Ljava/lang/Object;" a3) (V_a2 : Arv Z h0 a2 k6 (.object "java/lang/Object") (10 : Int32) [(.ref a4), (.ref a5), .null, .null, .null, .null, .null, .null, .null, .null] .null) (E_a5 : Exa Z h0 a5 "java/lang/Double") (E_a4 : Exa Z h0 a4 "java/lang/Double") :
    OwnMet l Z y_28 jdk_40_method_48_code 1 (some (.object "java/util/List")) ws Rm39 #[(.ref a1)] h0 (Q39 Z a1 a2 a3 a4 a5 k6 h0 n0) := by
  refine own_body (plainFor_of_name pn_12) (ef39 a1) ?_
  intro p e s m below meth c s₁ hx hby hml hown hnm hret hZ X0 e0
  have N0 := Fr.nil n0
  obtain ⟨_, T7, L7, X7, hQ7, st7⟩ := own_callS X0 hx hZ hown (y := y_27) (w_116 hw) (w_117 hw) (w_118 hw) (w_119 hw) (rm38 l Z a0 hw [] a1 a2 a3 a4 a5 k6 h0 n0 Z0 E_a1 F_size_a1 F_elementData_a1 E_a2 M_1 V_a2 E_a5 E_a4) e0 (Ls := #[.val (.ref a1)]) (by rw [hml]; rfl) (argsL := [(.ref a1)]) (rest := []) (lenOf pd_16 rfl) (hb hby d17_1) (W := 0)
  obtain ⟨b7_b11_b6, rfl, Nq7, K7, o7_0, o7_1, o7_2, o7_3⟩ := hQ7
  have N7 := Fr.app N0 Nq7
  have s0 := K7.1
  have sz_b7_b11_b6 : h0.size ≤ b7_b11_b6 := o7_0
  have Kp0 : Keep h0 T7.heap [] := (Keep.refl h0 []).trans K7 all0
  refine ⟨T7, _, _, _, (some (.ref b7_b11_b6)), X7, nofun, by decide, by decide, ?_, fun fs hr => ?_⟩
  · show Q39 Z a1 a2 a3 a4 a5 k6 h0 n0 _ T7.heap _
    exact ⟨b7_b11_b6, rfl, N7, Kp0, sz_b7_b11_b6, o7_1, o7_2, o7_3⟩
  · show Steps p.tables e below (s₁.setTop (mkF m 0 #[.val (.ref a1)] [])) _
    refine XS.aloadN X0.here hx rfl (hb hby d17_0) rfl rfl ?_
    refine st7 _ ?_
    exact retOut X7 hx hret rfl (Or.inr (Or.inr (Or.inr (Or.inr ⟨rfl, rfl, rfl⟩)))) (hb hby d17_4) hr
theorem d15_63 : decode prog_9_method_1_code 63 = .ok (.astore_n 2, 1) := by decide +kernel
theorem d15_64 : decode prog_9_method_1_code 64 = .ok (.aload 5, 2) := by decide +kernel
theorem d15_66 : decode prog_9_method_1_code 66 = .ok (.invokestatic 22, 3) := by decide +kernel
theorem d19_7 : decode jdk_38_method_9_code 7 = .ok (.iconst 1, 1) := by decide +kernel
theorem d19_8 : decode jdk_38_method_9_code 8 = .ok (.goto 4, 3) := by decide +kernel
-- java/util/ArrayList.isEmpty()Z
abbrev Rm40 : Room := { frames := 0, cells := 0, slots := 0, locals := 0 }
def Q40 (Z : State) (a1 : Addr) (h0 : Heap) (n0 : Nat) (v : Option Value) (h : Heap) (L : List Loc) : Prop := v = some (.int (1 : Int32)) ∧ Fr n0 L ∧ h = h0
theorem ef40 (a1 : Addr) (m : MethodId) : entryFrame m #[(.ref a1)] 1 = mkF m 0 #[.val (.ref a1)] [] := by first | (simp [entryFrame, mkF, argsToLocals, Value.category]; done) | rfl
theorem rm40 (l : Launch) (Z : State) (a0 : Array Value) (hw : ∀ d ∈ tables_1, d.before a0 Z = true) (ws : List Jvm.Cond) (a1 : Addr) (h0 : Heap) (n0 : Nat) (Z0 : n0 ≤ h0.size) (F_size_a1 : Fld Z h0 a1 "java/util/ArrayList" "size" "I" (.int (0 : Int32))) :
    OwnMet l Z y_15 jdk_38_method_9_code 1 (some .boolean) ws Rm40 #[(.ref a1)] h0 (Q40 Z a1 h0 n0) := by
  refine own_body (plainFor_of_name pn_4) (ef40 a1) ?_
  intro p e s m below meth c s₁ hx hby hml hown hnm hret hZ X0 e0
  have N0 := Fr.nil n0
  obtain ⟨T2, X2, e2, st2⟩ := getF X0 hx hZ hown (host := "") (Or.inl (w_52 hw)) Via.refl e0 F_size_a1 (g := (mkF m 1 #[.val (.ref a1)] [(.ref a1)])) rfl rfl (hb hby d19_1)
  refine ⟨T2, _, _, _, (some (.int (1 : Int32))), X2, nofun, by decide, by decide, ?_, fun fs hr => ?_⟩
  · show Q40 Z a1 h0 n0 _ T2.heap _
    rw [e2]
    exact ⟨rfl, N0, rfl⟩
  · show Steps p.tables e below (s₁.setTop (mkF m 0 #[.val (.ref a1)] [])) _
    refine XS.aloadN X0.here hx rfl (hb hby d19_0) rfl rfl ?_
    refine st2 _ ?_
    refine XS.ifNo X2.here hx rfl (hb hby d19_4) rfl ((if0 _ _).trans (teq ((by decide : (0 : Int32) = (0 : Int32)) : (0 : Int32) = (0 : Int32))).2) ?_
    refine XS.iconst X2.here hx rfl (hb hby d19_7) ?_
    refine XS.goto X2.here hx rfl (pc0 := 8) (pc' := 12) rfl (hb hby d19_8) (by decide) (by decide) ?_
    exact retN X2 hx (t := .boolean) hret (by simp) (hb hby d19_12) hr
theorem d18_40 : decode jdk_56_method_3_code 40 = .ok (.invokestatic 26, 3) := by decide +kernel
theorem d29_0 : decode jdk_40_method_36_code 0 = .ok (.getstatic 90, 3) := by decide +kernel
theorem w_200 {a0 : Array Value} {Z : State} (hw : ∀ d ∈ tables_1, d.before a0 Z = true) : Jvm.Cond.before (Jvm.Cond.fieldLink "java/util/List" (90 : Nat) "java/util/ImmutableCollections" "EMPTY_LIST" "Ljava/util/ImmutableCollections$ListN;") a0 Z = true := hw _ (List.mem_of_getElem? (i := 200) rfl)
theorem d29_3 : decode jdk_40_method_36_code 3 = .ok (.areturn, 1) := by decide +kernel
abbrev y_29 : MethodName := ⟨"java/util/List", "of", "()Ljava/util/List;"⟩
-- java/util/List.of()Ljava/util/List;
abbrev Rm41 : Room := { frames := 0, cells := 0, slots := 0, locals := 0 }
def Q41 (Z : State) (a1 : Addr) (h0 : Heap) (n0 : Nat) (v : Option Value) (h : Heap) (L : List Loc) : Prop := v = some (.ref a1) ∧ Fr n0 L ∧ h = h0
theorem ef41  (m : MethodId) : entryFrame m #[] 0 = mkF m 0 #[] [] := by first | (simp [entryFrame, mkF, argsToLocals, Value.category]; done) | rfl
theorem rm41 (l : Launch) (Z : State) (a0 : Array Value) (hw : ∀ d ∈ tables_1, d.before a0 Z = true) (ws : List Jvm.Cond) (a1 : Addr) (h0 : Heap) (n0 : Nat) (Z0 : n0 ≤ h0.size) (S_EMPTY_LIST : Sta Z Z.heap "java/util/ImmutableCollections" "EMPTY_LIST" "Ljava/util/ImmutableCollections$ListN;" (.ref a1)) (Od0 : Old Z n0 h0) :
    OwnMet l Z y_29 jdk_40_method_36_code 0 (some (.object "java/util/List")) ws Rm41 #[] h0 (Q41 Z a1 h0 n0) := by
  refine own_body (plainFor_of_name pn_12) (ef41) ?_
  intro p e s m below meth c s₁ hx hby hml hown hnm hret hZ X0 e0
  have N0 := Fr.nil n0
  obtain ⟨T2, X2, e2, st2⟩ := getS2 X0 hx hZ hown (host := "") (Or.inl (w_200 hw)) Via.refl e0 (S_EMPTY_LIST.ext Od0.2) (g := (mkF m 0 #[] [])) rfl (hb hby d29_0)
  refine ⟨T2, _, _, _, (some (.ref a1)), X2, nofun, by decide, by decide, ?_, fun fs hr => ?_⟩
  · show Q41 Z a1 h0 n0 _ T2.heap _
    rw [e2]
    exact ⟨rfl, N0, rfl⟩
  · show Steps p.tables e below (s₁.setTop (mkF m 0 #[] [])) _
    refine st2 _ ?_
    exact retOut X2 hx hret rfl (Or.inr (Or.inr (Or.inr (Or.inr ⟨rfl, rfl, rfl⟩)))) (hb hby d29_3) hr
theorem pd_17 : parseMethodDescriptor "()Ljava/util/List;" = some ⟨[], some (.object "java/util/List")⟩ := by decide +kernel
theorem w_199 {a0 : Array Value} {Z : State} (hw : ∀ d ∈ tables_1, d.before a0 Z = true) : Jvm.Cond.before (Jvm.Cond.code ({ cls := "java/util/List", name := "of", desc := "()Ljava/util/List;" } : Jvm.MethodName) jdk_40_method_36_code (0 : Nat) (Option.some (Jvm.ClassFile.FieldType.object "java/util/List"))) a0 Z = true := hw _ (List.mem_of_getElem? (i := 199) rfl)
theorem w_197 {a0 : Array Value} {Z : State} (hw : ∀ d ∈ tables_1, d.before a0 Z = true) : Jvm.Cond.before (Jvm.Cond.methodLink "java/util/ImmutableCollections" (26 : Nat) ({ cls := "java/util/List", name := "of", desc := "()Ljava/util/List;" } : Jvm.MethodName)) a0 Z = true := hw _ (List.mem_of_getElem? (i := 197) rfl)
theorem w_198 {a0 : Array Value} {Z : State} (hw : ∀ d ∈ tables_1, d.before a0 Z = true) : Jvm.Cond.before (Jvm.Cond.static ({ cls := "java/util/List", name := "of", desc := "()Ljava/util/List;" } : Jvm.MethodName)) a0 Z = true := hw _ (List.mem_of_getElem? (i := 198) rfl)
theorem d18_43 : decode jdk_56_method_3_code 43 = .ok (.areturn, 1) := by decide +kernel
-- java/util/ImmutableCollections.listCopy(Ljava/util/Collection;)Ljava/util/List;
abbrev Rm42 : Room := { frames := 1, cells := 0, slots := 0, locals := 12 }
def Q42 (Z : State) (a1 : Addr) (a5 : Addr) (h0 : Heap) (n0 : Nat) (v : Option Value) (h : Heap) (L : List Loc) : Prop := v = some (.ref a5) ∧ Fr n0 L ∧ h = h0
theorem ef42 (a1 : Addr) (m : MethodId) : entryFrame m #[(.ref a1)] 2 = mkF m 0 #[.val (.ref a1), .unset] [] := by first | (simp [entryFrame, mkF, argsToLocals, Value.category]; done) | rfl
theorem rm42 (l : Launch) (Z : State) (a0 : Array Value) (hw : ∀ d ∈ tables_1, d.before a0 Z = true) (ws : List Jvm.Cond) (a1 : Addr) (a5 : Addr) (h0 : Heap) (n0 : Nat) (Z0 : n0 ≤ h0.size) (E_a1 : Exa Z h0 a1 "java/util/ArrayList") (F_size_a1 : Fld Z h0 a1 "java/util/ArrayList" "size" "I" (.int (0 : Int32))) (S_EMPTY_LIST : Sta Z Z.heap "java/util/ImmutableCollections" "EMPTY_LIST" "Ljava/util/ImmutableCollections$ListN;" (.ref a5)) (Od0 : Old Z n0 h0) :
    OwnMet l Z y_27 jdk_56_method_3_code 2 (some (.object "java/util/List")) ws Rm42 #[(.ref a1)] h0 (Q42 Z a1 a5 h0 n0) := by
  refine own_body (plainFor_of_name pn_13) (ef42 a1) ?_
  intro p e s m below meth c s₁ hx hby hml hown hnm hret hZ X0 e0
  have N0 := Fr.nil n0
  obtain ⟨T2, X2, e2, st2⟩ := instNo X0 hx hZ hown (w_120 hw) e0 E_a1 (own_NSno (w_121 hw) (w_169 hw) (NS.step (w_121 hw) (NS.step (w_122 hw) (NS.step (w_123 hw) (own_NSroot (w_124 hw) (w_169 hw) (by decide)) (by decide)) (by decide)) (by decide)) (by decide)) (g := (mkF m 1 #[.val (.ref a1), .unset] [(.ref a1)])) rfl rfl (hb hby d18_1)
  obtain ⟨T3, X3, e3, st3⟩ := instNo X2 hx hZ hown (w_125 hw) e2 E_a1 (own_NSno (w_121 hw) (w_240 hw) (NS.step (w_121 hw) (NS.step (w_122 hw) (NS.step (w_123 hw) (own_NSroot (w_124 hw) (w_240 hw) (by decide)) (by decide)) (by decide)) (by decide)) (by decide)) (g := (mkF m 8 #[.val (.ref a1), .unset] [(.ref a1)])) rfl rfl (hb hby d18_8)
  obtain ⟨_, T4, L4, X4, hQ4, st4⟩ := own_iface X3 hx hZ hown (y := y_16) (z := y_15) E_a1 (w_126 hw) (w_127 hw) (w_128 hw) (w_129 hw) (w_130 hw) (w_131 hw) (w_132 hw) (w_133 hw) (w_23 hw) (w_134 hw) (rm40 l Z a0 hw [] a1 h0 n0 Z0 F_size_a1) e3 (Ls := #[.val (.ref a1), .unset]) (by rw [hml]; rfl) (argsL := []) (rest := []) (lenOf pd_10 rfl) (hb hby d18_32) (W := 0)
  obtain ⟨rfl, Nq4, e4⟩ := hQ4
  have N4 := Fr.app N0 Nq4
  obtain ⟨_, T6, L6, X6, hQ6, st6⟩ := own_callS X4 hx hZ hown (y := y_29) (w_197 hw) (w_198 hw) (w_114 hw) (w_199 hw) (rm41 l Z a0 hw [] a5 h0 n0 Z0 S_EMPTY_LIST Od0) e4 (Ls := #[.val (.ref a1), .unset]) (by rw [hml]; rfl) (argsL := []) (rest := []) (lenOf pd_17 rfl) (hb hby d18_40) (W := 0)
  obtain ⟨rfl, Nq6, e6⟩ := hQ6
  have N6 := Fr.app N4 Nq6
  refine ⟨T6, _, _, _, (some (.ref a5)), X6, nofun, by decide, by decide, ?_, fun fs hr => ?_⟩
  · show Q42 Z a1 a5 h0 n0 _ T6.heap _
    rw [e6]
    exact ⟨rfl, N6, rfl⟩
  · show Steps p.tables e below (s₁.setTop (mkF m 0 #[.val (.ref a1), .unset] [])) _
    refine XS.aloadN X0.here hx rfl (hb hby d18_0) rfl rfl ?_
    refine st2 _ ?_
    refine XS.ifNo X2.here hx rfl (hb hby d18_4) rfl ((if0 _ _).trans (teq ((by decide : (0 : Int32) = (0 : Int32)) : (0 : Int32) = (0 : Int32))).2) ?_
    refine XS.aloadN X2.here hx rfl (hb hby d18_7) rfl rfl ?_
    refine st3 _ ?_
    refine XS.ifYes X3.here hx rfl (pc0 := 11) (pc' := 31) rfl (hb hby d18_11) rfl ((if0 _ _).trans (teq ((by decide : (0 : Int32) = (0 : Int32)) : (0 : Int32) = (0 : Int32))).1) (by decide) (by decide) ?_
    refine XS.aloadN X3.here hx rfl (hb hby d18_31) rfl rfl ?_
    refine st4 _ ?_
    refine XS.ifNo X4.here hx rfl (hb hby d18_37) rfl ((if0 _ _).trans (feq ((by decide : ¬ ((1 : Int32) = (0 : Int32))) : ¬ ((1 : Int32) = (0 : Int32)))).1) ?_
    refine st6 _ ?_
    exact retOut X6 hx hret rfl (Or.inr (Or.inr (Or.inr (Or.inr ⟨rfl, rfl, rfl⟩)))) (hb hby d18_43) hr
-- java/util/List.copyOf(Ljava/util/Collection;)Ljava/util/List;
abbrev Rm43 : Room := { frames := 2, cells := 0, slots := 0, locals := 25 }
def Q43 (Z : State) (a1 : Addr) (a2 : Addr) (h0 : Heap) (n0 : Nat) (v : Option Value) (h : Heap) (L : List Loc) : Prop := v = some (.ref a2) ∧ Fr n0 L ∧ h = h0
theorem ef43 (a1 : Addr) (m : MethodId) : entryFrame m #[(.ref a1)] 1 = mkF m 0 #[.val (.ref a1)] [] := by first | (simp [entryFrame, mkF, argsToLocals, Value.category]; done) | rfl
theorem rm43 (l : Launch) (Z : State) (a0 : Array Value) (hw : ∀ d ∈ tables_1, d.before a0 Z = true) (ws : List Jvm.Cond) (a1 : Addr) (a2 : Addr) (h0 : Heap) (n0 : Nat) (Z0 : n0 ≤ h0.size) (E_a1 : Exa Z h0 a1 "java/util/ArrayList") (F_size_a1 : Fld Z h0 a1 "java/util/ArrayList" "size" "I" (.int (0 : Int32))) (S_EMPTY_LIST : Sta Z Z.heap "java/util/ImmutableCollections" "EMPTY_LIST" "Ljava/util/ImmutableCollections$ListN;" (.ref a2)) (Od0 : Old Z n0 h0) :
    OwnMet l Z y_28 jdk_40_method_48_code 1 (some (.object "java/util/List")) ws Rm43 #[(.ref a1)] h0 (Q43 Z a1 a2 h0 n0) := by
  refine own_body (plainFor_of_name pn_12) (ef43 a1) ?_
  intro p e s m below meth c s₁ hx hby hml hown hnm hret hZ X0 e0
  have N0 := Fr.nil n0
  obtain ⟨_, T3, L3, X3, hQ3, st3⟩ := own_callS X0 hx hZ hown (y := y_27) (w_116 hw) (w_117 hw) (w_118 hw) (w_119 hw) (rm42 l Z a0 hw [] a1 a2 h0 n0 Z0 E_a1 F_size_a1 S_EMPTY_LIST Od0) e0 (Ls := #[.val (.ref a1)]) (by rw [hml]; rfl) (argsL := [(.ref a1)]) (rest := []) (lenOf pd_16 rfl) (hb hby d17_1) (W := 0)
  obtain ⟨rfl, Nq3, e3⟩ := hQ3
  have N3 := Fr.app N0 Nq3
  refine ⟨T3, _, _, _, (some (.ref a2)), X3, nofun, by decide, by decide, ?_, fun fs hr => ?_⟩
  · show Q43 Z a1 a2 h0 n0 _ T3.heap _
    rw [e3]
    exact ⟨rfl, N3, rfl⟩
  · show Steps p.tables e below (s₁.setTop (mkF m 0 #[.val (.ref a1)] [])) _
    refine XS.aloadN X0.here hx rfl (hb hby d17_0) rfl rfl ?_
    refine st3 _ ?_
    exact retOut X3 hx hret rfl (Or.inr (Or.inr (Or.inr (Or.inr ⟨rfl, rfl, rfl⟩)))) (hb hby d17_4) hr
theorem d15_69 : decode prog_9_method_1_code 69 = .ok (.astore 5, 2) := by decide +kernel
theorem d15_71 : decode prog_9_method_1_code 71 = .ok (.aload_n 0, 1) := by decide +kernel
theorem d15_72 : decode prog_9_method_1_code 72 = .ok (.aload_n 1, 1) := by decide +kernel
theorem d15_73 : decode prog_9_method_1_code 73 = .ok (.putfield 26, 3) := by decide +kernel
theorem w_201 {a0 : Array Value} {Z : State} (hw : ∀ d ∈ tables_1, d.before a0 Z = true) : Jvm.Cond.before (Jvm.Cond.fieldLink "com/example/feedergen/feedergen/core/DrivenLine" (26 : Nat) "com/example/feedergen/feedergen/core/DrivenLine" "stops" "Ljava/util/List;") a0 Z = true := hw _ (List.mem_of_getElem? (i := 201) rfl)
theorem d15_76 : decode prog_9_method_1_code 76 = .ok (.aload_n 0, 1) := by decide +kernel
theorem d15_77 : decode prog_9_method_1_code 77 = .ok (.aload_n 2, 1) := by decide +kernel
theorem d15_78 : decode prog_9_method_1_code 78 = .ok (.putfield 32, 3) := by decide +kernel
theorem w_203 {a0 : Array Value} {Z : State} (hw : ∀ d ∈ tables_1, d.before a0 Z = true) : Jvm.Cond.before (Jvm.Cond.fieldLink "com/example/feedergen/feedergen/core/DrivenLine" (32 : Nat) "com/example/feedergen/feedergen/core/DrivenLine" "distances" "Ljava/util/List;") a0 Z = true := hw _ (List.mem_of_getElem? (i := 203) rfl)
theorem d15_81 : decode prog_9_method_1_code 81 = .ok (.aload_n 0, 1) := by decide +kernel
theorem d15_82 : decode prog_9_method_1_code 82 = .ok (.dload_n 3, 1) := by decide +kernel
theorem d15_83 : decode prog_9_method_1_code 83 = .ok (.putfield 35, 3) := by decide +kernel
theorem w_205 {a0 : Array Value} {Z : State} (hw : ∀ d ∈ tables_1, d.before a0 Z = true) : Jvm.Cond.before (Jvm.Cond.fieldLink "com/example/feedergen/feedergen/core/DrivenLine" (35 : Nat) "com/example/feedergen/feedergen/core/DrivenLine" "lengthBackward" "D") a0 Z = true := hw _ (List.mem_of_getElem? (i := 205) rfl)
theorem d15_86 : decode prog_9_method_1_code 86 = .ok (.aload_n 0, 1) := by decide +kernel
theorem d15_87 : decode prog_9_method_1_code 87 = .ok (.aload 5, 2) := by decide +kernel
theorem d15_89 : decode prog_9_method_1_code 89 = .ok (.putfield 39, 3) := by decide +kernel
theorem w_207 {a0 : Array Value} {Z : State} (hw : ∀ d ∈ tables_1, d.before a0 Z = true) : Jvm.Cond.before (Jvm.Cond.fieldLink "com/example/feedergen/feedergen/core/DrivenLine" (39 : Nat) "com/example/feedergen/feedergen/core/DrivenLine" "route" "Ljava/util/List;") a0 Z = true := hw _ (List.mem_of_getElem? (i := 207) rfl)
theorem d15_92 : decode prog_9_method_1_code 92 = .ok (.return_, 1) := by decide +kernel
abbrev y_30 : MethodName := ⟨"com/example/feedergen/feedergen/core/DrivenLine", "<init>", "(Ljava/util/List;Ljava/util/List;DLjava/util/List;)V"⟩
theorem pn_14 : plainName "com/example/feedergen/feedergen/core/DrivenLine" = true := by first | (simp [plainName, overriddenIn]; done) | decide +kernel
-- com/example/feedergen/feedergen/core/DrivenLine.<init>(Ljava/util/List;Ljava/util/List;DLjava/util/List;)V
abbrev Rm44 : Room := { frames := 8, cells := 4, slots := 8, locals := 101 }
def Q44 (Z : State) (a1 : Addr) (a2 : Addr) (a3 : Addr) (d4 : UInt64) (a5 : Addr) (a10 : Addr) (a11 : Addr) (a12 : Addr) (k13 : ClassId) (a17 : Addr) (a20 : Addr) (a21 : Addr) (k22 : ClassId) (a29 : Addr) (h0 : Heap) (n0 : Nat) (v : Option Value) (h : Heap) (L : List Loc) : Prop := ∃ b26_b7_b11_b6 : Addr, ∃ b14_b6_b10_b5 : Addr, v = none ∧ Fr n0 L ∧ Keep h0 h [a1] ∧ Exa Z h a1 "com/example/feedergen/feedergen/core/DrivenLine" ∧ Fld Z h a1 "com/example/feedergen/feedergen/core/DrivenLine" "distances" "Ljava/util/List;" (.ref b26_b7_b11_b6) ∧ Fld Z h a1 "com/example/feedergen/feedergen/core/DrivenLine" "lengthBackward" "D" (.double d4) ∧ Fld Z h a1 "com/example/feedergen/feedergen/core/DrivenLine" "route" "Ljava/util/List;" (.ref a29) ∧ Fld Z h a1 "com/example/feedergen/feedergen/core/DrivenLine" "stops" "Ljava/util/List;" (.ref b14_b6_b10_b5) ∧ h0.size ≤ b26_b7_b11_b6 ∧ Exa Z h b26_b7_b11_b6 "java/util/ImmutableCollections$List12" ∧ Fld Z h b26_b7_b11_b6 "java/util/ImmutableCollections$List12" "e0" "Ljava/lang/Object;" (.ref a20) ∧ Fld Z h b26_b7_b11_b6 "java/util/ImmutableCollections$List12" "e1" "Ljava/lang/Object;" (.ref a21) ∧ h0.size ≤ b14_b6_b10_b5 ∧ Exa Z h b14_b6_b10_b5 "java/util/ImmutableCollections$List12" ∧ Fld Z h b14_b6_b10_b5 "java/util/ImmutableCollections$List12" "e0" "Ljava/lang/Object;" (.ref a12) ∧ Fld Z h b14_b6_b10_b5 "java/util/ImmutableCollections$List12" "e1" "Ljava/lang/Object;" (.ref a12) ∧ b26_b7_b11_b6 ≠ b14_b6_b10_b5
theorem ef44 (a1 : Addr) (a2 : Addr) (a3 : Addr) (d4 : UInt64) (a5 : Addr) (m : MethodId) : entryFrame m #[(.ref a1), (.ref a2), (.ref a3), (.double d4), (.ref a5)] 6 = mkF m 0 #[.val (.ref a1), .val (.ref a2), .val (.ref a3), .val (.double d4), .second, .val (.ref a5)] [] := by first | (simp [entryFrame, mkF, argsToLocals, Value.category]; done) | rfl
theorem rm44 (l : Launch) (Z : State) (a0 : Array Value) (hw : ∀ d ∈ tables_1, d.before a0 Z = true) (ws : List Jvm.Cond) (a1 : Addr) (a2 : Addr) (a3 : Addr) (d4 : UInt64) (a5 : Addr) (a10 : Addr) (a11 : Addr) (a12 : Addr) (k13 : ClassId) (a17 : Addr) (a20 : Addr) (a21 : Addr) (k22 : ClassId) (a29 : Addr) (h0 : Heap) (n0 : Nat) (Z0 : n0 ≤ h0.size) (E_a2 : Exa Z h0 a2 "java/util/ArrayList") (F_size_a2 : Fld Z h0 a2 "java/util/ArrayList" "size" "I" (.int (2 : Int32))) (E_a3 : Exa Z h0 a3 "java/util/ArrayList") (F_size_a3 : Fld Z h0 a3 "java/util/ArrayList" "size" "I" (.int (2 : Int32))) (F_elementData_a2 : Fld Z h0 a2 "java/util/ArrayList" "elementData" "[Ljava/lang/Object;" (.ref a10)) (E_a10 : Exa Z h0 a10 "[Ljava/lang/Object;") (M_1 : OwnMir Z "[Ljava/lang/Object;" a11) (V_a10 : Arv Z h0 a10 k13 (.object "java/lang/Object") (10 : Int32) [(.ref a12), (.ref a12), .null, .null, .null, .null, .null, .null, .null, .null] .null) (E_a12 : Exa Z h0 a12 "com/example/feedergen/feedergen/core/StopCandidate") (F_elementData_a3 : Fld Z h0 a3 "java/util/ArrayList" "elementData" "[Ljava/lang/Object;" (.ref a17)) (E_a17 : Exa Z h0 a17 "[Ljava/lang/Object;") (V_a17 : Arv Z h0 a17 k22 (.object "java/lang/Object") (10 : Int32) [(.ref a20), (.ref a21), .null, .null, .null, .null, .null, .null, .null, .null] .null) (E_a21 : Exa Z h0 a21 "java/lang/Double") (E_a20 : Exa Z h0 a20 "java/lang/Double") (E_a5 : Exa Z h0 a5 "java/util/ArrayList") (F_size_a5 : Fld Z h0 a5 "java/util/ArrayList" "size" "I" (.int (0 : Int32))) (S_EMPTY_LIST : Sta Z Z.heap "java/util/ImmutableCollections" "EMPTY_LIST" "Ljava/util/ImmutableCollections$ListN;" (.ref a29)) (Od0 : Old Z n0 h0) (F_stops_a1 : Fld Z h0 a1 "com/example/feedergen/feedergen/core/DrivenLine" "stops" "Ljava/util/List;" .null) (E_a1 : Exa Z h0 a1 "com/example/feedergen/feedergen/core/DrivenLine") (g_a1 : n0 ≤ a1) (F_distances_a1 : Fld Z h0 a1 "com/example/feedergen/feedergen/core/DrivenLine" "distances" "Ljava/util/List;" .null) (F_lengthBackward_a1 : Fld Z h0 a1 "com/example/feedergen/feedergen/core/DrivenLine" "lengthBackward" "D" (.double (0 : UInt64))) (F_route_a1 : Fld Z h0 a1 "com/example/feedergen/feedergen/core/DrivenLine" "route" "Ljava/util/List;" .null) :
    OwnMet l Z y_30 prog_9_method_1_code 6 none ws Rm44 #[(.ref a1), (.ref a2), (.ref a3), (.double d4), (.ref a5)] h0 (Q44 Z a1 a2 a3 d4 a5 a10 a11 a12 k13 a17 a20 a21 k22 a29 h0 n0) := by
  refine own_body (plainFor_of_name pn_14) (ef44 a1 a2 a3 d4 a5) ?_
  intro p e s m below meth c s₁ hx hby hml hown hnm hret hZ X0 e0
  have N0 := Fr.nil n0
  obtain ⟨_, T6, L6, X6, hQ6, st6⟩ := own_special X0 hx hZ hown (y := y_0) (a := a1) (w_102 hw) (w_8 hw) (w_10 hw) (w_11 hw) (rm1 l Z a0 hw [] a1 h0 n0 Z0) e0 (Ls := #[.val (.ref a1), .val (.ref a2), .val (.ref a3), .val (.double d4), .second, .val (.ref a5)]) (by rw [hml]; rfl) (argsL := []) (rest := []) (lenOf pd_0 rfl) (hb hby d15_1) (W := 0)
  obtain ⟨rfl, Nq6, e6⟩ := hQ6
  have N6 := Fr.app N0 Nq6
  obtain ⟨_, T7, L7, X7, hQ7, st7⟩ := own_iface X6 hx hZ hown (y := y_14) (z := y_13) E_a2 (w_103 hw) (w_104 hw) (w_105 hw) (w_106 hw) (w_107 hw) (w_108 hw) (w_109 hw) (w_110 hw) (w_23 hw) (w_111 hw) (rm20 l Z a0 hw [] a2 h0 n0 Z0 F_size_a2) e6 (Ls := #[.val (.ref a1), .val (.ref a2), .val (.ref a3), .val (.double d4), .second, .val (.ref a5)]) (by rw [hml]; rfl) (argsL := []) (rest := []) (lenOf pd_9 rfl) (hb hby d15_5) (W := 0)
  obtain ⟨rfl, Nq7, e7⟩ := hQ7
  have N7 := Fr.app N6 Nq7
  obtain ⟨_, T8, L8, X8, hQ8, st8⟩ := own_iface X7 hx hZ hown (y := y_14) (z := y_13) E_a3 (w_103 hw) (w_104 hw) (w_105 hw) (w_106 hw) (w_107 hw) (w_108 hw) (w_109 hw) (w_110 hw) (w_23 hw) (w_111 hw) (rm20 l Z a0 hw [] a3 h0 n0 Z0 F_size_a3) e7 (Ls := #[.val (.ref a1), .val (.ref a2), .val (.ref a3), .val (.double d4), .second, .val (.ref a5)]) (by rw [hml]; rfl) (argsL := []) (rest := []) (lenOf pd_9 rfl) (hb hby d15_15) (W := 0)
  obtain ⟨rfl, Nq8, e8⟩ := hQ8
  have N8 := Fr.app N7 Nq8
  obtain ⟨_, T9, L9, X9, hQ9, st9⟩ := own_iface X8 hx hZ hown (y := y_14) (z := y_13) E_a2 (w_103 hw) (w_104 hw) (w_105 hw) (w_106 hw) (w_107 hw) (w_108 hw) (w_109 hw) (w_110 hw) (w_23 hw) (w_111 hw) (rm20 l Z a0 hw [] a2 h0 n0 Z0 F_size_a2) e8 (Ls := #[.val (.ref a1), .val (.ref a2), .val (.ref a3), .val (.double d4), .second, .val (.ref a5)]) (by rw [hml]; rfl) (argsL := []) (rest := [(.int (2 : Int32))]) (lenOf pd_9 rfl) (hb hby d15_21) (W := 1)
  obtain ⟨rfl, Nq9, e9⟩ := hQ9
  have N9 := Fr.app N8 Nq9
  obtain ⟨_, T14, L14, X14, hQ14, st14⟩ := own_callS X9 hx hZ hown (y := y_28) (w_112 hw) (w_113 hw) (w_114 hw) (w_115 hw) (rm32 l Z a0 hw [] a2 a10 a11 a12 k13 h0 n0 Z0 E_a2 F_size_a2 F_elementData_a2 E_a10 M_1 V_a10 E_a12) e9 (Ls := #[.val (.ref a1), .val (.ref a2), .val (.ref a3), .val (.double d4), .second, .val (.ref a5)]) (by rw [hml]; rfl) (argsL := [(.ref a2)]) (rest := []) (lenOf pd_16 rfl) (hb hby d15_55) (W := 0)
  obtain ⟨b14_b6_b10_b5, rfl, Nq14, K14, o14_0, o14_1, o14_2, o14_3⟩ := hQ14
  have N14 := Fr.app N9 Nq14
  have s0 := K14.1
  have Ex15 := (E_a3.keep K14)
  have Fl16 := (F_size_a3.keep K14 nin0)
  have Fl18 := (F_elementData_a3.keep K14 nin0)
  have Ex19 := (E_a17.keep K14)
  have Va23 := (V_a17.keep K14 nin0)
  have Ex24 := (E_a21.keep K14)
  have Ex25 := (E_a20.keep K14)
  have z1 := Nat.le_trans Z0 s0
  obtain ⟨_, T26, L26, X26, hQ26, st26⟩ := own_callS X14 hx hZ hown (y := y_28) (w_112 hw) (w_113 hw) (w_114 hw) (w_115 hw) (rm39 l Z a0 hw [] a3 a17 a11 a20 a21 k22 T14.heap n0 z1 Ex15 Fl16 Fl18 Ex19 M_1 Va23 Ex24 Ex25) rfl (Ls := #[.val (.ref a1), .val (.ref b14_b6_b10_b5), .val (.ref a3), .val (.double d4), .second, .val (.ref a5)]) (by rw [hml]; rfl) (argsL := [(.ref a3)]) (rest := []) (lenOf pd_16 rfl) (hb hby d15_60) (W := 0)
  obtain ⟨b26_b7_b11_b6, rfl, Nq26, K26, o26_0, o26_1, o26_2, o26_3⟩ := hQ26
  have N26 := Fr.app N14 Nq26
  have s1 := K26.1
  have Ex27 := ((E_a5.keep K14).keep K26)
  have Fl28 := ((F_size_a5.keep K14 nin0).keep K26 nin0)
  have Od1 : Old Z n0 T14.heap := Od0.keep K14 all0
  have Od2 : Old Z n0 T26.heap := Od1.keep K26 all0
  have z2 := Nat.le_trans Z0 (Nat.le_trans s0 s1)
  obtain ⟨_, T30, L30, X30, hQ30, st30⟩ := own_callS X26 hx hZ hown (y := y_28) (w_112 hw) (w_113 hw) (w_114 hw) (w_115 hw) (rm43 l Z a0 hw [] a5 a29 T26.heap n0 z2 Ex27 Fl28 S_EMPTY_LIST Od2) rfl (Ls := #[.val (.ref a1), .val (.ref b14_b6_b10_b5), .val (.ref b26_b7_b11_b6), .val (.double d4), .second, .val (.ref a5)]) (by rw [hml]; rfl) (argsL := [(.ref a5)]) (rest := []) (lenOf pd_16 rfl) (hb hby d15_66) (W := 0)
  obtain ⟨rfl, Nq30, e30⟩ := hQ30
  have N30 := Fr.app N26 Nq30
  have Fl31 := ((F_stops_a1.keep K14 nin0).keep K26 nin0)
  have Ex32 := ((E_a1.keep K14).keep K26)
  obtain ⟨T33, h33, X33, e33, W33, st33⟩ := putF X30 hx hZ hown (host := "") (Or.inl (w_201 hw)) Via.refl e30 Fl31 Ex32 (Or.inr ⟨(w_202 hw), rfl, hnm⟩) (w_97 hw) (ty := (.object "java/util/List")) (by decide) rfl rfl (g := (mkF m 73 #[.val (.ref a1), .val (.ref b14_b6_b10_b5), .val (.ref b26_b7_b11_b6), .val (.double d4), .second, .val (.ref a29)] [(.ref b14_b6_b10_b5), (.ref a1)])) rfl rfl (hb hby d15_73)
  have s2 := (Keep.of_wr W33).1
  have N33 := Fr.snoc X33 N30 g_a1
  have Fw33 : Fld Z h33 a1 "com/example/feedergen/feedergen/core/DrivenLine" "stops" "Ljava/util/List;" (.ref b14_b6_b10_b5) := Fl31.same W33
  have Ex34 := (Ex32.wr W33)
  have Fl35 := (((F_distances_a1.keep K14 nin0).keep K26 nin0).other W33 (Or.inr (slot_ne (Or.inr (w_204 hw)) (Or.inr (w_202 hw)) (by decide) (t := (.object "java/util/List")) (t' := (.object "java/util/List")) (by decide) (by decide))))
  obtain ⟨T36, h36, X36, e36, W36, st36⟩ := putF X33 hx hZ hown (host := "") (Or.inl (w_203 hw)) Via.refl e33 Fl35 Ex34 (Or.inr ⟨(w_204 hw), rfl, hnm⟩) (w_97 hw) (ty := (.object "java/util/List")) (by decide) rfl rfl (g := (mkF m 78 #[.val (.ref a1), .val (.ref b14_b6_b10_b5), .val (.ref b26_b7_b11_b6), .val (.double d4), .second, .val (.ref a29)] [(.ref b26_b7_b11_b6), (.ref a1)])) rfl rfl (hb hby d15_78)
  have s3 := (Keep.of_wr W36).1
  have N36 := Fr.snoc X36 N33 g_a1
  have Fw36 : Fld Z h36 a1 "com/example/feedergen/feedergen/core/DrivenLine" "distances" "Ljava/util/List;" (.ref b26_b7_b11_b6) := Fl35.same W36
  have Ex37 := (Ex34.wr W36)
  have Fl38 := ((((F_lengthBackward_a1.keep K14 nin0).keep K26 nin0).other W33 (Or.inr (slot_ne (Or.inr (w_206 hw)) (Or.inr (w_202 hw)) (by decide) (t := .double) (t' := (.object "java/util/List")) (by decide) (by decide)))).other W36 (Or.inr (slot_ne (Or.inr (w_206 hw)) (Or.inr (w_204 hw)) (by decide) (t := .double) (t' := (.object "java/util/List")) (by decide) (by decide))))
  obtain ⟨T39, h39, X39, e39, W39, st39⟩ := putF X36 hx hZ hown (host := "") (Or.inl (w_205 hw)) Via.refl e36 Fl38 Ex37 (Or.inr ⟨(w_206 hw), rfl, hnm⟩) (w_97 hw) (ty := .double) (by decide) rfl rfl (g := (mkF m 83 #[.val (.ref a1), .val (.ref b14_b6_b10_b5), .val (.ref b26_b7_b11_b6), .val (.double d4), .second, .val (.ref a29)] [(.double d4), (.ref a1)])) rfl rfl (hb hby d15_83)
  have s4 := (Keep.of_wr W39).1
  have N39 := Fr.snoc X39 N36 g_a1
  have Fw39 : Fld Z h39 a1 "com/example/feedergen/feedergen/core/DrivenLine" "lengthBackward" "D" (.double d4) := Fl38.same W39
  have Ex40 := (Ex37.wr W39)
  have Fl41 := (((((F_route_a1.keep K14 nin0).keep K26 nin0).other W33 (Or.inr (slot_ne (Or.inr (w_208 hw)) (Or.inr (w_202 hw)) (by decide) (t := (.object "java/util/List")) (t' := (.object "java/util/List")) (by decide) (by decide)))).other W36 (Or.inr (slot_ne (Or.inr (w_208 hw)) (Or.inr (w_204 hw)) (by decide) (t := (.object "java/util/List")) (t' := (.object "java/util/List")) (by decide) (by decide)))).other W39 (Or.inr (slot_ne (Or.inr (w_208 hw)) (Or.inr (w_206 hw)) (by decide) (t := (.object "java/util/List")) (t' := .double) (by decide) (by decide))))
  obtain ⟨T42, h42, X42, e42, W42, st42⟩ := putF X39 hx hZ hown (host := "") (Or.inl (w_207 hw)) Via.refl e39 Fl41 Ex40 (Or.inr ⟨(w_208 hw), rfl, hnm⟩) (w_97 hw) (ty := (.object "java/util/List")) (by decide) rfl rfl (g := (mkF m 89 #[.val (.ref a1), .val (.ref b14_b6_b10_b5), .val (.ref b26_b7_b11_b6), .val (.double d4), .second, .val (.ref a29)] [(.ref a29), (.ref a1)])) rfl rfl (hb hby d15_89)
  have s5 := (Keep.of_wr W42).1
  have N42 := Fr.snoc X42 N39 g_a1
  have Fw42 : Fld Z h42 a1 "com/example/feedergen/feedergen/core/DrivenLine" "route" "Ljava/util/List;" (.ref a29) := Fl41.same W42
  have Ex43 := (Ex40.wr W42)
  have Fl44 := ((Fw36.other W39 (Or.inr (slot_ne (Or.inr (w_204 hw)) (Or.inr (w_206 hw)) (by decide) (t := (.object "java/util/List")) (t' := .double) (by decide) (by decide)))).other W42 (Or.inr (slot_ne (Or.inr (w_204 hw)) (Or.inr (w_208 hw)) (by decide) (t := (.object "java/util/List")) (t' := (.object "java/util/List")) (by decide) (by decide))))
  have Fl45 := (Fw39.other W42 (Or.inr (slot_ne (Or.inr (w_206 hw)) (Or.inr (w_208 hw)) (by decide) (t := .double) (t' := (.object "java/util/List")) (by decide) (by decide))))
  have Fl46 := (((Fw33.other W36 (Or.inr (slot_ne (Or.inr (w_202 hw)) (Or.inr (w_204 hw)) (by decide) (t := (.object "java/util/List")) (t' := (.object "java/util/List")) (by decide) (by decide)))).other W39 (Or.inr (slot_ne (Or.inr (w_202 hw)) (Or.inr (w_206 hw)) (by decide) (t := (.object "java/util/List")) (t' := .double) (by decide) (by decide)))).other W42 (Or.inr (slot_ne (Or.inr (w_202 hw)) (Or.inr (w_208 hw)) (by decide) (t := (.object "java/util/List")) (t' := (.object "java/util/List")) (by decide) (by decide))))
  have sz_b26_b7_b11_b6 : h0.size ≤ b26_b7_b11_b6 := Nat.le_trans s0 o26_0
  have Ex47 := ((((o26_1.wr W33).wr W36).wr W39).wr W42)
  have ne_a1_b26_b7_b11_b6 := Nat.ne_of_lt (Nat.lt_of_lt_of_le (Nat.lt_of_lt_of_le F_stops_a1.lt s0) o26_0)
  have Fl48 := ((((o26_2.other W33 (Or.inl (Ne.symm ne_a1_b26_b7_b11_b6))).other W36 (Or.inl (Ne.symm ne_a1_b26_b7_b11_b6))).other W39 (Or.inl (Ne.symm ne_a1_b26_b7_b11_b6))).other W42 (Or.inl (Ne.symm ne_a1_b26_b7_b11_b6)))
  have Fl49 := ((((o26_3.other W33 (Or.inl (Ne.symm ne_a1_b26_b7_b11_b6))).other W36 (Or.inl (Ne.symm ne_a1_b26_b7_b11_b6))).other W39 (Or.inl (Ne.symm ne_a1_b26_b7_b11_b6))).other W42 (Or.inl (Ne.symm ne_a1_b26_b7_b11_b6)))
  have sz_b14_b6_b10_b5 : h0.size ≤ b14_b6_b10_b5 := o14_0
  have Ex50 := (((((o14_1.keep K26).wr W33).wr W36).wr W39).wr W42)
  have ne_a1_b14_b6_b10_b5 := Nat.ne_of_lt (Nat.lt_of_lt_of_le F_stops_a1.lt o14_0)
  have Fl51 := (((((o14_2.keep K26 nin0).other W33 (Or.inl (Ne.symm ne_a1_b14_b6_b10_b5))).other W36 (Or.inl (Ne.symm ne_a1_b14_b6_b10_b5))).other W39 (Or.inl (Ne.symm ne_a1_b14_b6_b10_b5))).other W42 (Or.inl (Ne.symm ne_a1_b14_b6_b10_b5)))
  have Fl52 := (((((o14_3.keep K26 nin0).other W33 (Or.inl (Ne.symm ne_a1_b14_b6_b10_b5))).other W36 (Or.inl (Ne.symm ne_a1_b14_b6_b10_b5))).other W39 (Or.inl (Ne.symm ne_a1_b14_b6_b10_b5))).other W42 (Or.inl (Ne.symm ne_a1_b14_b6_b10_b5)))
  have ne_b14_b6_b10_b5_b26_b7_b11_b6 := Nat.ne_of_lt (Nat.lt_of_lt_of_le o14_3.lt o26_0)
  have Kp0 : Keep h0 T14.heap [a1] := (Keep.refl h0 [a1]).trans K14 all0
  have Kp1 : Keep h0 T26.heap [a1] := Kp0.trans K26 all0
  have Kp2 : Keep h0 h33 [a1] := Kp1.wr W33 (Or.inl (List.mem_of_getElem? (i := 0) rfl))
  have Kp3 : Keep h0 h36 [a1] := Kp2.wr W36 (Or.inl (List.mem_of_getElem? (i := 0) rfl))
  have Kp4 : Keep h0 h39 [a1] := Kp3.wr W39 (Or.inl (List.mem_of_getElem? (i := 0) rfl))
  have Kp5 : Keep h0 h42 [a1] := Kp4.wr W42 (Or.inl (List.mem_of_getElem? (i := 0) rfl))
  refine ⟨T42, _, _, _, none, X42, (fun _ => rfl), by decide, by decide, ?_, fun fs hr => ?_⟩
  · show Q44 Z a1 a2 a3 d4 a5 a10 a11 a12 k13 a17 a20 a21 k22 a29 h0 n0 _ T42.heap _
    rw [e42]
    exact ⟨b26_b7_b11_b6, b14_b6_b10_b5, rfl, N42, Kp5, Ex43, Fl44, Fl45, Fw42, Fl46, sz_b26_b7_b11_b6, Ex47, Fl48, Fl49, sz_b14_b6_b10_b5, Ex50, Fl51, Fl52, (Ne.symm ne_b14_b6_b10_b5_b26_b7_b11_b6)⟩
  · show Steps p.tables e below (s₁.setTop (mkF m 0 #[.val (.ref a1), .val (.ref a2), .val (.ref a3), .val (.double d4), .second, .val (.ref a5)] [])) _
    refine XS.aloadN X0.here hx rfl (hb hby d15_0) rfl rfl ?_
    refine st6 _ ?_
    refine XS.aloadN X6.here hx rfl (hb hby d15_4) rfl rfl ?_
    refine st7 _ ?_
    refine XS.iconst X7.here hx rfl (hb hby d15_10) ?_
    refine XS.icmpNo X7.here hx rfl (hb hby d15_11) rfl (flt ((by decide : ¬ ((2 : Int32) < (2 : Int32))) : ¬ ((2 : Int32) < (2 : Int32)))).1 ?_
    refine XS.aloadN X7.here hx rfl (hb hby d15_14) rfl rfl ?_
    refine st8 _ ?_
    refine XS.aloadN X8.here hx rfl (hb hby d15_20) rfl rfl ?_
    refine st9 _ ?_
    refine XS.icmpYes X9.here hx rfl (pc0 := 26) (pc' := 54) rfl (hb hby d15_26) rfl (teq ((by decide : (2 : Int32) = (2 : Int32)) : (2 : Int32) = (2 : Int32))).1 (by decide) (by decide) ?_
    refine XS.aloadN X9.here hx rfl (hb hby d15_54) rfl rfl ?_
    show Steps p.tables e below (T9.setTop (mkF m 55 #[.val (.ref a1), .val (.ref a2), .val (.ref a3), .val (.double d4), .second, .val (.ref a5)] [(.ref a2)])) _
    refine st14 _ ?_
    refine XS.astoreN X14.here hx rfl (hb hby d15_58) rfl rfl (l' := #[.val (.ref a1), .val (.ref b14_b6_b10_b5), .val (.ref a3), .val (.double d4), .second, .val (.ref a5)]) rfl ?_
    refine XS.aloadN X14.here hx rfl (hb hby d15_59) rfl rfl ?_
    refine st26 _ ?_
    refine XS.astoreN X26.here hx rfl (hb hby d15_63) rfl rfl (l' := #[.val (.ref a1), .val (.ref b14_b6_b10_b5), .val (.ref b26_b7_b11_b6), .val (.double d4), .second, .val (.ref a5)]) rfl ?_
    refine XS.aload X26.here hx rfl (hb hby d15_64) rfl rfl ?_
    refine st30 _ ?_
    refine XS.astore X30.here hx rfl (hb hby d15_69) rfl rfl (l' := #[.val (.ref a1), .val (.ref b14_b6_b10_b5), .val (.ref b26_b7_b11_b6), .val (.double d4), .second, .val (.ref a29)]) rfl ?_
    refine XS.aloadN X30.here hx rfl (hb hby d15_71) rfl rfl ?_
    refine XS.aloadN X30.here hx rfl (hb hby d15_72) rfl rfl ?_
    refine st33 _ ?_
    refine XS.aloadN X33.here hx rfl (hb hby d15_76) rfl rfl ?_
    show Steps p.tables e below (T33.setTop (mkF m 77 #[.val (.ref a1), .val (.ref b14_b6_b10_b5), .val (.ref b26_b7_b11_b6), .val (.double d4), .second, .val (.ref a29)] [(.ref a1)])) _
    refine XS.aloadN X33.here hx rfl (hb hby d15_77) rfl rfl ?_
    refine st36 _ ?_
    refine XS.aloadN X36.here hx rfl (hb hby d15_81) rfl rfl ?_
    refine XS.dloadN X36.here hx rfl (hb hby d15_82) rfl ?_
    refine st39 _ ?_
    refine XS.aloadN X39.here hx rfl (hb hby d15_86) rfl rfl ?_
    refine XS.aload X39.here hx rfl (hb hby d15_87) rfl rfl ?_
    refine st42 _ ?_
    exact X42.returnOut hx hret (hb hby d15_92) hr
theorem pd_18 : parseMethodDescriptor "(Ljava/util/List;Ljava/util/List;DLjava/util/List;)V" = some ⟨[(.object "java/util/List"), (.object "java/util/List"), .double, (.object "java/util/List")], none⟩ := by decide +kernel
theorem w_101 {a0 : Array Value} {Z : State} (hw : ∀ d ∈ tables_1, d.before a0 Z = true) : Jvm.Cond.before (Jvm.Cond.code ({ cls := "com/example/feedergen/feedergen/core/DrivenLine", name := "<init>", desc := "(Ljava/util/List;Ljava/util/List;DLjava/util/List;)V" } : Jvm.MethodName) prog_9_method_1_code (6 : Nat) (Option.none : Option Jvm.ClassFile.FieldType)) a0 Z = true := hw _ (List.mem_of_getElem? (i := 101) rfl)
theorem w_99 {a0 : Array Value} {Z : State} (hw : ∀ d ∈ tables_1, d.before a0 Z = true) : Jvm.Cond.before (Jvm.Cond.methodLink "com/example/feedergen/feedergen/core/DrivenLineLengthForwardPinLaw" (28 : Nat) ({ cls := "com/example/feedergen/feedergen/core/DrivenLine", name := "<init>", desc := "(Ljava/util/List;Ljava/util/List;DLjava/util/List;)V" } : Jvm.MethodName)) a0 Z = true := hw _ (List.mem_of_getElem? (i := 99) rfl)
theorem w_100 {a0 : Array Value} {Z : State} (hw : ∀ d ∈ tables_1, d.before a0 Z = true) : Jvm.Cond.before (Jvm.Cond.instanceMethod ({ cls := "com/example/feedergen/feedergen/core/DrivenLine", name := "<init>", desc := "(Ljava/util/List;Ljava/util/List;DLjava/util/List;)V" } : Jvm.MethodName)) a0 Z = true := hw _ (List.mem_of_getElem? (i := 100) rfl)
theorem d30_0 : decode prog_9_method_2_code 0 = .ok (.aload_n 0, 1) := by decide +kernel
theorem d30_1 : decode prog_9_method_2_code 1 = .ok (.getfield 32, 3) := by decide +kernel
theorem d30_4 : decode prog_9_method_2_code 4 = .ok (.aload_n 0, 1) := by decide +kernel
theorem d30_5 : decode prog_9_method_2_code 5 = .ok (.getfield 32, 3) := by decide +kernel
theorem d30_8 : decode prog_9_method_2_code 8 = .ok (.invokeinterface 7 1, 5) := by decide +kernel
theorem d31_0 : decode jdk_44_method_3_code 0 = .ok (.aload_n 0, 1) := by decide +kernel
theorem d31_1 : decode jdk_44_method_3_code 1 = .ok (.getfield 24, 3) := by decide +kernel
theorem d31_4 : decode jdk_44_method_3_code 4 = .ok (.getstatic 19, 3) := by decide +kernel
theorem w_220 {a0 : Array Value} {Z : State} (hw : ∀ d ∈ tables_1, d.before a0 Z = true) : Jvm.Cond.before (Jvm.Cond.fieldLinkNest "java/util/ImmutableCollections$List12" (19 : Nat) "java/util/ImmutableCollections" "EMPTY" "Ljava/lang/Object;" "java/util/ImmutableCollections") a0 Z = true := hw _ (List.mem_of_getElem? (i := 220) rfl)
theorem d31_7 : decode jdk_44_method_3_code 7 = .ok (.if_acmp .eq 7, 3) := by decide +kernel
theorem d31_10 : decode jdk_44_method_3_code 10 = .ok (.iconst 2, 1) := by decide +kernel
theorem d31_11 : decode jdk_44_method_3_code 11 = .ok (.goto 4, 3) := by decide +kernel
theorem d31_15 : decode jdk_44_method_3_code 15 = .ok (.ireturn, 1) := by decide +kernel
abbrev y_31 : MethodName := ⟨"java/util/ImmutableCollections$List12", "size", "()I"⟩
-- java/util/ImmutableCollections$List12.size()I
abbrev Rm45 : Room := { frames := 0, cells := 0, slots := 0, locals := 0 }
def Q45 (Z : State) (a1 : Addr) (a2 : Addr) (a4 : Addr) (h0 : Heap) (n0 : Nat) (v : Option Value) (h : Heap) (L : List Loc) : Prop := v = some (.int (2 : Int32)) ∧ Fr n0 L ∧ h = h0
theorem ef45 (a1 : Addr) (m : MethodId) : entryFrame m #[(.ref a1)] 1 = mkF m 0 #[.val (.ref a1)] [] := by first | (simp [entryFrame, mkF, argsToLocals, Value.category]; done) | rfl
theorem rm45 (l : Launch) (Z : State) (a0 : Array Value) (hw : ∀ d ∈ tables_1, d.before a0 Z = true) (ws : List Jvm.Cond) (a1 : Addr) (a2 : Addr) (a4 : Addr) (h0 : Heap) (n0 : Nat) (Z0 : n0 ≤ h0.size) (F_e1_a1 : Fld Z h0 a1 "java/util/ImmutableCollections$List12" "e1" "Ljava/lang/Object;" (.ref a2)) (S_EMPTY : Sta Z Z.heap "java/util/ImmutableCollections" "EMPTY" "Ljava/lang/Object;" (.ref a4)) (Od0 : Old Z n0 h0) (ne_a2_a4 : a2 ≠ a4) :
    OwnMet l Z y_31 jdk_44_method_3_code 1 (some .int) ws Rm45 #[(.ref a1)] h0 (Q45 Z a1 a2 a4 h0 n0) := by
  refine own_body (plainFor_of_name pn_11) (ef45 a1) ?_
  intro p e s m below meth c s₁ hx hby hml hown hnm hret hZ X0 e0
  have N0 := Fr.nil n0
  obtain ⟨T3, X3, e3, st3⟩ := getF X0 hx hZ hown (host := "") (Or.inl (w_195 hw)) Via.refl e0 F_e1_a1 (g := (mkF m 1 #[.val (.ref a1)] [(.ref a1)])) rfl rfl (hb hby d31_1)
  obtain ⟨T5, X5, e5, st5⟩ := getS2 X3 hx hZ hown (Or.inr (w_220 hw)) Via.refl e3 (S_EMPTY.ext Od0.2) (g := (mkF m 4 #[.val (.ref a1)] [(.ref a2)])) rfl (hb hby d31_4)
  refine ⟨T5, _, _, _, (some (.int (2 : Int32))), X5, nofun, by decide, by decide, ?_, fun fs hr => ?_⟩
  · show Q45 Z a1 a2 a4 h0 n0 _ T5.heap _
    rw [e5]
    exact ⟨rfl, N0, rfl⟩
  · show Steps p.tables e below (s₁.setTop (mkF m 0 #[.val (.ref a1)] [])) _
    refine XS.aloadN X0.here hx rfl (hb hby d31_0) rfl rfl ?_
    refine st3 _ ?_
    refine st5 _ ?_
    refine Jvm.RoadKit.acmp (g := (mkF m 7 #[.val (.ref a1)] [(.ref a4), (.ref a2)])) X5 hx rfl rfl rfl (pc0 := 7) (pc' := 10) (same := false) rfl (hb hby d31_7) rfl (decide_eq_false fun q => ne_a2_a4 (Value.ref.inj q)) (by decide) (by decide) ?_
    refine XS.iconst X5.here hx rfl (hb hby d31_10) ?_
    refine XS.goto X5.here hx rfl (pc0 := 11) (pc' := 15) rfl (hb hby d31_11) (by decide) (by decide) ?_
    exact retI X5 hx hret (hb hby d31_15) hr
theorem w_219 {a0 : Array Value} {Z : State} (hw : ∀ d ∈ tables_1, d.before a0 Z = true) : Jvm.Cond.before (Jvm.Cond.code ({ cls := "java/util/ImmutableCollections$List12", name := "size", desc := "()I" } : Jvm.MethodName) jdk_44_method_3_code (1 : Nat) (Option.some Jvm.ClassFile.FieldType.int)) a0 Z = true := hw _ (List.mem_of_getElem? (i := 219) rfl)
theorem w_214 {a0 : Array Value} {Z : State} (hw : ∀ d ∈ tables_1, d.before a0 Z = true) : Jvm.Cond.before (Jvm.Cond.selects "java/util/ImmutableCollections$List12" ({ cls := "java/util/List", name := "size", desc := "()I" } : Jvm.MethodName) ({ cls := "java/util/ImmutableCollections$List12", name := "size", desc := "()I" } : Jvm.MethodName)) a0 Z = true := hw _ (List.mem_of_getElem? (i := 214) rfl)
theorem w_215 {a0 : Array Value} {Z : State} (hw : ∀ d ∈ tables_1, d.before a0 Z = true) : Jvm.Cond.before (Jvm.Cond.instanceMethod ({ cls := "java/util/ImmutableCollections$List12", name := "size", desc := "()I" } : Jvm.MethodName)) a0 Z = true := hw _ (List.mem_of_getElem? (i := 215) rfl)
theorem w_216 {a0 : Array Value} {Z : State} (hw : ∀ d ∈ tables_1, d.before a0 Z = true) : Jvm.Cond.before (Jvm.Cond.publicMethod ({ cls := "java/util/ImmutableCollections$List12", name := "size", desc := "()I" } : Jvm.MethodName)) a0 Z = true := hw _ (List.mem_of_getElem? (i := 216) rfl)
theorem w_217 {a0 : Array Value} {Z : State} (hw : ∀ d ∈ tables_1, d.before a0 Z = true) : Jvm.Cond.before (Jvm.Cond.unhidden "java/util/ImmutableCollections$List12" "size" "()I") a0 Z = true := hw _ (List.mem_of_getElem? (i := 217) rfl)
theorem w_218 {a0 : Array Value} {Z : State} (hw : ∀ d ∈ tables_1, d.before a0 Z = true) : Jvm.Cond.before (Jvm.Cond.castable "java/util/ImmutableCollections$List12" "java/util/List") a0 Z = true := hw _ (List.mem_of_getElem? (i := 218) rfl)
theorem d30_13 : decode prog_9_method_2_code 13 = .ok (.iconst 1, 1) := by decide +kernel
theorem d30_14 : decode prog_9_method_2_code 14 = .ok (.isub, 1) := by decide +kernel
theorem d30_15 : decode prog_9_method_2_code 15 = .ok (.invokeinterface 42 2, 5) := by decide +kernel
theorem d32_0 : decode jdk_44_method_5_code 0 = .ok (.iload_n 1, 1) := by decide +kernel
theorem d32_1 : decode jdk_44_method_5_code 1 = .ok (.ifCond .ne 8, 3) := by decide +kernel
theorem d32_9 : decode jdk_44_method_5_code 9 = .ok (.iload_n 1, 1) := by decide +kernel
theorem d32_10 : decode jdk_44_method_5_code 10 = .ok (.iconst 1, 1) := by decide +kernel
theorem d32_11 : decode jdk_44_method_5_code 11 = .ok (.if_icmp .ne 18, 3) := by decide +kernel
theorem d32_14 : decode jdk_44_method_5_code 14 = .ok (.aload_n 0, 1) := by decide +kernel
theorem d32_15 : decode jdk_44_method_5_code 15 = .ok (.getfield 24, 3) := by decide +kernel
theorem d32_18 : decode jdk_44_method_5_code 18 = .ok (.getstatic 19, 3) := by decide +kernel
theorem d32_21 : decode jdk_44_method_5_code 21 = .ok (.if_acmp .eq 8, 3) := by decide +kernel
theorem d32_24 : decode jdk_44_method_5_code 24 = .ok (.aload_n 0, 1) := by decide +kernel
theorem d32_25 : decode jdk_44_method_5_code 25 = .ok (.getfield 24, 3) := by decide +kernel
theorem d32_28 : decode jdk_44_method_5_code 28 = .ok (.areturn, 1) := by decide +kernel
abbrev y_32 : MethodName := ⟨"java/util/ImmutableCollections$List12", "get", "(I)Ljava/lang/Object;"⟩
-- java/util/ImmutableCollections$List12.get(I)Ljava/lang/Object;
abbrev Rm46 : Room := { frames := 0, cells := 0, slots := 0, locals := 0 }
def Q46 (Z : State) (a1 : Addr) (a2 : Addr) (a4 : Addr) (h0 : Heap) (n0 : Nat) (v : Option Value) (h : Heap) (L : List Loc) : Prop := v = some (.ref a2) ∧ Fr n0 L ∧ h = h0
theorem ef46 (a1 : Addr) (m : MethodId) : entryFrame m #[(.ref a1), (.int (1 : Int32))] 2 = mkF m 0 #[.val (.ref a1), .val (.int (1 : Int32))] [] := by first | (simp [entryFrame, mkF, argsToLocals, Value.category]; done) | rfl
theorem rm46 (l : Launch) (Z : State) (a0 : Array Value) (hw : ∀ d ∈ tables_1, d.before a0 Z = true) (ws : List Jvm.Cond) (a1 : Addr) (a2 : Addr) (a4 : Addr) (h0 : Heap) (n0 : Nat) (Z0 : n0 ≤ h0.size) (F_e1_a1 : Fld Z h0 a1 "java/util/ImmutableCollections$List12" "e1" "Ljava/lang/Object;" (.ref a2)) (S_EMPTY : Sta Z Z.heap "java/util/ImmutableCollections" "EMPTY" "Ljava/lang/Object;" (.ref a4)) (Od0 : Old Z n0 h0) (ne_a2_a4 : a2 ≠ a4) :
    OwnMet l Z y_32 jdk_44_method_5_code 2 (some (.object "java/lang/Object")) ws Rm46 #[(.ref a1), (.int (1 : Int32))] h0 (Q46 Z a1 a2 a4 h0 n0) := by
  refine own_body (plainFor_of_name pn_11) (ef46 a1) ?_
  intro p e s m below meth c s₁ hx hby hml hown hnm hret hZ X0 e0
  have N0 := Fr.nil n0
  obtain ⟨T3, X3, e3, st3⟩ := getF X0 hx hZ hown (host := "") (Or.inl (w_195 hw)) Via.refl e0 F_e1_a1 (g := (mkF m 15 #[.val (.ref a1), .val (.int (1 : Int32))] [(.ref a1)])) rfl rfl (hb hby d32_15)
  obtain ⟨T5, X5, e5, st5⟩ := getS2 X3 hx hZ hown (Or.inr (w_220 hw)) Via.refl e3 (S_EMPTY.ext Od0.2) (g := (mkF m 18 #[.val (.ref a1), .val (.int (1 : Int32))] [(.ref a2)])) rfl (hb hby d32_18)
  obtain ⟨T6, X6, e6, st6⟩ := getF X5 hx hZ hown (host := "") (Or.inl (w_195 hw)) Via.refl e5 F_e1_a1 (g := (mkF m 25 #[.val (.ref a1), .val (.int (1 : Int32))] [(.ref a1)])) rfl rfl (hb hby d32_25)
  refine ⟨T6, _, _, _, (some (.ref a2)), X6, nofun, by decide, by decide, ?_, fun fs hr => ?_⟩
  · show Q46 Z a1 a2 a4 h0 n0 _ T6.heap _
    rw [e6]
    exact ⟨rfl, N0, rfl⟩
  · show Steps p.tables e below (s₁.setTop (mkF m 0 #[.val (.ref a1), .val (.int (1 : Int32))] [])) _
    refine XS.iloadN X0.here hx rfl (hb hby d32_0) rfl ?_
    refine XS.ifYes X0.here hx rfl (pc0 := 1) (pc' := 9) rfl (hb hby d32_1) rfl ((if0 _ _).trans (feq ((by decide : ¬ ((1 : Int32) = (0 : Int32))) : ¬ ((1 : Int32) = (0 : Int32)))).2) (by decide) (by decide) ?_
    refine XS.iloadN X0.here hx rfl (hb hby d32_9) rfl ?_
    refine XS.iconst X0.here hx rfl (hb hby d32_10) ?_
    refine XS.icmpNo X0.here hx rfl (hb hby d32_11) rfl (teq ((by decide : (1 : Int32) = (1 : Int32)) : (1 : Int32) = (1 : Int32))).2 ?_
    refine XS.aloadN X0.here hx rfl (hb hby d32_14) rfl rfl ?_
    refine st3 _ ?_
    refine st5 _ ?_
    refine Jvm.RoadKit.acmp (g := (mkF m 21 #[.val (.ref a1), .val (.int (1 : Int32))] [(.ref a4), (.ref a2)])) X5 hx rfl rfl rfl (pc0 := 21) (pc' := 24) (same := false) rfl (hb hby d32_21) rfl (decide_eq_false fun q => ne_a2_a4 (Value.ref.inj q)) (by decide) (by decide) ?_
    refine XS.aloadN X5.here hx rfl (hb hby d32_24) rfl rfl ?_
    refine st6 _ ?_
    exact retOut X6 hx hret rfl (Or.inr (Or.inr (Or.inr (Or.inr ⟨rfl, rfl, rfl⟩)))) (hb hby d32_28) hr
theorem pd_19 : parseMethodDescriptor "(I)Ljava/lang/Object;" = some ⟨[.int], some (.object "java/lang/Object")⟩ := by decide +kernel
theorem w_228 {a0 : Array Value} {Z : State} (hw : ∀ d ∈ tables_1, d.before a0 Z = true) : Jvm.Cond.before (Jvm.Cond.code ({ cls := "java/util/ImmutableCollections$List12", name := "get", desc := "(I)Ljava/lang/Object;" } : Jvm.MethodName) jdk_44_method_5_code (2 : Nat) (Option.some (Jvm.ClassFile.FieldType.object "java/lang/Object"))) a0 Z = true := hw _ (List.mem_of_getElem? (i := 228) rfl)
theorem w_221 {a0 : Array Value} {Z : State} (hw : ∀ d ∈ tables_1, d.before a0 Z = true) : Jvm.Cond.before (Jvm.Cond.methodLink "com/example/feedergen/feedergen/core/DrivenLine" (42 : Nat) ({ cls := "java/util/List", name := "get", desc := "(I)Ljava/lang/Object;" } : Jvm.MethodName)) a0 Z = true := hw _ (List.mem_of_getElem? (i := 221) rfl)
theorem w_224 {a0 : Array Value} {Z : State} (hw : ∀ d ∈ tables_1, d.before a0 Z = true) : Jvm.Cond.before (Jvm.Cond.selects "java/util/ImmutableCollections$List12" ({ cls := "java/util/List", name := "get", desc := "(I)Ljava/lang/Object;" } : Jvm.MethodName) ({ cls := "java/util/ImmutableCollections$List12", name := "get", desc := "(I)Ljava/lang/Object;" } : Jvm.MethodName)) a0 Z = true := hw _ (List.mem_of_getElem? (i := 224) rfl)
abbrev y_33 : MethodName := ⟨"java/util/List", "get", "(I)Ljava/lang/Object;"⟩
theorem w_222 {a0 : Array Value} {Z : State} (hw : ∀ d ∈ tables_1, d.before a0 Z = true) : Jvm.Cond.before (Jvm.Cond.declares ({ cls := "java/util/List", name := "get", desc := "(I)Ljava/lang/Object;" } : Jvm.MethodName)) a0 Z = true := hw _ (List.mem_of_getElem? (i := 222) rfl)
theorem w_223 {a0 : Array Value} {Z : State} (hw : ∀ d ∈ tables_1, d.before a0 Z = true) : Jvm.Cond.before (Jvm.Cond.interfaceMethod "java/util/List" "java/util/List" "get" "(I)Ljava/lang/Object;") a0 Z = true := hw _ (List.mem_of_getElem? (i := 223) rfl)
theorem w_225 {a0 : Array Value} {Z : State} (hw : ∀ d ∈ tables_1, d.before a0 Z = true) : Jvm.Cond.before (Jvm.Cond.instanceMethod ({ cls := "java/util/ImmutableCollections$List12", name := "get", desc := "(I)Ljava/lang/Object;" } : Jvm.MethodName)) a0 Z = true := hw _ (List.mem_of_getElem? (i := 225) rfl)
theorem w_226 {a0 : Array Value} {Z : State} (hw : ∀ d ∈ tables_1, d.before a0 Z = true) : Jvm.Cond.before (Jvm.Cond.publicMethod ({ cls := "java/util/ImmutableCollections$List12", name := "get", desc := "(I)Ljava/lang/Object;" } : Jvm.MethodName)) a0 Z = true := hw _ (List.mem_of_getElem? (i := 226) rfl)
theorem w_227 {a0 : Array Value} {Z : State} (hw : ∀ d ∈ tables_1, d.before a0 Z = true) : Jvm.Cond.before (Jvm.Cond.unhidden "java/util/ImmutableCollections$List12" "get" "(I)Ljava/lang/Object;") a0 Z = true := hw _ (List.mem_of_getElem? (i := 227) rfl)
theorem d30_20 : decode prog_9_method_2_code 20 = .ok (.checkcast 46, 3) := by decide +kernel
theorem w_229 {a0 : Array Value} {Z : State} (hw : ∀ d ∈ tables_1, d.before a0 Z = true) : Jvm.Cond.before (Jvm.Cond.classLink "com/example/feedergen/feedergen/core/DrivenLine" (46 : Nat) "java/lang/Double") a0 Z = true := hw _ (List.mem_of_getElem? (i := 229) rfl)
theorem d30_23 : decode prog_9_method_2_code 23 = .ok (.invokevirtual 48, 3) := by decide +kernel
theorem d33_0 : decode jdk_117_method_19_code 0 = .ok (.aload_n 0, 1) := by decide +kernel
theorem d33_1 : decode jdk_117_method_19_code 1 = .ok (.getfield 118, 3) := by decide +kernel
theorem d33_4 : decode jdk_117_method_19_code 4 = .ok (.dreturn, 1) := by decide +kernel
abbrev y_34 : MethodName := ⟨"java/lang/Double", "doubleValue", "()D"⟩
-- java/lang/Double.doubleValue()D
abbrev Rm47 : Room := { frames := 0, cells := 0, slots := 0, locals := 0 }
def Q47 (Z : State) (a1 : Addr) (d2 : UInt64) (h0 : Heap) (n0 : Nat) (v : Option Value) (h : Heap) (L : List Loc) : Prop := v = some (.double d2) ∧ Fr n0 L ∧ h = h0
theorem ef47 (a1 : Addr) (m : MethodId) : entryFrame m #[(.ref a1)] 1 = mkF m 0 #[.val (.ref a1)] [] := by first | (simp [entryFrame, mkF, argsToLocals, Value.category]; done) | rfl
theorem rm47 (l : Launch) (Z : State) (a0 : Array Value) (hw : ∀ d ∈ tables_1, d.before a0 Z = true) (ws : List Jvm.Cond) (a1 : Addr) (d2 : UInt64) (h0 : Heap) (n0 : Nat) (Z0 : n0 ≤ h0.size) (F_value_a1 : Fld Z h0 a1 "java/lang/Double" "value" "D" (.double d2)) :
    OwnMet l Z y_34 jdk_117_method_19_code 1 (some .double) ws Rm47 #[(.ref a1)] h0 (Q47 Z a1 d2 h0 n0) := by
  refine own_body (plainFor_of_name pn_6) (ef47 a1) ?_
  intro p e s m below meth c s₁ hx hby hml hown hnm hret hZ X0 e0
  have N0 := Fr.nil n0
  obtain ⟨T3, X3, e3, st3⟩ := getF X0 hx hZ hown (host := "") (Or.inl (w_93 hw)) Via.refl e0 F_value_a1 (g := (mkF m 1 #[.val (.ref a1)] [(.ref a1)])) rfl rfl (hb hby d33_1)
  refine ⟨T3, _, _, _, (some (.double d2)), X3, nofun, by decide, by decide, ?_, fun fs hr => ?_⟩
  · show Q47 Z a1 d2 h0 n0 _ T3.heap _
    rw [e3]
    exact ⟨rfl, N0, rfl⟩
  · show Steps p.tables e below (s₁.setTop (mkF m 0 #[.val (.ref a1)] [])) _
    refine XS.aloadN X0.here hx rfl (hb hby d33_0) rfl rfl ?_
    refine st3 _ ?_
    exact retOut X3 hx hret rfl (Or.inr (Or.inr (Or.inl ⟨rfl, rfl, _, rfl⟩))) (hb hby d33_4) hr
theorem pd_20 : parseMethodDescriptor "()D" = some ⟨[], some .double⟩ := by decide +kernel
theorem w_234 {a0 : Array Value} {Z : State} (hw : ∀ d ∈ tables_1, d.before a0 Z = true) : Jvm.Cond.before (Jvm.Cond.code ({ cls := "java/lang/Double", name := "doubleValue", desc := "()D" } : Jvm.MethodName) jdk_117_method_19_code (1 : Nat) (Option.some Jvm.ClassFile.FieldType.double)) a0 Z = true := hw _ (List.mem_of_getElem? (i := 234) rfl)
theorem w_230 {a0 : Array Value} {Z : State} (hw : ∀ d ∈ tables_1, d.before a0 Z = true) : Jvm.Cond.before (Jvm.Cond.methodLink "com/example/feedergen/feedergen/core/DrivenLine" (48 : Nat) ({ cls := "java/lang/Double", name := "doubleValue", desc := "()D" } : Jvm.MethodName)) a0 Z = true := hw _ (List.mem_of_getElem? (i := 230) rfl)
theorem w_233 {a0 : Array Value} {Z : State} (hw : ∀ d ∈ tables_1, d.before a0 Z = true) : Jvm.Cond.before (Jvm.Cond.selects "java/lang/Double" ({ cls := "java/lang/Double", name := "doubleValue", desc := "()D" } : Jvm.MethodName) ({ cls := "java/lang/Double", name := "doubleValue", desc := "()D" } : Jvm.MethodName)) a0 Z = true := hw _ (List.mem_of_getElem? (i := 233) rfl)
theorem w_231 {a0 : Array Value} {Z : State} (hw : ∀ d ∈ tables_1, d.before a0 Z = true) : Jvm.Cond.before (Jvm.Cond.declares ({ cls := "java/lang/Double", name := "doubleValue", desc := "()D" } : Jvm.MethodName)) a0 Z = true := hw _ (List.mem_of_getElem? (i := 231) rfl)
theorem w_232 {a0 : Array Value} {Z : State} (hw : ∀ d ∈ tables_1, d.before a0 Z = true) : Jvm.Cond.before (Jvm.Cond.instanceMethod ({ cls := "java/lang/Double", name := "doubleValue", desc := "()D" } : Jvm.MethodName)) a0 Z = true := hw _ (List.mem_of_getElem? (i := 232) rfl)
theorem d30_26 : decode prog_9_method_2_code 26 = .ok (.dreturn, 1) := by decide +kernel
abbrev y_35 : MethodName := ⟨"com/example/feedergen/feedergen/core/DrivenLine", "lengthForward", "()D"⟩
-- com/example/feedergen/feedergen/core/DrivenLine.lengthForward()D
abbrev Rm48 : Room := { frames := 1, cells := 0, slots := 0, locals := 13 }
def Q48 (Z : State) (a1 : Addr) (a2 : Addr) (a5 : Addr) (a6 : Addr) (d10 : UInt64) (h0 : Heap) (n0 : Nat) (v : Option Value) (h : Heap) (L : List Loc) : Prop := v = some (.double d10) ∧ Fr n0 L ∧ h = h0
theorem ef48 (a1 : Addr) (m : MethodId) : entryFrame m #[(.ref a1)] 1 = mkF m 0 #[.val (.ref a1)] [] := by first | (simp [entryFrame, mkF, argsToLocals, Value.category]; done) | rfl
theorem rm48 (l : Launch) (Z : State) (a0 : Array Value) (hw : ∀ d ∈ tables_1, d.before a0 Z = true) (ws : List Jvm.Cond) (a1 : Addr) (a2 : Addr) (a5 : Addr) (a6 : Addr) (d10 : UInt64) (h0 : Heap) (n0 : Nat) (Z0 : n0 ≤ h0.size) (F_distances_a1 : Fld Z h0 a1 "com/example/feedergen/feedergen/core/DrivenLine" "distances" "Ljava/util/List;" (.ref a2)) (E_a2 : Exa Z h0 a2 "java/util/ImmutableCollections$List12") (F_e1_a2 : Fld Z h0 a2 "java/util/ImmutableCollections$List12" "e1" "Ljava/lang/Object;" (.ref a5)) (S_EMPTY : Sta Z Z.heap "java/util/ImmutableCollections" "EMPTY" "Ljava/lang/Object;" (.ref a6)) (Od0 : Old Z n0 h0) (ne_a5_a6 : a5 ≠ a6) (E_a5 : Exa Z h0 a5 "java/lang/Double") (F_value_a5 : Fld Z h0 a5 "java/lang/Double" "value" "D" (.double d10)) :
    OwnMet l Z y_35 prog_9_method_2_code 1 (some .double) ws Rm48 #[(.ref a1)] h0 (Q48 Z a1 a2 a5 a6 d10 h0 n0) := by
  refine own_body (plainFor_of_name pn_14) (ef48 a1) ?_
  intro p e s m below meth c s₁ hx hby hml hown hnm hret hZ X0 e0
  have N0 := Fr.nil n0
  obtain ⟨T3, X3, e3, st3⟩ := getF X0 hx hZ hown (host := "") (Or.inl (w_203 hw)) Via.refl e0 F_distances_a1 (g := (mkF m 1 #[.val (.ref a1)] [(.ref a1)])) rfl rfl (hb hby d30_1)
  obtain ⟨T4, X4, e4, st4⟩ := getF X3 hx hZ hown (host := "") (Or.inl (w_203 hw)) Via.refl e3 F_distances_a1 (g := (mkF m 5 #[.val (.ref a1)] [(.ref a1), (.ref a2)])) rfl rfl (hb hby d30_5)
  obtain ⟨_, T7, L7, X7, hQ7, st7⟩ := own_iface X4 hx hZ hown (y := y_14) (z := y_31) E_a2 (w_103 hw) (w_104 hw) (w_105 hw) (w_214 hw) (w_215 hw) (w_216 hw) (w_217 hw) (w_218 hw) (w_170 hw) (w_219 hw) (rm45 l Z a0 hw [] a2 a5 a6 h0 n0 Z0 F_e1_a2 S_EMPTY Od0 ne_a5_a6) e4 (Ls := #[.val (.ref a1)]) (by rw [hml]; rfl) (argsL := []) (rest := [(.ref a2)]) (lenOf pd_9 rfl) (hb hby d30_8) (W := 1)
  obtain ⟨rfl, Nq7, e7⟩ := hQ7
  have N7 := Fr.app N0 Nq7
  obtain ⟨_, T8, L8, X8, hQ8, st8⟩ := own_iface X7 hx hZ hown (y := y_33) (z := y_32) E_a2 (w_221 hw) (w_222 hw) (w_223 hw) (w_224 hw) (w_225 hw) (w_226 hw) (w_227 hw) (w_218 hw) (w_170 hw) (w_228 hw) (rm46 l Z a0 hw [] a2 a5 a6 h0 n0 Z0 F_e1_a2 S_EMPTY Od0 ne_a5_a6) e7 (Ls := #[.val (.ref a1)]) (by rw [hml]; rfl) (argsL := [(.int (1 : Int32))]) (rest := []) (lenOf pd_19 rfl) (hb hby d30_15) (W := 0)
  obtain ⟨rfl, Nq8, e8⟩ := hQ8
  have N8 := Fr.app N7 Nq8
  obtain ⟨T9, X9, e9, st9⟩ := castY X8 hx hZ hown (w_229 hw) e8 (Ins.self E_a5) (g := (mkF m 20 #[.val (.ref a1)] [(.ref a5)])) rfl rfl (hb hby d30_20)
  obtain ⟨_, T11, L11, X11, hQ11, st11⟩ := own_virtual X9 hx hZ hown (y := y_34) (z := y_34) E_a5 (w_230 hw) (w_231 hw) (notFace_of_selects (args := #[]) (mvT hZ (w_233 hw))) (w_233 hw) (w_232 hw) (w_78 hw) (w_234 hw) (rm47 l Z a0 hw [] a5 d10 h0 n0 Z0 F_value_a5) e9 (Ls := #[.val (.ref a1)]) (by rw [hml]; rfl) (argsL := []) (rest := []) (lenOf pd_20 rfl) (hb hby d30_23) (W := 0)
  obtain ⟨rfl, Nq11, e11⟩ := hQ11
  have N11 := Fr.app N8 Nq11
  refine ⟨T11, _, _, _, (some (.double d10)), X11, nofun, by decide, by decide, ?_, fun fs hr => ?_⟩
  · show Q48 Z a1 a2 a5 a6 d10 h0 n0 _ T11.heap _
    rw [e11]
    exact ⟨rfl, N11, rfl⟩
  · show Steps p.tables e below (s₁.setTop (mkF m 0 #[.val (.ref a1)] [])) _
    refine XS.aloadN X0.here hx rfl (hb hby d30_0) rfl rfl ?_
    refine st3 _ ?_
    refine XS.aloadN X3.here hx rfl (hb hby d30_4) rfl rfl ?_
    refine st4 _ ?_
    refine st7 _ ?_
    refine XS.iconst X7.here hx rfl (hb hby d30_13) ?_
    refine XS.isub X7.here hx rfl (hb hby d30_14) rfl ?_
    refine st8 _ ?_
    refine st9 _ ?_
    refine st11 _ ?_
    exact retOut X11 hx hret rfl (Or.inr (Or.inr (Or.inl ⟨rfl, rfl, _, rfl⟩))) (hb hby d30_26) hr
theorem w_213 {a0 : Array Value} {Z : State} (hw : ∀ d ∈ tables_1, d.before a0 Z = true) : Jvm.Cond.before (Jvm.Cond.code ({ cls := "com/example/feedergen/feedergen/core/DrivenLine", name := "lengthForward", desc := "()D" } : Jvm.MethodName) prog_9_method_2_code (1 : Nat) (Option.some Jvm.ClassFile.FieldType.double)) a0 Z = true := hw _ (List.mem_of_getElem? (i := 213) rfl)
theorem w_209 {a0 : Array Value} {Z : State} (hw : ∀ d ∈ tables_1, d.before a0 Z = true) : Jvm.Cond.before (Jvm.Cond.methodLink "com/example/feedergen/feedergen/core/DrivenLineLengthForwardPinLaw" (31 : Nat) ({ cls := "com/example/feedergen/feedergen/core/DrivenLine", name := "lengthForward", desc := "()D" } : Jvm.MethodName)) a0 Z = true := hw _ (List.mem_of_getElem? (i := 209) rfl)
theorem w_212 {a0 : Array Value} {Z : State} (hw : ∀ d ∈ tables_1, d.before a0 Z = true) : Jvm.Cond.before (Jvm.Cond.selects "com/example/feedergen/feedergen/core/DrivenLine" ({ cls := "com/example/feedergen/feedergen/core/DrivenLine", name := "lengthForward", desc := "()D" } : Jvm.MethodName) ({ cls := "com/example/feedergen/feedergen/core/DrivenLine", name := "lengthForward", desc := "()D" } : Jvm.MethodName)) a0 Z = true := hw _ (List.mem_of_getElem? (i := 212) rfl)
theorem w_210 {a0 : Array Value} {Z : State} (hw : ∀ d ∈ tables_1, d.before a0 Z = true) : Jvm.Cond.before (Jvm.Cond.declares ({ cls := "com/example/feedergen/feedergen/core/DrivenLine", name := "lengthForward", desc := "()D" } : Jvm.MethodName)) a0 Z = true := hw _ (List.mem_of_getElem? (i := 210) rfl)
theorem w_211 {a0 : Array Value} {Z : State} (hw : ∀ d ∈ tables_1, d.before a0 Z = true) : Jvm.Cond.before (Jvm.Cond.instanceMethod ({ cls := "com/example/feedergen/feedergen/core/DrivenLine", name := "lengthForward", desc := "()D" } : Jvm.MethodName)) a0 Z = true := hw _ (List.mem_of_getElem? (i := 211) rfl)
theorem ef0 (p1 : Int32) (p2 : Int32) (p3 : Int32) (p4 : Int32) (p5 : Int32) (p6 : Int32) (m : MethodId) : entryFrame m #[(.int p1), (.int p2), (.int p3), (.int p4), (.int p5), (.int p6)] maxLocals = mkF m 0 #[.val (.int p1), .val (.int p2), .val (.int p3), .val (.int p4), .val (.int p5), .val (.int p6), .unset, .unset, .unset, .unset, .unset, .unset, .unset, .unset] [] := by first | (simp [entryFrame, mkF, argsToLocals, Value.category, maxLocals]; done) | rfl
theorem pn_15 : plainName "com/example/feedergen/feedergen/core/DrivenLineLengthForwardPinLaw" = true := by first | (simp [plainName, overriddenIn]; done) | decide +kernel
theorem rm0_0 (l : Launch) (Z : State) (a0 : Array Value) (hw : ∀ d ∈ tables_1, d.before a0 Z = true) (ws : List Jvm.Cond) (p1 : Int32) (p2 : Int32) (p3 : Int32) (p4 : Int32) (p5 : Int32) (p6 : Int32) (sa1 : Addr) (sa2 : Addr) (sa3 : Addr) (sa4 : Addr) (sa5 : Addr) (sk9 : ClassId) (sk11 : ClassId) (sk14 : ClassId) (smr : Addr) (h0 : Heap) (n0 : Nat) (Z0 : n0 ≤ h0.size) (Od0 : Old Z n0 h0) (S8_EMPTY_ELEMENTDATA : Sta Z Z.heap "java/util/ArrayList" "EMPTY_ELEMENTDATA" "[Ljava/lang/Object;" (.ref sa1)) (E_sa1 : Exa Z h0 sa1 "[Ljava/lang/Object;") (V_sa1 : Arv Z h0 sa1 sk9 (.object "java/lang/Object") (0 : Int32) [] .null) (S10_DEFAULTCAPACITY_EMPTY_ELEMENTDATA : Sta Z Z.heap "java/util/ArrayList" "DEFAULTCAPACITY_EMPTY_ELEMENTDATA" "[Ljava/lang/Object;" (.ref sa2)) (E_sa2 : Exa Z h0 sa2 "[Ljava/lang/Object;") (V_sa2 : Arv Z h0 sa2 sk11 (.object "java/lang/Object") (0 : Int32) [] .null) (S12_EMPTY_LIST : Sta Z Z.heap "java/util/ImmutableCollections" "EMPTY_LIST" "Ljava/util/ImmutableCollections$ListN;" (.ref sa3)) (E_sa3 : Exa Z h0 sa3 "java/util/ImmutableCollections$ListN") (F13_elements : Fld Z h0 sa3 "java/util/ImmutableCollections$ListN" "elements" "[Ljava/lang/Object;" (.ref sa4)) (E_sa4 : Exa Z h0 sa4 "[Ljava/lang/Object;") (V_sa4 : Arv Z h0 sa4 sk14 (.object "java/lang/Object") (0 : Int32) [] .null) (S15_EMPTY : Sta Z Z.heap "java/util/ImmutableCollections" "EMPTY" "Ljava/lang/Object;" (.ref sa5)) (E_sa5 : Exa Z h0 sa5 "java/lang/Object") (F16_allowNulls : Fld Z h0 sa3 "java/util/ImmutableCollections$ListN" "allowNulls" "Z" (.int (0 : Int32))) (S17__assertionsDisabled : Sta Z Z.heap "java/util/ImmutableCollections" "$assertionsDisabled" "Z" (.int (1 : Int32))) (M_top : OwnMir Z "[Ljava/lang/Object;" smr) (hk : ((p1 &&& (2147483647 : Int32)) - ((p1 &&& (2147483647 : Int32)) / (3 : Int32)) * (3 : Int32)) = (0 : Int32)) :
    OwnMet l Z x code maxLocals ret ws room_1 #[(.int p1), (.int p2), (.int p3), (.int p4), (.int p5), (.int p6)] h0 (Q0 n0) := by
  refine own_body (plainFor_of_name pn_15) (ef0 p1 p2 p3 p4 p5 p6) ?_
  intro p e s m below meth c s₁ hx hby hml hown hnm hret hZ X0 e0
  have N0 := Fr.nil n0
  obtain ⟨T1, h1, X1, e1, E1, A1, D1, -, st1⟩ := newO X0 hx hZ hown (w_1 hw) (w_2 hw) (w_3 hw) e0 (g := (mkF m 10 #[.val (.int p1), .val (.int p2), .val (.int p3), .val (.int p4), .val (.int p5), .val (.int p6), .val (.int (2 : Int32)), .unset, .unset, .unset, .unset, .unset, .unset, .unset] [])) rfl (hb hby at_10) (by decide) (by decide)
  obtain ⟨b1, g1⟩ : ∃ z, z = h0.size := ⟨_, rfl⟩
  rw [← g1] at A1 D1 st1
  have s0 := E1.1
  have Fn1_id : Fld Z h1 b1 "com/example/feedergen/feedergen/core/StopCandidate" "id" "I" (.int (0 : Int32)) := D1 (Or.inr (w_16 hw)) (ty := .int) (by decide)
  have Fn1_link : Fld Z h1 b1 "com/example/feedergen/feedergen/core/StopCandidate" "link" "Lcom/example/feedergen/feedergen/core/StreetLink;" .null := D1 (Or.inr (w_18 hw)) (ty := (.object "com/example/feedergen/feedergen/core/StreetLink")) (by decide)
  have Fn1_trips : Fld Z h1 b1 "com/example/feedergen/feedergen/core/StopCandidate" "trips" "D" (.double (0 : UInt64)) := D1 (Or.inr (w_20 hw)) (ty := .double) (by decide)
  have g_b1 : n0 ≤ b1 := Nat.le_trans Z0 (Nat.le_of_eq g1.symm)
  have z1 := Nat.le_trans Z0 s0
  obtain ⟨_, T2, L2, X2, hQ2, st2⟩ := own_special X1 hx hZ hown (y := y_1) (a := b1) (w_4 hw) (w_5 hw) (w_3 hw) (w_6 hw) (rm2 l Z a0 hw [] b1 h1 n0 z1 Fn1_id A1 g_b1 Fn1_link Fn1_trips) e1 (Ls := #[.val (.int p1), .val (.int p2), .val (.int p3), .val (.int p4), .val (.int p5), .val (.int p6), .val (.int (2 : Int32)), .unset, .unset, .unset, .unset, .unset, .unset, .unset]) (by rw [hml]; rfl) (argsL := [(.int (1 : Int32)), .null, (.double (0 : UInt64))]) (rest := [(.ref b1)]) (lenOf pd_1 rfl) (hb hby at_17) (W := 1)
  obtain ⟨rfl, Nq2, K2, o2_0, o2_1, o2_2, o2_3⟩ := hQ2
  have N2 := Fr.app N0 Nq2
  have s1 := K2.1
  obtain ⟨T3, h3, X3, e3, E3, A3, D3, -, st3⟩ := newO X2 hx hZ hown (w_21 hw) (w_22 hw) (w_23 hw) rfl (g := (mkF m 22 #[.val (.int p1), .val (.int p2), .val (.int p3), .val (.int p4), .val (.int p5), .val (.int p6), .val (.int (2 : Int32)), .val (.ref b1), .unset, .unset, .unset, .unset, .unset, .unset] [])) rfl (hb hby at_22) (by decide) (by decide)
  obtain ⟨b3, g3⟩ : ∃ z, z = T2.heap.size := ⟨_, rfl⟩
  rw [← g3] at A3 D3 st3
  have s2 := E3.1
  have Fn3_modCount : Fld Z h3 b3 "java/util/AbstractList" "modCount" "I" (.int (0 : Int32)) := D3 (Or.inl (w_41 hw)) (ty := .int) (by decide)
  have Fn3_elementData : Fld Z h3 b3 "java/util/ArrayList" "elementData" "[Ljava/lang/Object;" .null := D3 (Or.inl (w_44 hw)) (ty := (.array (.object "java/lang/Object"))) (by decide)
  have Fn3_size : Fld Z h3 b3 "java/util/ArrayList" "size" "I" (.int (0 : Int32)) := D3 (Or.inl (w_53 hw)) (ty := .int) (by decide)
  have z2 := Nat.le_trans Z0 (Nat.le_trans s0 s1)
  have g_b3 : n0 ≤ b3 := Nat.le_trans z2 (Nat.le_of_eq g3.symm)
  have Od1 : Old Z n0 h1 := Od0.ext E1
  have Od2 : Old Z n0 T2.heap := Od1.keep K2 (allS g_b1 all0)
  have Od3 : Old Z n0 h3 := Od2.ext E3
  have z3 := Nat.le_trans Z0 (Nat.le_trans (Nat.le_trans s0 s1) s2)
  obtain ⟨_, T4, L4, X4, hQ4, st4⟩ := own_special X3 hx hZ hown (y := y_4) (a := b3) (w_24 hw) (w_25 hw) (w_23 hw) (w_26 hw) (rm5 l Z a0 hw [] b3 sa2 h3 n0 z3 Fn3_modCount A3 g_b3 Fn3_elementData Fn3_size S10_DEFAULTCAPACITY_EMPTY_ELEMENTDATA Od3) e3 (Ls := #[.val (.int p1), .val (.int p2), .val (.int p3), .val (.int p4), .val (.int p5), .val (.int p6), .val (.int (2 : Int32)), .val (.ref b1), .unset, .unset, .unset, .unset, .unset, .unset]) (by rw [hml]; rfl) (argsL := []) (rest := [(.ref b3)]) (lenOf pd_0 rfl) (hb hby at_26) (W := 1)
  obtain ⟨rfl, Nq4, K4, o4_0, o4_1, o4_2, o4_3⟩ := hQ4
  have N4 := Fr.app N2 Nq4
  have s3 := K4.1
  obtain ⟨T5, h5, X5, e5, E5, A5, D5, -, st5⟩ := newO X4 hx hZ hown (w_21 hw) (w_22 hw) (w_23 hw) rfl (g := (mkF m 31 #[.val (.int p1), .val (.int p2), .val (.int p3), .val (.int p4), .val (.int p5), .val (.int p6), .val (.int (2 : Int32)), .val (.ref b1), .val (.ref b3), .unset, .unset, .unset, .unset, .unset] [])) rfl (hb hby at_31) (by decide) (by decide)
  obtain ⟨b5, g5⟩ : ∃ z, z = T4.heap.size := ⟨_, rfl⟩
  rw [← g5] at A5 D5 st5
  have s4 := E5.1
  have Fn5_modCount : Fld Z h5 b5 "java/util/AbstractList" "modCount" "I" (.int (0 : Int32)) := D5 (Or.inl (w_41 hw)) (ty := .int) (by decide)
  have Fn5_elementData : Fld Z h5 b5 "java/util/ArrayList" "elementData" "[Ljava/lang/Object;" .null := D5 (Or.inl (w_44 hw)) (ty := (.array (.object "java/lang/Object"))) (by decide)
  have Fn5_size : Fld Z h5 b5 "java/util/ArrayList" "size" "I" (.int (0 : Int32)) := D5 (Or.inl (w_53 hw)) (ty := .int) (by decide)
  have z4 := Nat.le_trans Z0 (Nat.le_trans (Nat.le_trans (Nat.le_trans s0 s1) s2) s3)
  have g_b5 : n0 ≤ b5 := Nat.le_trans z4 (Nat.le_of_eq g5.symm)
  have Od4 : Old Z n0 T4.heap := Od3.keep K4 (allS g_b3 all0)
  have Od5 : Old Z n0 h5 := Od4.ext E5
  have z5 := Nat.le_trans Z0 (Nat.le_trans (Nat.le_trans (Nat.le_trans (Nat.le_trans s0 s1) s2) s3) s4)
  obtain ⟨_, T6, L6, X6, hQ6, st6⟩ := own_special X5 hx hZ hown (y := y_4) (a := b5) (w_24 hw) (w_25 hw) (w_23 hw) (w_26 hw) (rm5 l Z a0 hw [] b5 sa2 h5 n0 z5 Fn5_modCount A5 g_b5 Fn5_elementData Fn5_size S10_DEFAULTCAPACITY_EMPTY_ELEMENTDATA Od5) e5 (Ls := #[.val (.int p1), .val (.int p2), .val (.int p3), .val (.int p4), .val (.int p5), .val (.int p6), .val (.int (2 : Int32)), .val (.ref b1), .val (.ref b3), .unset, .unset, .unset, .unset, .unset]) (by rw [hml]; rfl) (argsL := []) (rest := [(.ref b5)]) (lenOf pd_0 rfl) (hb hby at_35) (W := 1)
  obtain ⟨rfl, Nq6, K6, o6_0, o6_1, o6_2, o6_3⟩ := hQ6
  have N6 := Fr.app N4 Nq6
  have s5 := K6.1
  have Ex7 := ((o4_0.ext E5).keep K6)
  have ne_b3_b5 := Nat.ne_of_lt (Nat.lt_of_lt_of_le o4_3.lt (Nat.le_of_eq g5.symm))
  have Fl8 := ((o4_1.ext E5).keep K6 (ninS ne_b3_b5 nin0))
  have Fl9 := ((o4_2.ext E5).keep K6 (ninS ne_b3_b5 nin0))
  have Fl10 := ((o4_3.ext E5).keep K6 (ninS ne_b3_b5 nin0))
  have ne_sa2_b1 := Nat.ne_of_lt (Nat.lt_of_lt_of_le V_sa2.lt (Nat.le_of_eq g1.symm))
  have ne_sa2_b3 := Nat.ne_of_lt (Nat.lt_of_lt_of_le (Nat.lt_of_lt_of_le V_sa2.lt (Nat.le_trans s0 s1)) (Nat.le_of_eq g3.symm))
  have ne_sa2_b5 := Nat.ne_of_lt (Nat.lt_of_lt_of_le (Nat.lt_of_lt_of_le V_sa2.lt (Nat.le_trans (Nat.le_trans (Nat.le_trans s0 s1) s2) s3)) (Nat.le_of_eq g5.symm))
  have Va11 := ((((((V_sa2.ext E1).keep K2 (ninS ne_sa2_b1 nin0)).ext E3).keep K4 (ninS ne_sa2_b3 nin0)).ext E5).keep K6 (ninS ne_sa2_b5 nin0))
  have Od6 : Old Z n0 T6.heap := Od5.keep K6 (allS g_b5 all0)
  have Ex12 := ((((o2_0.ext E3).keep K4).ext E5).keep K6)
  have z6 := Nat.le_trans Z0 (Nat.le_trans (Nat.le_trans (Nat.le_trans (Nat.le_trans (Nat.le_trans s0 s1) s2) s3) s4) s5)
  obtain ⟨_, T13, L13, X13, hQ13, st13⟩ := own_virtual X6 hx hZ hown (y := y_9) (z := y_9) Ex7 (w_45 hw) (w_46 hw) (notFace_of_selects (args := #[]) (mvT hZ (w_48 hw))) (w_48 hw) (w_47 hw) (w_23 hw) (w_49 hw) (rm10 l Z a0 hw [] b3 b1 sa2 sk11 T6.heap n0 z6 Fl8 Ex7 g_b3 Fl9 Fl10 Va11 ne_sa2_b3 S10_DEFAULTCAPACITY_EMPTY_ELEMENTDATA Od6 Ex12) rfl (Ls := #[.val (.int p1), .val (.int p2), .val (.int p3), .val (.int p4), .val (.int p5), .val (.int p6), .val (.int (2 : Int32)), .val (.ref b1), .val (.ref b3), .val (.ref b5), .unset, .unset, .unset, .unset]) (by rw [hml]; rfl) (argsL := [(.ref b1)]) (rest := []) (lenOf pd_6 rfl) (hb hby at_44) (W := 0)
  obtain ⟨b13_b14_b6_b5_b9, k13_k14_k6_k5_k9, rfl, Nq13, K13, o13_0, o13_1, o13_2, o13_3, o13_4, o13_5, o13_6, o13_7⟩ := hQ13
  have N13 := Fr.app N6 Nq13
  have s6 := K13.1
  have ne_b3_b13_b14_b6_b5_b9 := Nat.ne_of_lt (Nat.lt_of_lt_of_le Fl9.lt o13_4)
  have Ex14 := (Ex12.keep K13)
  have g_b13_b14_b6_b5_b9 : n0 ≤ b13_b14_b6_b5_b9 := Nat.le_trans z6 o13_4
  have z7 := Nat.le_trans Z0 (Nat.le_trans (Nat.le_trans (Nat.le_trans (Nat.le_trans (Nat.le_trans (Nat.le_trans s0 s1) s2) s3) s4) s5) s6)
  obtain ⟨_, T15, L15, X15, hQ15, st15⟩ := own_virtual X13 hx hZ hown (y := y_9) (z := y_9) o13_0 (w_45 hw) (w_46 hw) (notFace_of_selects (args := #[]) (mvT hZ (w_48 hw))) (w_48 hw) (w_47 hw) (w_23 hw) (w_49 hw) (rm12 l Z a0 hw [] b3 b1 b13_b14_b6_b5_b9 k13_k14_k6_k5_k9 T13.heap n0 z7 o13_1 o13_0 g_b3 o13_2 o13_3 o13_7 (Ne.symm ne_b3_b13_b14_b6_b5_b9) o13_6 Ex14 g_b13_b14_b6_b5_b9 o13_5) rfl (Ls := #[.val (.int p1), .val (.int p2), .val (.int p3), .val (.int p4), .val (.int p5), .val (.int p6), .val (.int (2 : Int32)), .val (.ref b1), .val (.ref b3), .val (.ref b5), .unset, .unset, .unset, .unset]) (by rw [hml]; rfl) (argsL := [(.ref b1)]) (rest := []) (lenOf pd_6 rfl) (hb hby at_52) (W := 0)
  obtain ⟨rfl, Nq15, K15, o15_0, o15_1, o15_2, o15_3, o15_4, o15_5⟩ := hQ15
  have N15 := Fr.app N13 Nq15
  have s7 := K15.1
  have z8 := Nat.le_trans Z0 (Nat.le_trans (Nat.le_trans (Nat.le_trans (Nat.le_trans (Nat.le_trans (Nat.le_trans (Nat.le_trans s0 s1) s2) s3) s4) s5) s6) s7)
  obtain ⟨_, T16, L16, X16, hQ16, st16⟩ := own_callS X15 hx hZ hown (y := y_12) (w_76 hw) (w_77 hw) (w_78 hw) (w_79 hw) (rm15 l Z a0 hw [] (FP.i2d p2) T15.heap n0 z8) rfl (Ls := #[.val (.int p1), .val (.int p2), .val (.int p3), .val (.int p4), .val (.int p5), .val (.int p6), .val (.int (2 : Int32)), .val (.ref b1), .val (.ref b3), .val (.ref b5), .unset, .unset, .unset, .unset]) (by rw [hml]; rfl) (argsL := [(.double (FP.i2d p2))]) (rest := [(.ref b5)]) (lenOf pd_8 rfl) (hb hby at_60) (W := 1)
  obtain ⟨b16_b2, rfl, Nq16, K16, o16_0, o16_1, o16_2⟩ := hQ16
  have N16 := Fr.app N15 Nq16
  have s8 := K16.1
  have Ex17 := (((o6_0.keep K13).keep K15).keep K16)
  have ne_b5_b13_b14_b6_b5_b9 := Nat.ne_of_lt (Nat.lt_of_lt_of_le o6_3.lt o13_4)
  have Fl18 := (((o6_1.keep K13 (ninS (Ne.symm ne_b3_b5) nin0)).keep K15 (ninS (Ne.symm ne_b3_b5) (ninS ne_b5_b13_b14_b6_b5_b9 nin0))).keep K16 nin0)
  have Fl19 := (((o6_2.keep K13 (ninS (Ne.symm ne_b3_b5) nin0)).keep K15 (ninS (Ne.symm ne_b3_b5) (ninS ne_b5_b13_b14_b6_b5_b9 nin0))).keep K16 nin0)
  have Fl20 := (((o6_3.keep K13 (ninS (Ne.symm ne_b3_b5) nin0)).keep K15 (ninS (Ne.symm ne_b3_b5) (ninS ne_b5_b13_b14_b6_b5_b9 nin0))).keep K16 nin0)
  have ne_sa2_b13_b14_b6_b5_b9 := Nat.ne_of_lt (Nat.lt_of_lt_of_le Va11.lt o13_4)
  have Va21 := (((Va11.keep K13 (ninS ne_sa2_b3 nin0)).keep K15 (ninS ne_sa2_b3 (ninS ne_sa2_b13_b14_b6_b5_b9 nin0))).keep K16 nin0)
  have Od7 : Old Z n0 T13.heap := Od6.keep K13 (allS g_b3 all0)
  have Od8 : Old Z n0 T15.heap := Od7.keep K15 (allS g_b3 (allS g_b13_b14_b6_b5_b9 all0))
  have Od9 : Old Z n0 T16.heap := Od8.keep K16 all0
  have z9 := Nat.le_trans Z0 (Nat.le_trans (Nat.le_trans (Nat.le_trans (Nat.le_trans (Nat.le_trans (Nat.le_trans (Nat.le_trans (Nat.le_trans s0 s1) s2) s3) s4) s5) s6) s7) s8)
  obtain ⟨_, T22, L22, X22, hQ22, st22⟩ := own_virtual X16 hx hZ hown (y := y_9) (z := y_9) Ex17 (w_45 hw) (w_46 hw) (notFace_of_selects (args := #[]) (mvT hZ (w_48 hw))) (w_48 hw) (w_47 hw) (w_23 hw) (w_49 hw) (rm17 l Z a0 hw [] b5 b16_b2 sa2 sk11 T16.heap n0 z9 Fl18 Ex17 g_b5 Fl19 Fl20 Va21 ne_sa2_b5 S10_DEFAULTCAPACITY_EMPTY_ELEMENTDATA Od9 o16_1) rfl (Ls := #[.val (.int p1), .val (.int p2), .val (.int p3), .val (.int p4), .val (.int p5), .val (.int p6), .val (.int (2 : Int32)), .val (.ref b1), .val (.ref b3), .val (.ref b5), .unset, .unset, .unset, .unset]) (by rw [hml]; rfl) (argsL := [(.ref b16_b2)]) (rest := []) (lenOf pd_6 rfl) (hb hby at_63) (W := 0)
  obtain ⟨b22_b14_b6_b5_b9, k22_k14_k6_k5_k9, rfl, Nq22, K22, o22_0, o22_1, o22_2, o22_3, o22_4, o22_5, o22_6, o22_7⟩ := hQ22
  have N22 := Fr.app N16 Nq22
  have s9 := K22.1
  have z10 := Nat.le_trans Z0 (Nat.le_trans (Nat.le_trans (Nat.le_trans (Nat.le_trans (Nat.le_trans (Nat.le_trans (Nat.le_trans (Nat.le_trans (Nat.le_trans s0 s1) s2) s3) s4) s5) s6) s7) s8) s9)
  obtain ⟨_, T23, L23, X23, hQ23, st23⟩ := own_callS X22 hx hZ hown (y := y_12) (w_76 hw) (w_77 hw) (w_78 hw) (w_79 hw) (rm15 l Z a0 hw [] (FP.i2d p3) T22.heap n0 z10) rfl (Ls := #[.val (.int p1), .val (.int p2), .val (.int p3), .val (.int p4), .val (.int p5), .val (.int p6), .val (.int (2 : Int32)), .val (.ref b1), .val (.ref b3), .val (.ref b5), .unset, .unset, .unset, .unset]) (by rw [hml]; rfl) (argsL := [(.double (FP.i2d p3))]) (rest := [(.ref b5)]) (lenOf pd_8 rfl) (hb hby at_71) (W := 1)
  obtain ⟨b23_b2, rfl, Nq23, K23, o23_0, o23_1, o23_2⟩ := hQ23
  have N23 := Fr.app N22 Nq23
  have s10 := K23.1
  have Ex24 := (o22_0.keep K23)
  have Fl25 := (o22_1.keep K23 nin0)
  have Fl26 := (o22_2.keep K23 nin0)
  have Fl27 := (o22_3.keep K23 nin0)
  have Va28 := (o22_7.keep K23 nin0)
  have ne_b5_b22_b14_b6_b5_b9 := Nat.ne_of_lt (Nat.lt_of_lt_of_le Fl20.lt o22_4)
  have g_b22_b14_b6_b5_b9 : n0 ≤ b22_b14_b6_b5_b9 := Nat.le_trans z9 o22_4
  have Ex29 := (o22_5.keep K23)
  have z11 := Nat.le_trans Z0 (Nat.le_trans (Nat.le_trans (Nat.le_trans (Nat.le_trans (Nat.le_trans (Nat.le_trans (Nat.le_trans (Nat.le_trans (Nat.le_trans (Nat.le_trans s0 s1) s2) s3) s4) s5) s6) s7) s8) s9) s10)
  obtain ⟨_, T30, L30, X30, hQ30, st30⟩ := own_virtual X23 hx hZ hown (y := y_9) (z := y_9) Ex24 (w_45 hw) (w_46 hw) (notFace_of_selects (args := #[]) (mvT hZ (w_48 hw))) (w_48 hw) (w_47 hw) (w_23 hw) (w_49 hw) (rm19 l Z a0 hw [] b5 b23_b2 b22_b14_b6_b5_b9 b16_b2 k22_k14_k6_k5_k9 T23.heap n0 z11 Fl25 Ex24 g_b5 Fl26 Fl27 Va28 (Ne.symm ne_b5_b22_b14_b6_b5_b9) o22_6 o23_1 g_b22_b14_b6_b5_b9 Ex29) rfl (Ls := #[.val (.int p1), .val (.int p2), .val (.int p3), .val (.int p4), .val (.int p5), .val (.int p6), .val (.int (2 : Int32)), .val (.ref b1), .val (.ref b3), .val (.ref b5), .unset, .unset, .unset, .unset]) (by rw [hml]; rfl) (argsL := [(.ref b23_b2)]) (rest := []) (lenOf pd_6 rfl) (hb hby at_74) (W := 0)
  obtain ⟨rfl, Nq30, K30, o30_0, o30_1, o30_2, o30_3, o30_4, o30_5⟩ := hQ30
  have N30 := Fr.app N23 Nq30
  have s11 := K30.1
  obtain ⟨T31, h31, X31, e31, E31, A31, D31, -, st31⟩ := newO X30 hx hZ hown (w_21 hw) (w_22 hw) (w_23 hw) rfl (g := (mkF m 129 #[.val (.int p1), .val (.int p2), .val (.int p3), .val (.int p4), .val (.int p5), .val (.int p6), .val (.int (2 : Int32)), .val (.ref b1), .val (.ref b3), .val (.ref b5), .unset, .unset, .unset, .unset] [])) rfl (hb hby at_129) (by decide) (by decide)
  obtain ⟨b31, g31⟩ : ∃ z, z = T30.heap.size := ⟨_, rfl⟩
  rw [← g31] at A31 D31 st31
  have s12 := E31.1
  have Fn31_modCount : Fld Z h31 b31 "java/util/AbstractList" "modCount" "I" (.int (0 : Int32)) := D31 (Or.inl (w_41 hw)) (ty := .int) (by decide)
  have Fn31_elementData : Fld Z h31 b31 "java/util/ArrayList" "elementData" "[Ljava/lang/Object;" .null := D31 (Or.inl (w_44 hw)) (ty := (.array (.object "java/lang/Object"))) (by decide)
  have Fn31_size : Fld Z h31 b31 "java/util/ArrayList" "size" "I" (.int (0 : Int32)) := D31 (Or.inl (w_53 hw)) (ty := .int) (by decide)
  have z12 := Nat.le_trans Z0 (Nat.le_trans (Nat.le_trans (Nat.le_trans (Nat.le_trans (Nat.le_trans (Nat.le_trans (Nat.le_trans (Nat.le_trans (Nat.le_trans (Nat.le_trans (Nat.le_trans s0 s1) s2) s3) s4) s5) s6) s7) s8) s9) s10) s11)
  have g_b31 : n0 ≤ b31 := Nat.le_trans z12 (Nat.le_of_eq g31.symm)
  have Od10 : Old Z n0 T22.heap := Od9.keep K22 (allS g_b5 all0)
  have Od11 : Old Z n0 T23.heap := Od10.keep K23 all0
  have Od12 : Old Z n0 T30.heap := Od11.keep K30 (allS g_b5 (allS g_b22_b14_b6_b5_b9 all0))
  have Od13 : Old Z n0 h31 := Od12.ext E31
  have z13 := Nat.le_trans Z0 (Nat.le_trans (Nat.le_trans (Nat.le_trans (Nat.le_trans (Nat.le_trans (Nat.le_trans (Nat.le_trans (Nat.le_trans (Nat.le_trans (Nat.le_trans (Nat.le_trans (Nat.le_trans s0 s1) s2) s3) s4) s5) s6) s7) s8) s9) s10) s11) s12)
  obtain ⟨_, T32, L32, X32, hQ32, st32⟩ := own_special X31 hx hZ hown (y := y_4) (a := b31) (w_24 hw) (w_25 hw) (w_23 hw) (w_26 hw) (rm5 l Z a0 hw [] b31 sa2 h31 n0 z13 Fn31_modCount A31 g_b31 Fn31_elementData Fn31_size S10_DEFAULTCAPACITY_EMPTY_ELEMENTDATA Od13) e31 (Ls := #[.val (.int p1), .val (.int p2), .val (.int p3), .val (.int p4), .val (.int p5), .val (.int p6), .val (.int (2 : Int32)), .val (.ref b1), .val (.ref b3), .val (.ref b5), .unset, .unset, .unset, .unset]) (by rw [hml]; rfl) (argsL := []) (rest := [(.ref b31)]) (lenOf pd_0 rfl) (hb hby at_133) (W := 1)
  obtain ⟨rfl, Nq32, K32, o32_0, o32_1, o32_2, o32_3⟩ := hQ32
  have N32 := Fr.app N30 Nq32
  have s13 := K32.1
  obtain ⟨T33, h33, X33, e33, E33, A33, D33, -, st33⟩ := newO X32 hx hZ hown (w_96 hw) (w_97 hw) (w_98 hw) rfl (g := (mkF m 138 #[.val (.int p1), .val (.int p2), .val (.int p3), .val (.int p4), .val (.int p5), .val (.int p6), .val (.int (2 : Int32)), .val (.ref b1), .val (.ref b3), .val (.ref b5), .val (.ref b31), .unset, .unset, .unset] [])) rfl (hb hby at_138) (by decide) (by decide)
  obtain ⟨b33, g33⟩ : ∃ z, z = T32.heap.size := ⟨_, rfl⟩
  rw [← g33] at A33 D33 st33
  have s14 := E33.1
  have Fn33_stops : Fld Z h33 b33 "com/example/feedergen/feedergen/core/DrivenLine" "stops" "Ljava/util/List;" .null := D33 (Or.inr (w_202 hw)) (ty := (.object "java/util/List")) (by decide)
  have Fn33_distances : Fld Z h33 b33 "com/example/feedergen/feedergen/core/DrivenLine" "distances" "Ljava/util/List;" .null := D33 (Or.inr (w_204 hw)) (ty := (.object "java/util/List")) (by decide)
  have Fn33_lengthBackward : Fld Z h33 b33 "com/example/feedergen/feedergen/core/DrivenLine" "lengthBackward" "D" (.double (0 : UInt64)) := D33 (Or.inr (w_206 hw)) (ty := .double) (by decide)
  have Fn33_route : Fld Z h33 b33 "com/example/feedergen/feedergen/core/DrivenLine" "route" "Ljava/util/List;" .null := D33 (Or.inr (w_208 hw)) (ty := (.object "java/util/List")) (by decide)
  have Ex34 := (((((((o15_0.keep K16).keep K22).keep K23).keep K30).ext E31).keep K32).ext E33)
  have ne_b3_b22_b14_b6_b5_b9 := Nat.ne_of_lt (Nat.lt_of_lt_of_le (Nat.lt_of_lt_of_le o15_3.lt s8) o22_4)
  have ne_b3_b31 := Nat.ne_of_lt (Nat.lt_of_lt_of_le (Nat.lt_of_lt_of_le o15_3.lt (Nat.le_trans (Nat.le_trans (Nat.le_trans s8 s9) s10) s11)) (Nat.le_of_eq g31.symm))
  have Fl35 := (((((((o15_3.keep K16 nin0).keep K22 (ninS ne_b3_b5 nin0)).keep K23 nin0).keep K30 (ninS ne_b3_b5 (ninS ne_b3_b22_b14_b6_b5_b9 nin0))).ext E31).keep K32 (ninS ne_b3_b31 nin0)).ext E33)
  have Ex36 := (((o30_0.ext E31).keep K32).ext E33)
  have ne_b5_b31 := Nat.ne_of_lt (Nat.lt_of_lt_of_le o30_3.lt (Nat.le_of_eq g31.symm))
  have Fl37 := (((o30_3.ext E31).keep K32 (ninS ne_b5_b31 nin0)).ext E33)
  have Fl38 := (((((((o15_2.keep K16 nin0).keep K22 (ninS ne_b3_b5 nin0)).keep K23 nin0).keep K30 (ninS ne_b3_b5 (ninS ne_b3_b22_b14_b6_b5_b9 nin0))).ext E31).keep K32 (ninS ne_b3_b31 nin0)).ext E33)
  have Ex39 := (((((((o15_4.keep K16).keep K22).keep K23).keep K30).ext E31).keep K32).ext E33)
  have ne_b13_b14_b6_b5_b9_b22_b14_b6_b5_b9 := Nat.ne_of_lt (Nat.lt_of_lt_of_le (Nat.lt_of_lt_of_le o15_5.lt s8) o22_4)
  have ne_b13_b14_b6_b5_b9_b31 := Nat.ne_of_lt (Nat.lt_of_lt_of_le (Nat.lt_of_lt_of_le o15_5.lt (Nat.le_trans (Nat.le_trans (Nat.le_trans s8 s9) s10) s11)) (Nat.le_of_eq g31.symm))
  have Va40 := (((((((o15_5.keep K16 nin0).keep K22 (ninS (Ne.symm ne_b5_b13_b14_b6_b5_b9) nin0)).keep K23 nin0).keep K30 (ninS (Ne.symm ne_b5_b13_b14_b6_b5_b9) (ninS ne_b13_b14_b6_b5_b9_b22_b14_b6_b5_b9 nin0))).ext E31).keep K32 (ninS ne_b13_b14_b6_b5_b9_b31 nin0)).ext E33)
  have Ex41 := ((((((((Ex14.keep K15).keep K16).keep K22).keep K23).keep K30).ext E31).keep K32).ext E33)
  have Fl42 := (((o30_2.ext E31).keep K32 (ninS ne_b5_b31 nin0)).ext E33)
  have Ex43 := (((o30_4.ext E31).keep K32).ext E33)
  have ne_b22_b14_b6_b5_b9_b31 := Nat.ne_of_lt (Nat.lt_of_lt_of_le o30_5.lt (Nat.le_of_eq g31.symm))
  have Va44 := (((o30_5.ext E31).keep K32 (ninS ne_b22_b14_b6_b5_b9_b31 nin0)).ext E33)
  have Ex45 := ((((o23_1.keep K30).ext E31).keep K32).ext E33)
  have Ex46 := ((((((o16_1.keep K22).keep K23).keep K30).ext E31).keep K32).ext E33)
  have Ex47 := (o32_0.ext E33)
  have Fl48 := (o32_3.ext E33)
  have Od14 : Old Z n0 T32.heap := Od13.keep K32 (allS g_b31 all0)
  have Od15 : Old Z n0 h33 := Od14.ext E33
  have z14 := Nat.le_trans Z0 (Nat.le_trans (Nat.le_trans (Nat.le_trans (Nat.le_trans (Nat.le_trans (Nat.le_trans (Nat.le_trans (Nat.le_trans (Nat.le_trans (Nat.le_trans (Nat.le_trans (Nat.le_trans (Nat.le_trans s0 s1) s2) s3) s4) s5) s6) s7) s8) s9) s10) s11) s12) s13)
  have g_b33 : n0 ≤ b33 := Nat.le_trans z14 (Nat.le_of_eq g33.symm)
  have z15 := Nat.le_trans Z0 (Nat.le_trans (Nat.le_trans (Nat.le_trans (Nat.le_trans (Nat.le_trans (Nat.le_trans (Nat.le_trans (Nat.le_trans (Nat.le_trans (Nat.le_trans (Nat.le_trans (Nat.le_trans (Nat.le_trans (Nat.le_trans s0 s1) s2) s3) s4) s5) s6) s7) s8) s9) s10) s11) s12) s13) s14)
  obtain ⟨_, T49, L49, X49, hQ49, st49⟩ := own_special X33 hx hZ hown (y := y_30) (a := b33) (w_99 hw) (w_100 hw) (w_98 hw) (w_101 hw) (rm44 l Z a0 hw [] b33 b3 b5 (FP.i2d p6) b31 b13_b14_b6_b5_b9 smr b1 k13_k14_k6_k5_k9 b22_b14_b6_b5_b9 b16_b2 b23_b2 k22_k14_k6_k5_k9 sa3 h33 n0 z15 Ex34 Fl35 Ex36 Fl37 Fl38 Ex39 M_top Va40 Ex41 Fl42 Ex43 Va44 Ex45 Ex46 Ex47 Fl48 S12_EMPTY_LIST Od15 Fn33_stops A33 g_b33 Fn33_distances Fn33_lengthBackward Fn33_route) e33 (Ls := #[.val (.int p1), .val (.int p2), .val (.int p3), .val (.int p4), .val (.int p5), .val (.int p6), .val (.int (2 : Int32)), .val (.ref b1), .val (.ref b3), .val (.ref b5), .val (.ref b31), .unset, .unset, .unset]) (by rw [hml]; rfl) (argsL := [(.ref b3), (.ref b5), (.double (FP.i2d p6)), (.ref b31)]) (rest := [(.ref b33)]) (lenOf pd_18 rfl) (hb hby at_151) (W := 1)
  obtain ⟨b49_b26_b7_b11_b6, b49_b14_b6_b10_b5, rfl, Nq49, K49, o49_0, o49_1, o49_2, o49_3, o49_4, o49_5, o49_6, o49_7, o49_8, o49_9, o49_10, o49_11, o49_12, o49_13⟩ := hQ49
  have N49 := Fr.app N32 Nq49
  have s15 := K49.1
  have Od16 : Old Z n0 T49.heap := Od15.keep K49 (allS g_b33 all0)
  have ne_sa5_b23_b2 := Nat.ne_of_lt (Nat.lt_of_lt_of_le (Nat.lt_of_lt_of_le E_sa5.lt (Nat.le_trans (Nat.le_trans (Nat.le_trans (Nat.le_trans (Nat.le_trans (Nat.le_trans (Nat.le_trans (Nat.le_trans (Nat.le_trans s0 s1) s2) s3) s4) s5) s6) s7) s8) s9)) o23_0)
  have Ex50 := (Ex45.keep K49)
  have ne_b5_b23_b2 := Nat.ne_of_lt (Nat.lt_of_lt_of_le o22_3.lt o23_0)
  have ne_b22_b14_b6_b5_b9_b23_b2 := Nat.ne_of_lt (Nat.lt_of_lt_of_le o22_7.lt o23_0)
  have ne_b23_b2_b31 := Nat.ne_of_lt (Nat.lt_of_lt_of_le (Nat.lt_of_lt_of_le o23_2.lt s11) (Nat.le_of_eq g31.symm))
  have ne_b23_b2_b33 := Nat.ne_of_lt (Nat.lt_of_lt_of_le (Nat.lt_of_lt_of_le o23_2.lt (Nat.le_trans (Nat.le_trans s11 s12) s13)) (Nat.le_of_eq g33.symm))
  have Fl51 := (((((o23_2.keep K30 (ninS (Ne.symm ne_b5_b23_b2) (ninS (Ne.symm ne_b22_b14_b6_b5_b9_b23_b2) nin0))).ext E31).keep K32 (ninS ne_b23_b2_b31 nin0)).ext E33).keep K49 (ninS ne_b23_b2_b33 nin0))
  have z16 := Nat.le_trans Z0 (Nat.le_trans (Nat.le_trans (Nat.le_trans (Nat.le_trans (Nat.le_trans (Nat.le_trans (Nat.le_trans (Nat.le_trans (Nat.le_trans (Nat.le_trans (Nat.le_trans (Nat.le_trans (Nat.le_trans (Nat.le_trans (Nat.le_trans s0 s1) s2) s3) s4) s5) s6) s7) s8) s9) s10) s11) s12) s13) s14) s15)
  obtain ⟨_, T52, L52, X52, hQ52, st52⟩ := own_virtual X49 hx hZ hown (y := y_35) (z := y_35) o49_0 (w_209 hw) (w_210 hw) (notFace_of_selects (args := #[]) (mvT hZ (w_212 hw))) (w_212 hw) (w_211 hw) (w_98 hw) (w_213 hw) (rm48 l Z a0 hw [] b33 b49_b26_b7_b11_b6 b23_b2 sa5 (FP.i2d p3) T49.heap n0 z16 o49_1 o49_6 o49_8 S15_EMPTY Od16 (Ne.symm ne_sa5_b23_b2) Ex50 Fl51) rfl (Ls := #[.val (.int p1), .val (.int p2), .val (.int p3), .val (.int p4), .val (.int p5), .val (.int p6), .val (.int (2 : Int32)), .val (.ref b1), .val (.ref b3), .val (.ref b5), .val (.ref b31), .val (.ref b33), .val (.double (FP.i2d p3)), .second]) (by rw [hml]; rfl) (argsL := []) (rest := []) (lenOf pd_20 rfl) (hb hby at_189) (W := 0)
  obtain ⟨rfl, Nq52, e52⟩ := hQ52
  have N52 := Fr.app N49 Nq52
  refine ⟨T52, _, _, _, (some (.int (1 : Int32))), X52, nofun, by decide, by decide, ?_, fun fs hr => ?_⟩
  · show Q0 n0 _ T52.heap _
    rw [e52]
    exact ⟨rfl, N52⟩
  · show Steps p.tables e below (s₁.setTop (mkF m 0 #[.val (.int p1), .val (.int p2), .val (.int p3), .val (.int p4), .val (.int p5), .val (.int p6), .unset, .unset, .unset, .unset, .unset, .unset, .unset, .unset] [])) _
    refine XS.iconst X0.here hx rfl (hb hby at_0) ?_
    refine XS.iloadN X0.here hx rfl (hb hby at_1) rfl ?_
    refine X0.ldcInt hx hown (mvT hZ (w_0 hw)) (g := (mkF m 2 #[.val (.int p1), .val (.int p2), .val (.int p3), .val (.int p4), .val (.int p5), .val (.int p6), .unset, .unset, .unset, .unset, .unset, .unset, .unset, .unset] [(.int p1), (.int (2 : Int32))])) rfl (hb hby at_2) _ ?_
    refine XS.iand X0.here hx rfl (hb hby at_4) rfl ?_
    refine XS.iconst X0.here hx rfl (hb hby at_5) ?_
    refine XS.irem X0.here hx rfl (hb hby at_6) rfl (by decide : ¬ ((3 : Int32) = (0 : Int32))) ?_
    show Steps p.tables e below (s₁.setTop (mkF m 7 #[.val (.int p1), .val (.int p2), .val (.int p3), .val (.int p4), .val (.int p5), .val (.int p6), .unset, .unset, .unset, .unset, .unset, .unset, .unset, .unset] [(.int ((p1 &&& (2147483647 : Int32)) - ((p1 &&& (2147483647 : Int32)) / (3 : Int32)) * (3 : Int32))), (.int (2 : Int32))])) _
    rw [hk]
    refine XS.iadd X0.here hx rfl (hb hby at_7) rfl ?_
    refine XS.istore X0.here hx rfl (hb hby at_8) rfl (l' := #[.val (.int p1), .val (.int p2), .val (.int p3), .val (.int p4), .val (.int p5), .val (.int p6), .val (.int (2 : Int32)), .unset, .unset, .unset, .unset, .unset, .unset, .unset]) rfl ?_
    refine st1 _ ?_
    refine XS.dup X1.here hx rfl (hb hby at_13) rfl rfl ?_
    refine XS.iconst X1.here hx rfl (hb hby at_14) ?_
    refine XS.aconstNull X1.here hx rfl (hb hby at_15) ?_
    refine XS.dconst0 X1.here hx rfl (hb hby at_16) rfl ?_
    refine st2 _ ?_
    refine XS.astore X2.here hx rfl (hb hby at_20) rfl rfl (l' := #[.val (.int p1), .val (.int p2), .val (.int p3), .val (.int p4), .val (.int p5), .val (.int p6), .val (.int (2 : Int32)), .val (.ref b1), .unset, .unset, .unset, .unset, .unset, .unset]) rfl ?_
    refine st3 _ ?_
    refine XS.dup X3.here hx rfl (hb hby at_25) rfl rfl ?_
    show Steps p.tables e below (T3.setTop (mkF m 26 #[.val (.int p1), .val (.int p2), .val (.int p3), .val (.int p4), .val (.int p5), .val (.int p6), .val (.int (2 : Int32)), .val (.ref b1), .unset, .unset, .unset, .unset, .unset, .unset] [(.ref b3), (.ref b3)])) _
    refine st4 _ ?_
    refine XS.astore X4.here hx rfl (hb hby at_29) rfl rfl (l' := #[.val (.int p1), .val (.int p2), .val (.int p3), .val (.int p4), .val (.int p5), .val (.int p6), .val (.int (2 : Int32)), .val (.ref b1), .val (.ref b3), .unset, .unset, .unset, .unset, .unset]) rfl ?_
    refine st5 _ ?_
    refine XS.dup X5.here hx rfl (hb hby at_34) rfl rfl ?_
    refine st6 _ ?_
    refine XS.astore X6.here hx rfl (hb hby at_38) rfl rfl (l' := #[.val (.int p1), .val (.int p2), .val (.int p3), .val (.int p4), .val (.int p5), .val (.int p6), .val (.int (2 : Int32)), .val (.ref b1), .val (.ref b3), .val (.ref b5), .unset, .unset, .unset, .unset]) rfl ?_
    refine XS.aload X6.here hx rfl (hb hby at_40) rfl rfl ?_
    refine XS.aload X6.here hx rfl (hb hby at_42) rfl rfl ?_
    refine st13 _ ?_
    refine XS.pop X13.here hx rfl (hb hby at_47) rfl rfl ?_
    refine XS.aload X13.here hx rfl (hb hby at_48) rfl rfl ?_
    refine XS.aload X13.here hx rfl (hb hby at_50) rfl rfl ?_
    show Steps p.tables e below (T13.setTop (mkF m 52 #[.val (.int p1), .val (.int p2), .val (.int p3), .val (.int p4), .val (.int p5), .val (.int p6), .val (.int (2 : Int32)), .val (.ref b1), .val (.ref b3), .val (.ref b5), .unset, .unset, .unset, .unset] [(.ref b1), (.ref b3)])) _
    refine st15 _ ?_
    refine XS.pop X15.here hx rfl (hb hby at_55) rfl rfl ?_
    refine XS.aload X15.here hx rfl (hb hby at_56) rfl rfl ?_
    refine XS.iloadN X15.here hx rfl (hb hby at_58) rfl ?_
    refine XS.i2dS X15.here hx rfl (hb hby at_59) rfl rfl ?_
    refine st16 _ ?_
    refine st22 _ ?_
    refine XS.pop X22.here hx rfl (hb hby at_66) rfl rfl ?_
    refine XS.aload X22.here hx rfl (hb hby at_67) rfl rfl ?_
    refine XS.iloadN X22.here hx rfl (hb hby at_69) rfl ?_
    refine XS.i2dS X22.here hx rfl (hb hby at_70) rfl rfl ?_
    refine st23 _ ?_
    show Steps p.tables e below (T23.setTop (mkF m 74 #[.val (.int p1), .val (.int p2), .val (.int p3), .val (.int p4), .val (.int p5), .val (.int p6), .val (.int (2 : Int32)), .val (.ref b1), .val (.ref b3), .val (.ref b5), .unset, .unset, .unset, .unset] [(.ref b23_b2), (.ref b5)])) _
    refine st30 _ ?_
    refine XS.pop X30.here hx rfl (hb hby at_77) rfl rfl ?_
    refine XS.iload X30.here hx rfl (hb hby at_78) rfl ?_
    refine XS.iconst X30.here hx rfl (hb hby at_80) ?_
    refine XS.icmpYes X30.here hx rfl (pc0 := 81) (pc' := 103) rfl (hb hby at_81) rfl (tlt ((by decide : (2 : Int32) < (3 : Int32)) : (2 : Int32) < (3 : Int32))).1 (by decide) (by decide) ?_
    refine XS.iload X30.here hx rfl (hb hby at_103) rfl ?_
    refine XS.iconst X30.here hx rfl (hb hby at_105) ?_
    refine XS.icmpYes X30.here hx rfl (pc0 := 106) (pc' := 129) rfl (hb hby at_106) rfl (tlt ((by decide : (2 : Int32) < (4 : Int32)) : (2 : Int32) < (4 : Int32))).1 (by decide) (by decide) ?_
    refine st31 _ ?_
    refine XS.dup X31.here hx rfl (hb hby at_132) rfl rfl ?_
    refine st32 _ ?_
    refine XS.astore X32.here hx rfl (hb hby at_136) rfl rfl (l' := #[.val (.int p1), .val (.int p2), .val (.int p3), .val (.int p4), .val (.int p5), .val (.int p6), .val (.int (2 : Int32)), .val (.ref b1), .val (.ref b3), .val (.ref b5), .val (.ref b31), .unset, .unset, .unset]) rfl ?_
    show Steps p.tables e below (T32.setTop (mkF m 138 #[.val (.int p1), .val (.int p2), .val (.int p3), .val (.int p4), .val (.int p5), .val (.int p6), .val (.int (2 : Int32)), .val (.ref b1), .val (.ref b3), .val (.ref b5), .val (.ref b31), .unset, .unset, .unset] [])) _
    refine st33 _ ?_
    refine XS.dup X33.here hx rfl (hb hby at_141) rfl rfl ?_
    refine XS.aload X33.here hx rfl (hb hby at_142) rfl rfl ?_
    refine XS.aload X33.here hx rfl (hb hby at_144) rfl rfl ?_
    refine XS.iload X33.here hx rfl (hb hby at_146) rfl ?_
    refine XS.i2dS X33.here hx rfl (hb hby at_148) rfl rfl ?_
    refine XS.aload X33.here hx rfl (hb hby at_149) rfl rfl ?_
    refine st49 _ ?_
    refine XS.astore X49.here hx rfl (hb hby at_154) rfl rfl (l' := #[.val (.int p1), .val (.int p2), .val (.int p3), .val (.int p4), .val (.int p5), .val (.int p6), .val (.int (2 : Int32)), .val (.ref b1), .val (.ref b3), .val (.ref b5), .val (.ref b31), .val (.ref b33), .unset, .unset]) rfl ?_
    refine XS.iload X49.here hx rfl (hb hby at_156) rfl ?_
    refine XS.iconst X49.here hx rfl (hb hby at_158) ?_
    refine XS.icmpNo X49.here hx rfl (hb hby at_159) rfl (teq ((by decide : (2 : Int32) = (2 : Int32)) : (2 : Int32) = (2 : Int32))).2 ?_
    show Steps p.tables e below (T49.setTop (mkF m 162 #[.val (.int p1), .val (.int p2), .val (.int p3), .val (.int p4), .val (.int p5), .val (.int p6), .val (.int (2 : Int32)), .val (.ref b1), .val (.ref b3), .val (.ref b5), .val (.ref b31), .val (.ref b33), .unset, .unset] [])) _
    refine XS.iloadN X49.here hx rfl (hb hby at_162) rfl ?_
    refine XS.i2dS X49.here hx rfl (hb hby at_163) rfl rfl ?_
    refine XS.dstore X49.here hx rfl (hb hby at_164) rfl (l' := #[.val (.int p1), .val (.int p2), .val (.int p3), .val (.int p4), .val (.int p5), .val (.int p6), .val (.int (2 : Int32)), .val (.ref b1), .val (.ref b3), .val (.ref b5), .val (.ref b31), .val (.ref b33), .val (.double (FP.i2d p3)), .second]) rfl ?_
    refine XS.goto X49.here hx rfl (pc0 := 166) (pc' := 187) rfl (hb hby at_166) (by decide) (by decide) ?_
    refine XS.aload X49.here hx rfl (hb hby at_187) rfl rfl ?_
    refine st52 _ ?_
    refine XS.dload X52.here hx rfl (hb hby at_192) rfl ?_
    refine XS.dcmpS X52.here hx rfl (hb hby at_194) rfl (dcmpV_self (nn_w (i2d_w _)) .l) ?_
    refine XS.ifNo X52.here hx rfl (hb hby at_195) rfl ((if0 _ _).trans (teq ((by decide : (0 : Int32) = (0 : Int32)) : (0 : Int32) = (0 : Int32))).2) ?_
    refine XS.iconst X52.here hx rfl (hb hby at_198) ?_
    refine XS.goto X52.here hx rfl (pc0 := 199) (pc' := 203) rfl (hb hby at_199) (by decide) (by decide) ?_
    exact retN X52 hx (t := .boolean) hret (by simp) (hb hby at_203) hr
-- java/util/ArrayList.add(Ljava/lang/Object;[Ljava/lang/Object;I)V
abbrev Rm49 : Room := { frames := 0, cells := 0, slots := 0, locals := 0 }
def Q49 (Z : State) (a1 : Addr) (a2 : Addr) (a3 : Addr) (k4 : ClassId) (h0 : Heap) (n0 : Nat) (v : Option Value) (h : Heap) (L : List Loc) : Prop := v = none ∧ Fr n0 L ∧ Keep h0 h [a3, a1] ∧ Exa Z h a3 "[Ljava/lang/Object;" ∧ Arv Z h a3 k4 (.object "java/lang/Object") (10 : Int32) [(.ref a2), (.ref a2), (.ref a2), .null, .null, .null, .null, .null, .null, .null] .null ∧ Exa Z h a1 "java/util/ArrayList" ∧ Fld Z h a1 "java/util/AbstractList" "modCount" "I" (.int (3 : Int32)) ∧ Fld Z h a1 "java/util/ArrayList" "elementData" "[Ljava/lang/Object;" (.ref a3) ∧ Fld Z h a1 "java/util/ArrayList" "size" "I" (.int (3 : Int32))
theorem ef49 (a1 : Addr) (a2 : Addr) (a3 : Addr) (m : MethodId) : entryFrame m #[(.ref a1), (.ref a2), (.ref a3), (.int (2 : Int32))] 4 = mkF m 0 #[.val (.ref a1), .val (.ref a2), .val (.ref a3), .val (.int (2 : Int32))] [] := by first | (simp [entryFrame, mkF, argsToLocals, Value.category]; done) | rfl
theorem rm49 (l : Launch) (Z : State) (a0 : Array Value) (hw : ∀ d ∈ tables_1, d.before a0 Z = true) (ws : List Jvm.Cond) (a1 : Addr) (a2 : Addr) (a3 : Addr) (k4 : ClassId) (h0 : Heap) (n0 : Nat) (Z0 : n0 ≤ h0.size) (V_a3 : Arv Z h0 a3 k4 (.object "java/lang/Object") (10 : Int32) [(.ref a2), (.ref a2), .null, .null, .null, .null, .null, .null, .null, .null] .null) (O_k4 : Ovr Z k4 "java/lang/Object") (E_a2 : Exa Z h0 a2 "com/example/feedergen/feedergen/core/StopCandidate") (g_a3 : n0 ≤ a3) (F_size_a1 : Fld Z h0 a1 "java/util/ArrayList" "size" "I" (.int (2 : Int32))) (ne_a1_a3 : a1 ≠ a3) (E_a1 : Exa Z h0 a1 "java/util/ArrayList") (g_a1 : n0 ≤ a1) (E_a3 : Exa Z h0 a3 "[Ljava/lang/Object;") (F_modCount_a1 : Fld Z h0 a1 "java/util/AbstractList" "modCount" "I" (.int (3 : Int32))) (F_elementData_a1 : Fld Z h0 a1 "java/util/ArrayList" "elementData" "[Ljava/lang/Object;" (.ref a3)) :
    OwnMet l Z y_8 jdk_38_method_24_code 4 none ws Rm49 #[(.ref a1), (.ref a2), (.ref a3), (.int (2 : Int32))] h0 (Q49 Z a1 a2 a3 k4 h0 n0) := by
  refine own_body (plainFor_of_name pn_4) (ef49 a1 a2 a3) ?_
  intro p e s m below meth c s₁ hx hby hml hown hnm hret hZ X0 e0
  have N0 := Fr.nil n0
  obtain ⟨cl5, Ar5, q5, S5, M5, Hs5, G5⟩ := id V_a3
  have hin6 : ¬ ((2 : Int32) < 0 ∨ cl5.slots.size ≤ ((2 : Int32)).toNatClampNeg) := inb_of S5 ⟨(by decide : ¬ ((2 : Int32) < (0 : Int32))), (by decide : (2 : Int32) < (10 : Int32))⟩
  obtain ⟨T7, h7, X7, e7, W7, st7⟩ := stR X0 hx hZ e0 Ar5 (j := (2 : Int32)) hin6 rfl (Sto.ofV Ar5 q5 O_k4 (Ins.of_exa E_a2 (w_75 hw))) (g := (mkF m 14 #[.val (.ref a1), .val (.ref a2), .val (.ref a3), .val (.int (2 : Int32))] [(.ref a2), (.int (2 : Int32)), (.ref a3)])) rfl rfl (hb hby d8_14)
  have s0 := (Keep.of_wr W7).1
  have N7 := Fr.snoc X7 N0 g_a3
  have Vs7 : Arv Z h7 a3 k4 (.object "java/lang/Object") (10 : Int32) [(.ref a2), (.ref a2), (.ref a2), .null, .null, .null, .null, .null, .null, .null] .null := Arv.set Ar5 q5 S5 M5 Hs5 G5 rfl W7 2 rfl (Nat.le_of_ble_eq_true rfl)
  have Fl8 := (F_size_a1.other W7 (Or.inl ne_a1_a3))
  have Ex9 := (E_a1.wr W7)
  obtain ⟨T10, h10, X10, e10, W10, st10⟩ := putF X7 hx hZ hown (host := "") (Or.inl (w_52 hw)) Via.refl e7 Fl8 Ex9 (Or.inl (w_53 hw)) (w_22 hw) (ty := .int) (by decide) rfl rfl (g := (mkF m 19 #[.val (.ref a1), .val (.ref a2), .val (.ref a3), .val (.int (2 : Int32))] [(.int (3 : Int32)), (.ref a1)])) rfl rfl (hb hby d8_19)
  have s1 := (Keep.of_wr W10).1
  have N10 := Fr.snoc X10 N7 g_a1
  have Fw10 : Fld Z h10 a1 "java/util/ArrayList" "size" "I" (.int (3 : Int32)) := Fl8.same W10
  have Ex11 := ((E_a3.wr W7).wr W10)
  have Va12 := (Vs7.other W10 (Ne.symm ne_a1_a3))
  have Ex13 := (Ex9.wr W10)
  have Fl14 := ((F_modCount_a1.other W7 (Or.inl ne_a1_a3)).other W10 (Or.inr (slot_ne (Or.inl (w_41 hw)) (Or.inl (w_53 hw)) (by decide) (t := .int) (t' := .int) (by decide) (by decide))))
  have Fl15 := ((F_elementData_a1.other W7 (Or.inl ne_a1_a3)).other W10 (Or.inr (slot_ne (Or.inl (w_44 hw)) (Or.inl (w_53 hw)) (by decide) (t := (.array (.object "java/lang/Object"))) (t' := .int) (by decide) (by decide))))
  have Kp0 : Keep h0 h7 [a3, a1] := (Keep.refl h0 [a3, a1]).wr W7 (Or.inl (List.mem_of_getElem? (i := 0) rfl))
  have Kp1 : Keep h0 h10 [a3, a1] := Kp0.wr W10 (Or.inl (List.mem_of_getElem? (i := 1) rfl))
  refine ⟨T10, _, _, _, none, X10, (fun _ => rfl), by decide, by decide, ?_, fun fs hr => ?_⟩
  · show Q49 Z a1 a2 a3 k4 h0 n0 _ T10.heap _
    rw [e10]
    exact ⟨rfl, N10, Kp1, Ex11, Va12, Ex13, Fl14, Fl15, Fw10⟩
  · show Steps p.tables e below (s₁.setTop (mkF m 0 #[.val (.ref a1), .val (.ref a2), .val (.ref a3), .val (.int (2 : Int32))] [])) _
    refine XS.iloadN X0.here hx rfl (hb hby d8_0) rfl ?_
    refine XS.aloadN X0.here hx rfl (hb hby d8_1) rfl rfl ?_
    refine X0.arraylength hx (by rw [e0]; exact Ar5.1) (State.isArrayOf_alike hZ.alike Ar5.2.1) (g := (mkF m 2 #[.val (.ref a1), .val (.ref a2), .val (.ref a3), .val (.int (2 : Int32))] [(.ref a3), (.int (2 : Int32))])) rfl rfl (hb hby d8_2) _ ?_
    show Steps p.tables e below (s₁.setTop (mkF m 3 #[.val (.ref a1), .val (.ref a2), .val (.ref a3), .val (.int (2 : Int32))] [(.int cl5.slots.size.toInt32), (.int (2 : Int32))])) _
    rw [len_of S5 M5]
    refine XS.icmpYes X0.here hx rfl (pc0 := 3) (pc' := 11) rfl (hb hby d8_3) rfl (feq ((by decide : ¬ ((2 : Int32) = (10 : Int32))) : ¬ ((2 : Int32) = (10 : Int32)))).2 (by decide) (by decide) ?_
    refine XS.aloadN X0.here hx rfl (hb hby d8_11) rfl rfl ?_
    refine XS.iloadN X0.here hx rfl (hb hby d8_12) rfl ?_
    refine XS.aloadN X0.here hx rfl (hb hby d8_13) rfl rfl ?_
    refine st7 _ ?_
    refine XS.aloadN X7.here hx rfl (hb hby d8_15) rfl rfl ?_
    refine XS.iloadN X7.here hx rfl (hb hby d8_16) rfl ?_
    refine XS.iconst X7.here hx rfl (hb hby d8_17) ?_
    refine XS.iadd X7.here hx rfl (hb hby d8_18) rfl ?_
    refine st10 _ ?_
    exact X10.returnOut hx hret (hb hby d8_22) hr
-- java/util/ArrayList.add(Ljava/lang/Object;)Z
abbrev Rm50 : Room := { frames := 1, cells := 0, slots := 0, locals := 15 }
def Q50 (Z : State) (a1 : Addr) (a2 : Addr) (a5 : Addr) (k11 : ClassId) (h0 : Heap) (n0 : Nat) (v : Option Value) (h : Heap) (L : List Loc) : Prop := v = some (.int (1 : Int32)) ∧ Fr n0 L ∧ Keep h0 h [a1, a5] ∧ Exa Z h a1 "java/util/ArrayList" ∧ Fld Z h a1 "java/util/AbstractList" "modCount" "I" (.int (3 : Int32)) ∧ Fld Z h a1 "java/util/ArrayList" "elementData" "[Ljava/lang/Object;" (.ref a5) ∧ Fld Z h a1 "java/util/ArrayList" "size" "I" (.int (3 : Int32)) ∧ Exa Z h a5 "[Ljava/lang/Object;" ∧ Arv Z h a5 k11 (.object "java/lang/Object") (10 : Int32) [(.ref a2), (.ref a2), (.ref a2), .null, .null, .null, .null, .null, .null, .null] .null
theorem ef50 (a1 : Addr) (a2 : Addr) (m : MethodId) : entryFrame m #[(.ref a1), (.ref a2)] 2 = mkF m 0 #[.val (.ref a1), .val (.ref a2)] [] := by first | (simp [entryFrame, mkF, argsToLocals, Value.category]; done) | rfl
theorem rm50 (l : Launch) (Z : State) (a0 : Array Value) (hw : ∀ d ∈ tables_1, d.before a0 Z = true) (ws : List Jvm.Cond) (a1 : Addr) (a2 : Addr) (a5 : Addr) (k11 : ClassId) (h0 : Heap) (n0 : Nat) (Z0 : n0 ≤ h0.size) (F_modCount_a1 : Fld Z h0 a1 "java/util/AbstractList" "modCount" "I" (.int (2 : Int32))) (E_a1 : Exa Z h0 a1 "java/util/ArrayList") (g_a1 : n0 ≤ a1) (F_elementData_a1 : Fld Z h0 a1 "java/util/ArrayList" "elementData" "[Ljava/lang/Object;" (.ref a5)) (F_size_a1 : Fld Z h0 a1 "java/util/ArrayList" "size" "I" (.int (2 : Int32))) (V_a5 : Arv Z h0 a5 k11 (.object "java/lang/Object") (10 : Int32) [(.ref a2), (.ref a2), .null, .null, .null, .null, .null, .null, .null, .null] .null) (ne_a5_a1 : a5 ≠ a1) (O_k11 : Ovr Z k11 "java/lang/Object") (E_a2 : Exa Z h0 a2 "com/example/feedergen/feedergen/core/StopCandidate") (g_a5 : n0 ≤ a5) (E_a5 : Exa Z h0 a5 "[Ljava/lang/Object;") :
    OwnMet l Z y_9 jdk_38_method_25_code 2 (some .boolean) ws Rm50 #[(.ref a1), (.ref a2)] h0 (Q50 Z a1 a2 a5 k11 h0 n0) := by
  refine own_body (plainFor_of_name pn_4) (ef50 a1 a2) ?_
  intro p e s m below meth c s₁ hx hby hml hown hnm hret hZ X0 e0
  have N0 := Fr.nil n0
  obtain ⟨T3, X3, e3, st3⟩ := getF X0 hx hZ hown (host := "") (Or.inl (w_50 hw)) (Via.of (w_51 hw)) e0 F_modCount_a1 (g := (mkF m 2 #[.val (.ref a1), .val (.ref a2)] [(.ref a1), (.ref a1)])) rfl rfl (hb hby d7_2)
  obtain ⟨T4, h4, X4, e4, W4, st4⟩ := putF X3 hx hZ hown (host := "") (Or.inl (w_50 hw)) (Via.of (w_51 hw)) e3 F_modCount_a1 E_a1 (Or.inl (w_41 hw)) (w_22 hw) (ty := .int) (by decide) rfl rfl (g := (mkF m 7 #[.val (.ref a1), .val (.ref a2)] [(.int (3 : Int32)), (.ref a1)])) rfl rfl (hb hby d7_7)
  have s0 := (Keep.of_wr W4).1
  have N4 := Fr.snoc X4 N0 g_a1
  have Fw4 : Fld Z h4 a1 "java/util/AbstractList" "modCount" "I" (.int (3 : Int32)) := F_modCount_a1.same W4
  have Ex6 := (E_a1.wr W4)
  have Fl7 := (F_elementData_a1.other W4 (Or.inr (slot_ne (Or.inl (w_44 hw)) (Or.inl (w_41 hw)) (by decide) (t := (.array (.object "java/lang/Object"))) (t' := .int) (by decide) (by decide))))
  obtain ⟨T8, X8, e8, st8⟩ := getF X4 hx hZ hown (host := "") (Or.inl (w_43 hw)) Via.refl e4 Fl7 (g := (mkF m 13 #[.val (.ref a1), .val (.ref a2)] [(.ref a1), (.ref a2), (.ref a1)])) rfl rfl (hb hby d7_13)
  have Fl9 := (F_size_a1.other W4 (Or.inr (slot_ne (Or.inl (w_53 hw)) (Or.inl (w_41 hw)) (by decide) (t := .int) (t' := .int) (by decide) (by decide))))
  obtain ⟨T10, X10, e10, st10⟩ := getF X8 hx hZ hown (host := "") (Or.inl (w_52 hw)) Via.refl e8 Fl9 (g := (mkF m 17 #[.val (.ref a1), .val (.ref a2)] [(.ref a1), (.ref a5), (.ref a2), (.ref a1)])) rfl rfl (hb hby d7_17)
  have Va12 := (V_a5.other W4 ne_a5_a1)
  have Ex13 := (E_a2.wr W4)
  have Ex14 := (E_a5.wr W4)
  have z1 := Nat.le_trans Z0 s0
  obtain ⟨_, T15, L15, X15, hQ15, st15⟩ := own_private X10 hx hZ hown (y := y_8) Ex6 (w_54 hw) (w_55 hw) (mvT hZ (w_57 hw)) (w_56 hw) (w_23 hw) (w_58 hw) (rm49 l Z a0 hw [] a1 a2 a5 k11 h4 n0 z1 Va12 O_k11 Ex13 g_a5 Fl9 (Ne.symm ne_a5_a1) Ex6 g_a1 Ex14 Fw4 Fl7) e10 (Ls := #[.val (.ref a1), .val (.ref a2)]) (by rw [hml]; rfl) (argsL := [(.ref a2), (.ref a5), (.int (2 : Int32))]) (rest := []) (lenOf pd_5 rfl) (hb hby d7_20) (W := 0)
  obtain ⟨rfl, Nq15, K15, o15_0, o15_1, o15_2, o15_3, o15_4, o15_5⟩ := hQ15
  have N15 := Fr.app N4 Nq15
  have s1 := K15.1
  have Kp0 : Keep h0 h4 [a1, a5] := (Keep.refl h0 [a1, a5]).wr W4 (Or.inl (List.mem_of_getElem? (i := 0) rfl))
  have Kp1 : Keep h0 T15.heap [a1, a5] := Kp0.trans K15 (allS (Or.inl (List.mem_of_getElem? (i := 1) rfl)) (allS (Or.inl (List.mem_of_getElem? (i := 0) rfl)) all0))
  refine ⟨T15, _, _, _, (some (.int (1 : Int32))), X15, nofun, by decide, by decide, ?_, fun fs hr => ?_⟩
  · show Q50 Z a1 a2 a5 k11 h0 n0 _ T15.heap _
    exact ⟨rfl, N15, Kp1, o15_2, o15_3, o15_4, o15_5, o15_0, o15_1⟩
  · show Steps p.tables e below (s₁.setTop (mkF m 0 #[.val (.ref a1), .val (.ref a2)] [])) _
    refine XS.aloadN X0.here hx rfl (hb hby d7_0) rfl rfl ?_
    refine XS.dup X0.here hx rfl (hb hby d7_1) rfl rfl ?_
    refine st3 _ ?_
    refine XS.iconst X3.here hx rfl (hb hby d7_5) ?_
    refine XS.iadd X3.here hx rfl (hb hby d7_6) rfl ?_
    refine st4 _ ?_
    refine XS.aloadN X4.here hx rfl (hb hby d7_10) rfl rfl ?_
    refine XS.aloadN X4.here hx rfl (hb hby d7_11) rfl rfl ?_
    refine XS.aloadN X4.here hx rfl (hb hby d7_12) rfl rfl ?_
    refine st8 _ ?_
    refine XS.aloadN X8.here hx rfl (hb hby d7_16) rfl rfl ?_
    refine st10 _ ?_
    show Steps p.tables e below (T10.setTop (mkF m 20 #[.val (.ref a1), .val (.ref a2)] [(.int (2 : Int32)), (.ref a5), (.ref a2), (.ref a1)])) _
    refine st15 _ ?_
    refine XS.iconst X15.here hx rfl (hb hby d7_23) ?_
    exact retN X15 hx (t := .boolean) hret (by simp) (hb hby d7_24) hr
-- java/util/ArrayList.add(Ljava/lang/Object;[Ljava/lang/Object;I)V
abbrev Rm51 : Room := { frames := 0, cells := 0, slots := 0, locals := 0 }
def Q51 (Z : State) (a1 : Addr) (a2 : Addr) (a3 : Addr) (a4 : Addr) (a5 : Addr) (k6 : ClassId) (h0 : Heap) (n0 : Nat) (v : Option Value) (h : Heap) (L : List Loc) : Prop := v = none ∧ Fr n0 L ∧ Keep h0 h [a3, a1] ∧ Exa Z h a3 "[Ljava/lang/Object;" ∧ Arv Z h a3 k6 (.object "java/lang/Object") (10 : Int32) [(.ref a4), (.ref a5), (.ref a2), .null, .null, .null, .null, .null, .null, .null] .null ∧ Exa Z h a1 "java/util/ArrayList" ∧ Fld Z h a1 "java/util/AbstractList" "modCount" "I" (.int (3 : Int32)) ∧ Fld Z h a1 "java/util/ArrayList" "elementData" "[Ljava/lang/Object;" (.ref a3) ∧ Fld Z h a1 "java/util/ArrayList" "size" "I" (.int (3 : Int32))
theorem ef51 (a1 : Addr) (a2 : Addr) (a3 : Addr) (m : MethodId) : entryFrame m #[(.ref a1), (.ref a2), (.ref a3), (.int (2 : Int32))] 4 = mkF m 0 #[.val (.ref a1), .val (.ref a2), .val (.ref a3), .val (.int (2 : Int32))] [] := by first | (simp [entryFrame, mkF, argsToLocals, Value.category]; done) | rfl
theorem rm51 (l : Launch) (Z : State) (a0 : Array Value) (hw : ∀ d ∈ tables_1, d.before a0 Z = true) (ws : List Jvm.Cond) (a1 : Addr) (a2 : Addr) (a3 : Addr) (a4 : Addr) (a5 : Addr) (k6 : ClassId) (h0 : Heap) (n0 : Nat) (Z0 : n0 ≤ h0.size) (V_a3 : Arv Z h0 a3 k6 (.object "java/lang/Object") (10 : Int32) [(.ref a4), (.ref a5), .null, .null, .null, .null, .null, .null, .null, .null] .null) (O_k6 : Ovr Z k6 "java/lang/Object") (E_a2 : Exa Z h0 a2 "java/lang/Double") (g_a3 : n0 ≤ a3) (F_size_a1 : Fld Z h0 a1 "java/util/ArrayList" "size" "I" (.int (2 : Int32))) (ne_a1_a3 : a1 ≠ a3) (E_a1 : Exa Z h0 a1 "java/util/ArrayList") (g_a1 : n0 ≤ a1) (E_a3 : Exa Z h0 a3 "[Ljava/lang/Object;") (F_modCount_a1 : Fld Z h0 a1 "java/util/AbstractList" "modCount" "I" (.int (3 : Int32))) (F_elementData_a1 : Fld Z h0 a1 "java/util/ArrayList" "elementData" "[Ljava/lang/Object;" (.ref a3)) :
    OwnMet l Z y_8 jdk_38_method_24_code 4 none ws Rm51 #[(.ref a1), (.ref a2), (.ref a3), (.int (2 : Int32))] h0 (Q51 Z a1 a2 a3 a4 a5 k6 h0 n0) := by
  refine own_body (plainFor_of_name pn_4) (ef51 a1 a2 a3) ?_
  intro p e s m below meth c s₁ hx hby hml hown hnm hret hZ X0 e0
  have N0 := Fr.nil n0
  obtain ⟨cl7, Ar7, q7, S7, M7, Hs7, G7⟩ := id V_a3
  have hin8 : ¬ ((2 : Int32) < 0 ∨ cl7.slots.size ≤ ((2 : Int32)).toNatClampNeg) := inb_of S7 ⟨(by decide : ¬ ((2 : Int32) < (0 : Int32))), (by decide : (2 : Int32) < (10 : Int32))⟩
  obtain ⟨T9, h9, X9, e9, W9, st9⟩ := stR X0 hx hZ e0 Ar7 (j := (2 : Int32)) hin8 rfl (Sto.ofV Ar7 q7 O_k6 (Ins.of_exa E_a2 (w_95 hw))) (g := (mkF m 14 #[.val (.ref a1), .val (.ref a2), .val (.ref a3), .val (.int (2 : Int32))] [(.ref a2), (.int (2 : Int32)), (.ref a3)])) rfl rfl (hb hby d8_14)
  have s0 := (Keep.of_wr W9).1
  have N9 := Fr.snoc X9 N0 g_a3
  have Vs9 : Arv Z h9 a3 k6 (.object "java/lang/Object") (10 : Int32) [(.ref a4), (.ref a5), (.ref a2), .null, .null, .null, .null, .null, .null, .null] .null := Arv.set Ar7 q7 S7 M7 Hs7 G7 rfl W9 2 rfl (Nat.le_of_ble_eq_true rfl)
  have Fl10 := (F_size_a1.other W9 (Or.inl ne_a1_a3))
  have Ex11 := (E_a1.wr W9)
  obtain ⟨T12, h12, X12, e12, W12, st12⟩ := putF X9 hx hZ hown (host := "") (Or.inl (w_52 hw)) Via.refl e9 Fl10 Ex11 (Or.inl (w_53 hw)) (w_22 hw) (ty := .int) (by decide) rfl rfl (g := (mkF m 19 #[.val (.ref a1), .val (.ref a2), .val (.ref a3), .val (.int (2 : Int32))] [(.int (3 : Int32)), (.ref a1)])) rfl rfl (hb hby d8_19)
  have s1 := (Keep.of_wr W12).1
  have N12 := Fr.snoc X12 N9 g_a1
  have Fw12 : Fld Z h12 a1 "java/util/ArrayList" "size" "I" (.int (3 : Int32)) := Fl10.same W12
  have Ex13 := ((E_a3.wr W9).wr W12)
  have Va14 := (Vs9.other W12 (Ne.symm ne_a1_a3))
  have Ex15 := (Ex11.wr W12)
  have Fl16 := ((F_modCount_a1.other W9 (Or.inl ne_a1_a3)).other W12 (Or.inr (slot_ne (Or.inl (w_41 hw)) (Or.inl (w_53 hw)) (by decide) (t := .int) (t' := .int) (by decide) (by decide))))
  have Fl17 := ((F_elementData_a1.other W9 (Or.inl ne_a1_a3)).other W12 (Or.inr (slot_ne (Or.inl (w_44 hw)) (Or.inl (w_53 hw)) (by decide) (t := (.array (.object "java/lang/Object"))) (t' := .int) (by decide) (by decide))))
  have Kp0 : Keep h0 h9 [a3, a1] := (Keep.refl h0 [a3, a1]).wr W9 (Or.inl (List.mem_of_getElem? (i := 0) rfl))
  have Kp1 : Keep h0 h12 [a3, a1] := Kp0.wr W12 (Or.inl (List.mem_of_getElem? (i := 1) rfl))
  refine ⟨T12, _, _, _, none, X12, (fun _ => rfl), by decide, by decide, ?_, fun fs hr => ?_⟩
  · show Q51 Z a1 a2 a3 a4 a5 k6 h0 n0 _ T12.heap _
    rw [e12]
    exact ⟨rfl, N12, Kp1, Ex13, Va14, Ex15, Fl16, Fl17, Fw12⟩
  · show Steps p.tables e below (s₁.setTop (mkF m 0 #[.val (.ref a1), .val (.ref a2), .val (.ref a3), .val (.int (2 : Int32))] [])) _
    refine XS.iloadN X0.here hx rfl (hb hby d8_0) rfl ?_
    refine XS.aloadN X0.here hx rfl (hb hby d8_1) rfl rfl ?_
    refine X0.arraylength hx (by rw [e0]; exact Ar7.1) (State.isArrayOf_alike hZ.alike Ar7.2.1) (g := (mkF m 2 #[.val (.ref a1), .val (.ref a2), .val (.ref a3), .val (.int (2 : Int32))] [(.ref a3), (.int (2 : Int32))])) rfl rfl (hb hby d8_2) _ ?_
    show Steps p.tables e below (s₁.setTop (mkF m 3 #[.val (.ref a1), .val (.ref a2), .val (.ref a3), .val (.int (2 : Int32))] [(.int cl7.slots.size.toInt32), (.int (2 : Int32))])) _
    rw [len_of S7 M7]
    refine XS.icmpYes X0.here hx rfl (pc0 := 3) (pc' := 11) rfl (hb hby d8_3) rfl (feq ((by decide : ¬ ((2 : Int32) = (10 : Int32))) : ¬ ((2 : Int32) = (10 : Int32)))).2 (by decide) (by decide) ?_
    refine XS.aloadN X0.here hx rfl (hb hby d8_11) rfl rfl ?_
    refine XS.iloadN X0.here hx rfl (hb hby d8_12) rfl ?_
    refine XS.aloadN X0.here hx rfl (hb hby d8_13) rfl rfl ?_
    refine st9 _ ?_
    refine XS.aloadN X9.here hx rfl (hb hby d8_15) rfl rfl ?_
    refine XS.iloadN X9.here hx rfl (hb hby d8_16) rfl ?_
    refine XS.iconst X9.here hx rfl (hb hby d8_17) ?_
    refine XS.iadd X9.here hx rfl (hb hby d8_18) rfl ?_
    refine st12 _ ?_
    exact X12.returnOut hx hret (hb hby d8_22) hr
-- java/util/ArrayList.add(Ljava/lang/Object;)Z
abbrev Rm52 : Room := { frames := 1, cells := 0, slots := 0, locals := 15 }
def Q52 (Z : State) (a1 : Addr) (a2 : Addr) (a5 : Addr) (a11 : Addr) (a12 : Addr) (k13 : ClassId) (h0 : Heap) (n0 : Nat) (v : Option Value) (h : Heap) (L : List Loc) : Prop := v = some (.int (1 : Int32)) ∧ Fr n0 L ∧ Keep h0 h [a1, a5] ∧ Exa Z h a1 "java/util/ArrayList" ∧ Fld Z h a1 "java/util/AbstractList" "modCount" "I" (.int (3 : Int32)) ∧ Fld Z h a1 "java/util/ArrayList" "elementData" "[Ljava/lang/Object;" (.ref a5) ∧ Fld Z h a1 "java/util/ArrayList" "size" "I" (.int (3 : Int32)) ∧ Exa Z h a5 "[Ljava/lang/Object;" ∧ Arv Z h a5 k13 (.object "java/lang/Object") (10 : Int32) [(.ref a11), (.ref a12), (.ref a2), .null, .null, .null, .null, .null, .null, .null] .null
theorem ef52 (a1 : Addr) (a2 : Addr) (m : MethodId) : entryFrame m #[(.ref a1), (.ref a2)] 2 = mkF m 0 #[.val (.ref a1), .val (.ref a2)] [] := by first | (simp [entryFrame, mkF, argsToLocals, Value.category]; done) | rfl
theorem rm52 (l : Launch) (Z : State) (a0 : Array Value) (hw : ∀ d ∈ tables_1, d.before a0 Z = true) (ws : List Jvm.Cond) (a1 : Addr) (a2 : Addr) (a5 : Addr) (a11 : Addr) (a12 : Addr) (k13 : ClassId) (h0 : Heap) (n0 : Nat) (Z0 : n0 ≤ h0.size) (F_modCount_a1 : Fld Z h0 a1 "java/util/AbstractList" "modCount" "I" (.int (2 : Int32))) (E_a1 : Exa Z h0 a1 "java/util/ArrayList") (g_a1 : n0 ≤ a1) (F_elementData_a1 : Fld Z h0 a1 "java/util/ArrayList" "elementData" "[Ljava/lang/Object;" (.ref a5)) (F_size_a1 : Fld Z h0 a1 "java/util/ArrayList" "size" "I" (.int (2 : Int32))) (V_a5 : Arv Z h0 a5 k13 (.object "java/lang/Object") (10 : Int32) [(.ref a11), (.ref a12), .null, .null, .null, .null, .null, .null, .null, .null] .null) (ne_a5_a1 : a5 ≠ a1) (O_k13 : Ovr Z k13 "java/lang/Object") (E_a2 : Exa Z h0 a2 "java/lang/Double") (g_a5 : n0 ≤ a5) (E_a5 : Exa Z h0 a5 "[Ljava/lang/Object;") :
    OwnMet l Z y_9 jdk_38_method_25_code 2 (some .boolean) ws Rm52 #[(.ref a1), (.ref a2)] h0 (Q52 Z a1 a2 a5 a11 a12 k13 h0 n0) := by
  refine own_body (plainFor_of_name pn_4) (ef52 a1 a2) ?_
  intro p e s m below meth c s₁ hx hby hml hown hnm hret hZ X0 e0
  have N0 := Fr.nil n0
  obtain ⟨T3, X3, e3, st3⟩ := getF X0 hx hZ hown (host := "") (Or.inl (w_50 hw)) (Via.of (w_51 hw)) e0 F_modCount_a1 (g := (mkF m 2 #[.val (.ref a1), .val (.ref a2)] [(.ref a1), (.ref a1)])) rfl rfl (hb hby d7_2)
  obtain ⟨T4, h4, X4, e4, W4, st4⟩ := putF X3 hx hZ hown (host := "") (Or.inl (w_50 hw)) (Via.of (w_51 hw)) e3 F_modCount_a1 E_a1 (Or.inl (w_41 hw)) (w_22 hw) (ty := .int) (by decide) rfl rfl (g := (mkF m 7 #[.val (.ref a1), .val (.ref a2)] [(.int (3 : Int32)), (.ref a1)])) rfl rfl (hb hby d7_7)
  have s0 := (Keep.of_wr W4).1
  have N4 := Fr.snoc X4 N0 g_a1
  have Fw4 : Fld Z h4 a1 "java/util/AbstractList" "modCount" "I" (.int (3 : Int32)) := F_modCount_a1.same W4
  have Ex6 := (E_a1.wr W4)
  have Fl7 := (F_elementData_a1.other W4 (Or.inr (slot_ne (Or.inl (w_44 hw)) (Or.inl (w_41 hw)) (by decide) (t := (.array (.object "java/lang/Object"))) (t' := .int) (by decide) (by decide))))
  obtain ⟨T8, X8, e8, st8⟩ := getF X4 hx hZ hown (host := "") (Or.inl (w_43 hw)) Via.refl e4 Fl7 (g := (mkF m 13 #[.val (.ref a1), .val (.ref a2)] [(.ref a1), (.ref a2), (.ref a1)])) rfl rfl (hb hby d7_13)
  have Fl9 := (F_size_a1.other W4 (Or.inr (slot_ne (Or.inl (w_53 hw)) (Or.inl (w_41 hw)) (by decide) (t := .int) (t' := .int) (by decide) (by decide))))
  obtain ⟨T10, X10, e10, st10⟩ := getF X8 hx hZ hown (host := "") (Or.inl (w_52 hw)) Via.refl e8 Fl9 (g := (mkF m 17 #[.val (.ref a1), .val (.ref a2)] [(.ref a1), (.ref a5), (.ref a2), (.ref a1)])) rfl rfl (hb hby d7_17)
  have Va14 := (V_a5.other W4 ne_a5_a1)
  have Ex15 := (E_a2.wr W4)
  have Ex16 := (E_a5.wr W4)
  have z1 := Nat.le_trans Z0 s0
  obtain ⟨_, T17, L17, X17, hQ17, st17⟩ := own_private X10 hx hZ hown (y := y_8) Ex6 (w_54 hw) (w_55 hw) (mvT hZ (w_57 hw)) (w_56 hw) (w_23 hw) (w_58 hw) (rm51 l Z a0 hw [] a1 a2 a5 a11 a12 k13 h4 n0 z1 Va14 O_k13 Ex15 g_a5 Fl9 (Ne.symm ne_a5_a1) Ex6 g_a1 Ex16 Fw4 Fl7) e10 (Ls := #[.val (.ref a1), .val (.ref a2)]) (by rw [hml]; rfl) (argsL := [(.ref a2), (.ref a5), (.int (2 : Int32))]) (rest := []) (lenOf pd_5 rfl) (hb hby d7_20) (W := 0)
  obtain ⟨rfl, Nq17, K17, o17_0, o17_1, o17_2, o17_3, o17_4, o17_5⟩ := hQ17
  have N17 := Fr.app N4 Nq17
  have s1 := K17.1
  have Kp0 : Keep h0 h4 [a1, a5] := (Keep.refl h0 [a1, a5]).wr W4 (Or.inl (List.mem_of_getElem? (i := 0) rfl))
  have Kp1 : Keep h0 T17.heap [a1, a5] := Kp0.trans K17 (allS (Or.inl (List.mem_of_getElem? (i := 1) rfl)) (allS (Or.inl (List.mem_of_getElem? (i := 0) rfl)) all0))
  refine ⟨T17, _, _, _, (some (.int (1 : Int32))), X17, nofun, by decide, by decide, ?_, fun fs hr => ?_⟩
  · show Q52 Z a1 a2 a5 a11 a12 k13 h0 n0 _ T17.heap _
    exact ⟨rfl, N17, Kp1, o17_2, o17_3, o17_4, o17_5, o17_0, o17_1⟩
  · show Steps p.tables e below (s₁.setTop (mkF m 0 #[.val (.ref a1), .val (.ref a2)] [])) _
    refine XS.aloadN X0.here hx rfl (hb hby d7_0) rfl rfl ?_
    refine XS.dup X0.here hx rfl (hb hby d7_1) rfl rfl ?_
    refine st3 _ ?_
    refine XS.iconst X3.here hx rfl (hb hby d7_5) ?_
    refine XS.iadd X3.here hx rfl (hb hby d7_6) rfl ?_
    refine st4 _ ?_
    refine XS.aloadN X4.here hx rfl (hb hby d7_10) rfl rfl ?_
    refine XS.aloadN X4.here hx rfl (hb hby d7_11) rfl rfl ?_
    refine XS.aloadN X4.here hx rfl (hb hby d7_12) rfl rfl ?_
    refine st8 _ ?_
    refine XS.aloadN X8.here hx rfl (hb hby d7_16) rfl rfl ?_
    refine st10 _ ?_
    show Steps p.tables e below (T10.setTop (mkF m 20 #[.val (.ref a1), .val (.ref a2)] [(.int (2 : Int32)), (.ref a5), (.ref a2), (.ref a1)])) _
    refine st17 _ ?_
    refine XS.iconst X17.here hx rfl (hb hby d7_23) ?_
    exact retN X17 hx (t := .boolean) hret (by simp) (hb hby d7_24) hr
-- java/util/ArrayList.size()I
abbrev Rm53 : Room := { frames := 0, cells := 0, slots := 0, locals := 0 }
def Q53 (Z : State) (a1 : Addr) (h0 : Heap) (n0 : Nat) (v : Option Value) (h : Heap) (L : List Loc) : Prop := v = some (.int (3 : Int32)) ∧ Fr n0 L ∧ h = h0
theorem ef53 (a1 : Addr) (m : MethodId) : entryFrame m #[(.ref a1)] 1 = mkF m 0 #[.val (.ref a1)] [] := by first | (simp [entryFrame, mkF, argsToLocals, Value.category]; done) | rfl
theorem rm53 (l : Launch) (Z : State) (a0 : Array Value) (hw : ∀ d ∈ tables_1, d.before a0 Z = true) (ws : List Jvm.Cond) (a1 : Addr) (h0 : Heap) (n0 : Nat) (Z0 : n0 ≤ h0.size) (F_size_a1 : Fld Z h0 a1 "java/util/ArrayList" "size" "I" (.int (3 : Int32))) :
    OwnMet l Z y_13 jdk_38_method_8_code 1 (some .int) ws Rm53 #[(.ref a1)] h0 (Q53 Z a1 h0 n0) := by
  refine own_body (plainFor_of_name pn_4) (ef53 a1) ?_
  intro p e s m below meth c s₁ hx hby hml hown hnm hret hZ X0 e0
  have N0 := Fr.nil n0
  obtain ⟨T2, X2, e2, st2⟩ := getF X0 hx hZ hown (host := "") (Or.inl (w_52 hw)) Via.refl e0 F_size_a1 (g := (mkF m 1 #[.val (.ref a1)] [(.ref a1)])) rfl rfl (hb hby d16_1)
  refine ⟨T2, _, _, _, (some (.int (3 : Int32))), X2, nofun, by decide, by decide, ?_, fun fs hr => ?_⟩
  · show Q53 Z a1 h0 n0 _ T2.heap _
    rw [e2]
    exact ⟨rfl, N0, rfl⟩
  · show Steps p.tables e below (s₁.setTop (mkF m 0 #[.val (.ref a1)] [])) _
    refine XS.aloadN X0.here hx rfl (hb hby d16_0) rfl rfl ?_
    refine st2 _ ?_
    exact retI X2 hx hret (hb hby d16_4) hr
-- java/util/ArrayList.isEmpty()Z
abbrev Rm54 : Room := { frames := 0, cells := 0, slots := 0, locals := 0 }
def Q54 (Z : State) (a1 : Addr) (h0 : Heap) (n0 : Nat) (v : Option Value) (h : Heap) (L : List Loc) : Prop := v = some (.int (0 : Int32)) ∧ Fr n0 L ∧ h = h0
theorem ef54 (a1 : Addr) (m : MethodId) : entryFrame m #[(.ref a1)] 1 = mkF m 0 #[.val (.ref a1)] [] := by first | (simp [entryFrame, mkF, argsToLocals, Value.category]; done) | rfl
theorem rm54 (l : Launch) (Z : State) (a0 : Array Value) (hw : ∀ d ∈ tables_1, d.before a0 Z = true) (ws : List Jvm.Cond) (a1 : Addr) (h0 : Heap) (n0 : Nat) (Z0 : n0 ≤ h0.size) (F_size_a1 : Fld Z h0 a1 "java/util/ArrayList" "size" "I" (.int (3 : Int32))) :
    OwnMet l Z y_15 jdk_38_method_9_code 1 (some .boolean) ws Rm54 #[(.ref a1)] h0 (Q54 Z a1 h0 n0) := by
  refine own_body (plainFor_of_name pn_4) (ef54 a1) ?_
  intro p e s m below meth c s₁ hx hby hml hown hnm hret hZ X0 e0
  have N0 := Fr.nil n0
  obtain ⟨T2, X2, e2, st2⟩ := getF X0 hx hZ hown (host := "") (Or.inl (w_52 hw)) Via.refl e0 F_size_a1 (g := (mkF m 1 #[.val (.ref a1)] [(.ref a1)])) rfl rfl (hb hby d19_1)
  refine ⟨T2, _, _, _, (some (.int (0 : Int32))), X2, nofun, by decide, by decide, ?_, fun fs hr => ?_⟩
  · show Q54 Z a1 h0 n0 _ T2.heap _
    rw [e2]
    exact ⟨rfl, N0, rfl⟩
  · show Steps p.tables e below (s₁.setTop (mkF m 0 #[.val (.ref a1)] [])) _
    refine XS.aloadN X0.here hx rfl (hb hby d19_0) rfl rfl ?_
    refine st2 _ ?_
    refine XS.ifYes X2.here hx rfl (pc0 := 4) (pc' := 11) rfl (hb hby d19_4) rfl ((if0 _ _).trans (feq ((by decide : ¬ ((3 : Int32) = (0 : Int32))) : ¬ ((3 : Int32) = (0 : Int32)))).2) (by decide) (by decide) ?_
    refine XS.iconst X2.here hx rfl (hb hby d19_11) ?_
    exact retN X2 hx (t := .boolean) hret (by simp) (hb hby d19_12) hr
-- java/lang/Math.min(II)I
abbrev Rm55 : Room := { frames := 0, cells := 0, slots := 0, locals := 0 }
def Q55 (Z : State)  (h0 : Heap) (n0 : Nat) (v : Option Value) (h : Heap) (L : List Loc) : Prop := v = some (.int (3 : Int32)) ∧ Fr n0 L ∧ h = h0
theorem ef55  (m : MethodId) : entryFrame m #[(.int (10 : Int32)), (.int (3 : Int32))] 2 = mkF m 0 #[.val (.int (10 : Int32)), .val (.int (3 : Int32))] [] := by first | (simp [entryFrame, mkF, argsToLocals, Value.category]; done) | rfl
theorem rm55 (l : Launch) (Z : State) (a0 : Array Value) (hw : ∀ d ∈ tables_1, d.before a0 Z = true) (ws : List Jvm.Cond)  (h0 : Heap) (n0 : Nat) (Z0 : n0 ≤ h0.size) :
    OwnMet l Z y_17 jdk_29_method_69_code 2 (some .int) ws Rm55 #[(.int (10 : Int32)), (.int (3 : Int32))] h0 (Q55 Z  h0 n0) := by
  refine own_body (Jvm.Free.JP.mathPlain rfl (by decide +kernel)) (ef55) ?_
  intro p e s m below meth c s₁ hx hby hml hown hnm hret hZ X0 e0
  have N0 := Fr.nil n0
  refine ⟨s₁, _, _, _, (some (.int (3 : Int32))), X0, nofun, by decide, by decide, ?_, fun fs hr => ?_⟩
  · show Q55 Z  h0 n0 _ s₁.heap _
    rw [e0]
    exact ⟨rfl, N0, rfl⟩
  · show Steps p.tables e below (s₁.setTop (mkF m 0 #[.val (.int (10 : Int32)), .val (.int (3 : Int32))] [])) _
    refine XS.iloadN X0.here hx rfl (hb hby d23_0) rfl ?_
    refine XS.iloadN X0.here hx rfl (hb hby d23_1) rfl ?_
    refine XS.icmpYes X0.here hx rfl (pc0 := 2) (pc' := 9) rfl (hb hby d23_2) rfl (tlt ((by decide : (3 : Int32) < (10 : Int32)) : (3 : Int32) < (10 : Int32))).2.2.1 (by decide) (by decide) ?_
    refine XS.iloadN X0.here hx rfl (hb hby d23_9) rfl ?_
    exact retI X0 hx hret (hb hby d23_10) hr
-- java/util/Arrays.copyOf([Ljava/lang/Object;ILjava/lang/Class;)[Ljava/lang/Object;
abbrev Rm56 : Room := { frames := 1, cells := 1, slots := 3, locals := 18 }
def Q56 (Z : State) (a1 : Addr) (a2 : Addr) (a5 : Addr) (k6 : ClassId) (h0 : Heap) (n0 : Nat) (v : Option Value) (h : Heap) (L : List Loc) : Prop := ∃ b4 : Addr, ∃ k4 : ClassId, v = some (.ref b4) ∧ Fr n0 L ∧ Keep h0 h [] ∧ h0.size ≤ b4 ∧ Exa Z h b4 "[Ljava/lang/Object;" ∧ Ovr Z k4 "java/lang/Object" ∧ Arv Z h b4 k4 (.object "java/lang/Object") (3 : Int32) [(.ref a5), (.ref a5), (.ref a5)] .null
theorem ef56 (a1 : Addr) (a2 : Addr) (m : MethodId) : entryFrame m #[(.ref a1), (.int (3 : Int32)), (.ref a2)] 4 = mkF m 0 #[.val (.ref a1), .val (.int (3 : Int32)), .val (.ref a2), .unset] [] := by first | (simp [entryFrame, mkF, argsToLocals, Value.category]; done) | rfl
theorem rm56 (l : Launch) (Z : State) (a0 : Array Value) (hw : ∀ d ∈ tables_1, d.before a0 Z = true) (ws : List Jvm.Cond) (a1 : Addr) (a2 : Addr) (a5 : Addr) (k6 : ClassId) (h0 : Heap) (n0 : Nat) (Z0 : n0 ≤ h0.size) (M_1 : OwnMir Z "[Ljava/lang/Object;" a2) (V_a1 : Arv Z h0 a1 k6 (.object "java/lang/Object") (10 : Int32) [(.ref a5), (.ref a5), (.ref a5), .null, .null, .null, .null, .null, .null, .null] .null) (E_a5 : Exa Z h0 a5 "com/example/feedergen/feedergen/core/StopCandidate") :
    OwnMet l Z y_18 jdk_65_method_120_code 4 (some (.array (.object "java/lang/Object"))) ws Rm56 #[(.ref a1), (.int (3 : Int32)), (.ref a2)] h0 (Q56 Z a1 a2 a5 k6 h0 n0) := by
  refine own_body (plainFor_of_name pn_7) (ef56 a1 a2) ?_
  intro p e s m below meth c s₁ hx hby hml hown hnm hret hZ X0 e0
  have N0 := Fr.nil n0
  obtain ⟨T3, X3, e3, st3⟩ := own_ldcM X0 hx hZ hown (w_156 hw) M_1 e0 (g := (mkF m 1 #[.val (.ref a1), .val (.int (3 : Int32)), .val (.ref a2), .unset] [(.ref a2)])) rfl (hb hby d22_1)
  obtain ⟨T4, h4, k4, X4, e4, E4, A4, B4, O4, st4⟩ := newRE X3 hx hZ hown (w_157 hw) (w_74 hw) e3 (g := (mkF m 7 #[.val (.ref a1), .val (.int (3 : Int32)), .val (.ref a2), .unset] [(.int (3 : Int32))])) rfl (hb hby d22_7) rfl (by decide) (cap := 3) (by decide) (by decide) (by decide) (by decide) (ad := "[Ljava/lang/Object;") (by decide)
  obtain ⟨b4, g4⟩ : ∃ z, z = h0.size := ⟨_, rfl⟩
  rw [← g4] at A4 B4 st4
  have s0 := E4.1
  have Vn4 : Arv Z h4 b4 k4 (.object "java/lang/Object") (3 : Int32) [.null, .null, .null] .null := (Arv.new A4 (by decide)).pad (pad_rep [] .null 3)
  have Va7 := (V_a1.ext E4)
  obtain ⟨cl8, Ar8, q8, S8, M8, Hs8, G8⟩ := id Va7
  have z1 := Nat.le_trans Z0 s0
  obtain ⟨_, T9, L9, X9, hQ9, st9⟩ := own_callS X4 hx hZ hown (y := y_17) (w_158 hw) (w_159 hw) (w_71 hw) (w_160 hw) (rm55 l Z a0 hw []  h4 n0 z1) e4 (Ls := #[.val (.ref a1), .val (.int (3 : Int32)), .val (.ref a2), .val (.ref b4)]) (by rw [hml]; rfl) (argsL := [(.int (10 : Int32)), (.int (3 : Int32))]) (rest := [(.int (0 : Int32)), (.ref b4), (.int (0 : Int32)), (.ref a1)]) (lenOf pd_2 rfl) (hb hby d22_32) (W := 4)
  obtain ⟨rfl, Nq9, e9⟩ := hQ9
  have N9 := Fr.app N0 Nq9
  obtain ⟨cl10, Ar10, q10, S10, M10, Hs10, G10⟩ := id Vn4
  have Ex11 := (E_a5.ext E4)
  have g_b4 : n0 ≤ b4 := Nat.le_trans Z0 (Nat.le_of_eq g4.symm)
  obtain ⟨T12, h12, L12, X12, e12, N12, K12, V12, st12⟩ := cpA X9 hx hZ hown (w_161 hw) (w_164 hw) (w_162 hw) (w_163 hw) e9 Va7 Vn4 (us := [(.ref a5), (.ref a5), (.ref a5)]) (Or.inr ⟨rfl, rfl, ⟨(Sto.ofV Ar10 q10 O4 (Ins.of_exa Ex11 (w_75 hw))), ⟨(Sto.ofV Ar10 q10 O4 (Ins.of_exa Ex11 (w_75 hw))), ⟨(Sto.ofV Ar10 q10 O4 (Ins.of_exa Ex11 (w_75 hw))), trivial⟩⟩⟩⟩) (by decide) (by decide) (by decide) (by decide) (by decide) (by rfl) (by decide) N9 g_b4 (g := (mkF m 35 #[.val (.ref a1), .val (.int (3 : Int32)), .val (.ref a2), .val (.ref b4)] [(.int (3 : Int32)), (.int (0 : Int32)), (.ref b4), (.int (0 : Int32)), (.ref a1)])) rfl (by rw [hml]; rfl) rfl (hb hby d22_35) (by decide) (W := 0) (by show 2 * 0 + _ ≤ _; exact Nat.le_of_eq rfl) (by decide)
  have s1 := K12.1
  have Vc12 : Arv Z h12 b4 k4 (.object "java/lang/Object") (3 : Int32) [(.ref a5), (.ref a5), (.ref a5)] .null := V12
  have sz_b4 : h0.size ≤ b4 := (Nat.le_of_eq g4.symm)
  have Ex13 := (B4.keep K12)
  have Kp0 : Keep h0 h4 [] := (Keep.refl h0 []).ext E4
  have Kp1 : Keep h0 h12 [] := Kp0.trans K12 (allS (Or.inr sz_b4) all0)
  refine ⟨T12, _, _, _, (some (.ref b4)), X12, nofun, by decide, by decide, ?_, fun fs hr => ?_⟩
  · show Q56 Z a1 a2 a5 k6 h0 n0 _ T12.heap _
    rw [e12]
    exact ⟨b4, k4, rfl, N12, Kp1, sz_b4, Ex13, O4, Vc12⟩
  · show Steps p.tables e below (s₁.setTop (mkF m 0 #[.val (.ref a1), .val (.int (3 : Int32)), .val (.ref a2), .unset] [])) _
    refine XS.aloadN X0.here hx rfl (hb hby d22_0) rfl rfl ?_
    refine st3 _ ?_
    refine Jvm.RoadKit.acmp (g := (mkF m 3 #[.val (.ref a1), .val (.int (3 : Int32)), .val (.ref a2), .unset] [(.ref a2), (.ref a2)])) X3 hx rfl rfl rfl (pc0 := 3) (pc' := 6) (same := true) rfl (hb hby d22_3) rfl (decide_eq_true rfl) (by decide) (by decide) ?_
    refine XS.iloadN X3.here hx rfl (hb hby d22_6) rfl ?_
    refine st4 _ ?_
    refine XS.goto X4.here hx rfl (pc0 := 10) (pc' := 24) rfl (hb hby d22_10) (by decide) (by decide) ?_
    refine XS.astoreN X4.here hx rfl (hb hby d22_24) rfl rfl (l' := #[.val (.ref a1), .val (.int (3 : Int32)), .val (.ref a2), .val (.ref b4)]) rfl ?_
    refine XS.aloadN X4.here hx rfl (hb hby d22_25) rfl rfl ?_
    refine XS.iconst X4.here hx rfl (hb hby d22_26) ?_
    refine XS.aloadN X4.here hx rfl (hb hby d22_27) rfl rfl ?_
    refine XS.iconst X4.here hx rfl (hb hby d22_28) ?_
    refine XS.aloadN X4.here hx rfl (hb hby d22_29) rfl rfl ?_
    show Steps p.tables e below (T4.setTop (mkF m 30 #[.val (.ref a1), .val (.int (3 : Int32)), .val (.ref a2), .val (.ref b4)] [(.ref a1), (.int (0 : Int32)), (.ref b4), (.int (0 : Int32)), (.ref a1)])) _
    refine X4.arraylength hx (by rw [e4]; exact Ar8.1) (State.isArrayOf_alike hZ.alike Ar8.2.1) (g := (mkF m 30 #[.val (.ref a1), .val (.int (3 : Int32)), .val (.ref a2), .val (.ref b4)] [(.ref a1), (.int (0 : Int32)), (.ref b4), (.int (0 : Int32)), (.ref a1)])) rfl rfl (hb hby d22_30) _ ?_
    show Steps p.tables e below (T4.setTop (mkF m 31 #[.val (.ref a1), .val (.int (3 : Int32)), .val (.ref a2), .val (.ref b4)] [(.int cl8.slots.size.toInt32), (.int (0 : Int32)), (.ref b4), (.int (0 : Int32)), (.ref a1)])) _
    rw [len_of S8 M8]
    refine XS.iloadN X4.here hx rfl (hb hby d22_31) rfl ?_
    refine st9 _ ?_
    refine st12 _ ?_
    refine XS.aloadN X12.here hx rfl (hb hby d22_38) rfl rfl ?_
    exact retOut X12 hx hret rfl (Or.inr (Or.inr (Or.inr (Or.inr ⟨rfl, rfl, rfl⟩)))) (hb hby d22_39) hr
-- java/util/Arrays.copyOf([Ljava/lang/Object;I)[Ljava/lang/Object;
abbrev Rm57 : Room := { frames := 2, cells := 1, slots := 3, locals := 33 }
def Q57 (Z : State) (a1 : Addr) (a2 : Addr) (a4 : Addr) (k5 : ClassId) (h0 : Heap) (n0 : Nat) (v : Option Value) (h : Heap) (L : List Loc) : Prop := ∃ b6_b4 : Addr, ∃ k6_k4 : ClassId, v = some (.ref b6_b4) ∧ Fr n0 L ∧ Keep h0 h [] ∧ h0.size ≤ b6_b4 ∧ Exa Z h b6_b4 "[Ljava/lang/Object;" ∧ Ovr Z k6_k4 "java/lang/Object" ∧ Arv Z h b6_b4 k6_k4 (.object "java/lang/Object") (3 : Int32) [(.ref a4), (.ref a4), (.ref a4)] .null
theorem ef57 (a1 : Addr) (m : MethodId) : entryFrame m #[(.ref a1), (.int (3 : Int32))] 2 = mkF m 0 #[.val (.ref a1), .val (.int (3 : Int32))] [] := by first | (simp [entryFrame, mkF, argsToLocals, Value.category]; done) | rfl
theorem rm57 (l : Launch) (Z : State) (a0 : Array Value) (hw : ∀ d ∈ tables_1, d.before a0 Z = true) (ws : List Jvm.Cond) (a1 : Addr) (a2 : Addr) (a4 : Addr) (k5 : ClassId) (h0 : Heap) (n0 : Nat) (Z0 : n0 ≤ h0.size) (E_a1 : Exa Z h0 a1 "[Ljava/lang/Object;") (M_1 : OwnMir Z "[Ljava/lang/Object;" a2) (V_a1 : Arv Z h0 a1 k5 (.object "java/lang/Object") (10 : Int32) [(.ref a4), (.ref a4), (.ref a4), .null, .null, .null, .null, .null, .null, .null] .null) (E_a4 : Exa Z h0 a4 "com/example/feedergen/feedergen/core/StopCandidate") :
    OwnMet l Z y_19 jdk_65_method_119_code 2 (some (.array (.object "java/lang/Object"))) ws Rm57 #[(.ref a1), (.int (3 : Int32))] h0 (Q57 Z a1 a2 a4 k5 h0 n0) := by
  refine own_body (plainFor_of_name pn_7) (ef57 a1) ?_
  intro p e s m below meth c s₁ hx hby hml hown hnm hret hZ X0 e0
  have N0 := Fr.nil n0
  obtain ⟨T3, X3, e3, st3⟩ := own_gcls X0 hx hZ hown (w_147 hw) (w_148 hw) (w_124 hw) (w_150 hw) (w_149 hw) (w_151 hw) e0 E_a1 M_1 (g := (mkF m 3 #[.val (.ref a1), .val (.int (3 : Int32))] [(.ref a1), (.int (3 : Int32)), (.ref a1)])) rfl (by rw [hml]; rfl) rfl (hb hby d21_3) (by decide) (W := 2) (by show 2 * 0 + _ ≤ _; exact Nat.le_of_eq rfl) (by decide)
  obtain ⟨_, T6, L6, X6, hQ6, st6⟩ := own_callS X3 hx hZ hown (y := y_18) (w_153 hw) (w_154 hw) (w_145 hw) (w_155 hw) (rm56 l Z a0 hw [] a1 a2 a4 k5 h0 n0 Z0 M_1 V_a1 E_a4) e3 (Ls := #[.val (.ref a1), .val (.int (3 : Int32))]) (by rw [hml]; rfl) (argsL := [(.ref a1), (.int (3 : Int32)), (.ref a2)]) (rest := []) (lenOf pd_11 rfl) (hb hby d21_6) (W := 0)
  obtain ⟨b6_b4, k6_k4, rfl, Nq6, K6, o6_0, o6_1, o6_2, o6_3⟩ := hQ6
  have N6 := Fr.app N0 Nq6
  have s0 := K6.1
  have sz_b6_b4 : h0.size ≤ b6_b4 := o6_0
  have Kp0 : Keep h0 T6.heap [] := (Keep.refl h0 []).trans K6 all0
  refine ⟨T6, _, _, _, (some (.ref b6_b4)), X6, nofun, by decide, by decide, ?_, fun fs hr => ?_⟩
  · show Q57 Z a1 a2 a4 k5 h0 n0 _ T6.heap _
    exact ⟨b6_b4, k6_k4, rfl, N6, Kp0, sz_b6_b4, o6_1, o6_2, o6_3⟩
  · show Steps p.tables e below (s₁.setTop (mkF m 0 #[.val (.ref a1), .val (.int (3 : Int32))] [])) _
    refine XS.aloadN X0.here hx rfl (hb hby d21_0) rfl rfl ?_
    refine XS.iloadN X0.here hx rfl (hb hby d21_1) rfl ?_
    refine XS.aloadN X0.here hx rfl (hb hby d21_2) rfl rfl ?_
    refine st3 _ ?_
    refine st6 _ ?_
    exact retOut X6 hx hret rfl (Or.inr (Or.inr (Or.inr (Or.inr ⟨rfl, rfl, rfl⟩)))) (hb hby d21_9) hr
-- java/util/ArrayList.toArray()[Ljava/lang/Object;
abbrev Rm58 : Room := { frames := 3, cells := 1, slots := 3, locals := 46 }
def Q58 (Z : State) (a1 : Addr) (a2 : Addr) (a5 : Addr) (a6 : Addr) (k7 : ClassId) (h0 : Heap) (n0 : Nat) (v : Option Value) (h : Heap) (L : List Loc) : Prop := ∃ b8_b6_b4 : Addr, ∃ k8_k6_k4 : ClassId, v = some (.ref b8_b6_b4) ∧ Fr n0 L ∧ Keep h0 h [] ∧ h0.size ≤ b8_b6_b4 ∧ Exa Z h b8_b6_b4 "[Ljava/lang/Object;" ∧ Ovr Z k8_k6_k4 "java/lang/Object" ∧ Arv Z h b8_b6_b4 k8_k6_k4 (.object "java/lang/Object") (3 : Int32) [(.ref a6), (.ref a6), (.ref a6)] .null
theorem ef58 (a1 : Addr) (m : MethodId) : entryFrame m #[(.ref a1)] 1 = mkF m 0 #[.val (.ref a1)] [] := by first | (simp [entryFrame, mkF, argsToLocals, Value.category]; done) | rfl
theorem rm58 (l : Launch) (Z : State) (a0 : Array Value) (hw : ∀ d ∈ tables_1, d.before a0 Z = true) (ws : List Jvm.Cond) (a1 : Addr) (a2 : Addr) (a5 : Addr) (a6 : Addr) (k7 : ClassId) (h0 : Heap) (n0 : Nat) (Z0 : n0 ≤ h0.size) (F_elementData_a1 : Fld Z h0 a1 "java/util/ArrayList" "elementData" "[Ljava/lang/Object;" (.ref a2)) (F_size_a1 : Fld Z h0 a1 "java/util/ArrayList" "size" "I" (.int (3 : Int32))) (E_a2 : Exa Z h0 a2 "[Ljava/lang/Object;") (M_1 : OwnMir Z "[Ljava/lang/Object;" a5) (V_a2 : Arv Z h0 a2 k7 (.object "java/lang/Object") (10 : Int32) [(.ref a6), (.ref a6), (.ref a6), .null, .null, .null, .null, .null, .null, .null] .null) (E_a6 : Exa Z h0 a6 "com/example/feedergen/feedergen/core/StopCandidate") :
    OwnMet l Z y_20 jdk_38_method_16_code 1 (some (.array (.object "java/lang/Object"))) ws Rm58 #[(.ref a1)] h0 (Q58 Z a1 a2 a5 a6 k7 h0 n0) := by
  refine own_body (plainFor_of_name pn_4) (ef58 a1) ?_
  intro p e s m below meth c s₁ hx hby hml hown hnm hret hZ X0 e0
  have N0 := Fr.nil n0
  obtain ⟨T3, X3, e3, st3⟩ := getF X0 hx hZ hown (host := "") (Or.inl (w_43 hw)) Via.refl e0 F_elementData_a1 (g := (mkF m 1 #[.val (.ref a1)] [(.ref a1)])) rfl rfl (hb hby d20_1)
  obtain ⟨T4, X4, e4, st4⟩ := getF X3 hx hZ hown (host := "") (Or.inl (w_52 hw)) Via.refl e3 F_size_a1 (g := (mkF m 5 #[.val (.ref a1)] [(.ref a1), (.ref a2)])) rfl rfl (hb hby d20_5)
  obtain ⟨_, T8, L8, X8, hQ8, st8⟩ := own_callS X4 hx hZ hown (y := y_19) (w_143 hw) (w_144 hw) (w_145 hw) (w_146 hw) (rm57 l Z a0 hw [] a2 a5 a6 k7 h0 n0 Z0 E_a2 M_1 V_a2 E_a6) e4 (Ls := #[.val (.ref a1)]) (by rw [hml]; rfl) (argsL := [(.ref a2), (.int (3 : Int32))]) (rest := []) (lenOf pd_12 rfl) (hb hby d20_8) (W := 0)
  obtain ⟨b8_b6_b4, k8_k6_k4, rfl, Nq8, K8, o8_0, o8_1, o8_2, o8_3⟩ := hQ8
  have N8 := Fr.app N0 Nq8
  have s0 := K8.1
  have sz_b8_b6_b4 : h0.size ≤ b8_b6_b4 := o8_0
  have Kp0 : Keep h0 T8.heap [] := (Keep.refl h0 []).trans K8 all0
  refine ⟨T8, _, _, _, (some (.ref b8_b6_b4)), X8, nofun, by decide, by decide, ?_, fun fs hr => ?_⟩
  · show Q58 Z a1 a2 a5 a6 k7 h0 n0 _ T8.heap _
    exact ⟨b8_b6_b4, k8_k6_k4, rfl, N8, Kp0, sz_b8_b6_b4, o8_1, o8_2, o8_3⟩
  · show Steps p.tables e below (s₁.setTop (mkF m 0 #[.val (.ref a1)] [])) _
    refine XS.aloadN X0.here hx rfl (hb hby d20_0) rfl rfl ?_
    refine st3 _ ?_
    refine XS.aloadN X3.here hx rfl (hb hby d20_4) rfl rfl ?_
    refine st4 _ ?_
    refine st8 _ ?_
    exact retOut X8 hx hret rfl (Or.inr (Or.inr (Or.inr (Or.inr ⟨rfl, rfl, rfl⟩)))) (hb hby d20_11) hr
theorem d24_59 : decode jdk_40_method_47_code 59 = .ok (.aload_n 0, 1) := by decide +kernel
theorem d24_60 : decode jdk_40_method_47_code 60 = .ok (.invokestatic 109, 3) := by decide +kernel
theorem d34_0 : decode jdk_56_method_4_code 0 = .ok (.aload_n 0, 1) := by decide +kernel
theorem d34_1 : decode jdk_56_method_4_code 1 = .ok (.arraylength, 1) := by decide +kernel
theorem d34_2 : decode jdk_56_method_4_code 2 = .ok (.anewarray 2, 3) := by decide +kernel
theorem w_238 {a0 : Array Value} {Z : State} (hw : ∀ d ∈ tables_1, d.before a0 Z = true) : Jvm.Cond.before (Jvm.Cond.classLink "java/util/ImmutableCollections" (2 : Nat) "java/lang/Object") a0 Z = true := hw _ (List.mem_of_getElem? (i := 238) rfl)
theorem d34_5 : decode jdk_56_method_4_code 5 = .ok (.astore_n 1, 1) := by decide +kernel
theorem d34_6 : decode jdk_56_method_4_code 6 = .ok (.iconst 0, 1) := by decide +kernel
theorem d34_7 : decode jdk_56_method_4_code 7 = .ok (.istore_n 2, 1) := by decide +kernel
theorem d34_8 : decode jdk_56_method_4_code 8 = .ok (.iload_n 2, 1) := by decide +kernel
theorem d34_9 : decode jdk_56_method_4_code 9 = .ok (.aload_n 0, 1) := by decide +kernel
theorem d34_10 : decode jdk_56_method_4_code 10 = .ok (.arraylength, 1) := by decide +kernel
theorem d34_11 : decode jdk_56_method_4_code 11 = .ok (.if_icmp .ge 18, 3) := by decide +kernel
theorem d34_14 : decode jdk_56_method_4_code 14 = .ok (.aload_n 1, 1) := by decide +kernel
theorem d34_15 : decode jdk_56_method_4_code 15 = .ok (.iload_n 2, 1) := by decide +kernel
theorem d34_16 : decode jdk_56_method_4_code 16 = .ok (.aload_n 0, 1) := by decide +kernel
theorem d34_17 : decode jdk_56_method_4_code 17 = .ok (.iload_n 2, 1) := by decide +kernel
theorem d34_18 : decode jdk_56_method_4_code 18 = .ok (.aaload, 1) := by decide +kernel
theorem d34_19 : decode jdk_56_method_4_code 19 = .ok (.invokestatic 37, 3) := by decide +kernel
theorem w_239 {a0 : Array Value} {Z : State} (hw : ∀ d ∈ tables_1, d.before a0 Z = true) : Jvm.Cond.before (Jvm.Cond.methodLink "java/util/ImmutableCollections" (37 : Nat) ({ cls := "java/util/Objects", name := "requireNonNull", desc := "(Ljava/lang/Object;)Ljava/lang/Object;" } : Jvm.MethodName)) a0 Z = true := hw _ (List.mem_of_getElem? (i := 239) rfl)
theorem d34_22 : decode jdk_56_method_4_code 22 = .ok (.aastore, 1) := by decide +kernel
theorem d34_23 : decode jdk_56_method_4_code 23 = .ok (.iinc 2 1, 3) := by decide +kernel
theorem d34_26 : decode jdk_56_method_4_code 26 = .ok (.goto (-18), 3) := by decide +kernel
theorem d34_29 : decode jdk_56_method_4_code 29 = .ok (.new 12, 3) := by decide +kernel
theorem w_241 {a0 : Array Value} {Z : State} (hw : ∀ d ∈ tables_1, d.before a0 Z = true) : Jvm.Cond.before (Jvm.Cond.initialized "java/util/ImmutableCollections$ListN") a0 Z = true := hw _ (List.mem_of_getElem? (i := 241) rfl)
theorem w_251 {a0 : Array Value} {Z : State} (hw : ∀ d ∈ tables_1, d.before a0 Z = true) : Jvm.Cond.before (Jvm.Cond.laysFinal "java/util/ImmutableCollections$ListN" "java/util/ImmutableCollections$ListN" "elements" "[Ljava/lang/Object;") a0 Z = true := hw _ (List.mem_of_getElem? (i := 251) rfl)
theorem w_253 {a0 : Array Value} {Z : State} (hw : ∀ d ∈ tables_1, d.before a0 Z = true) : Jvm.Cond.before (Jvm.Cond.laysFinal "java/util/ImmutableCollections$ListN" "java/util/ImmutableCollections$ListN" "allowNulls" "Z") a0 Z = true := hw _ (List.mem_of_getElem? (i := 253) rfl)
theorem d34_32 : decode jdk_56_method_4_code 32 = .ok (.dup, 1) := by decide +kernel
theorem d34_33 : decode jdk_56_method_4_code 33 = .ok (.aload_n 1, 1) := by decide +kernel
theorem d34_34 : decode jdk_56_method_4_code 34 = .ok (.iconst 0, 1) := by decide +kernel
theorem d34_35 : decode jdk_56_method_4_code 35 = .ok (.invokespecial 43, 3) := by decide +kernel
theorem d35_0 : decode jdk_45_method_1_code 0 = .ok (.aload_n 0, 1) := by decide +kernel
theorem d35_1 : decode jdk_45_method_1_code 1 = .ok (.invokespecial 1, 3) := by decide +kernel
theorem w_246 {a0 : Array Value} {Z : State} (hw : ∀ d ∈ tables_1, d.before a0 Z = true) : Jvm.Cond.before (Jvm.Cond.methodLink "java/util/ImmutableCollections$ListN" (1 : Nat) ({ cls := "java/util/ImmutableCollections$AbstractImmutableList", name := "<init>", desc := "()V" } : Jvm.MethodName)) a0 Z = true := hw _ (List.mem_of_getElem? (i := 246) rfl)
theorem d35_4 : decode jdk_45_method_1_code 4 = .ok (.aload_n 0, 1) := by decide +kernel
theorem d35_5 : decode jdk_45_method_1_code 5 = .ok (.aload_n 1, 1) := by decide +kernel
theorem d35_6 : decode jdk_45_method_1_code 6 = .ok (.putfield 7, 3) := by decide +kernel
theorem w_250 {a0 : Array Value} {Z : State} (hw : ∀ d ∈ tables_1, d.before a0 Z = true) : Jvm.Cond.before (Jvm.Cond.fieldLink "java/util/ImmutableCollections$ListN" (7 : Nat) "java/util/ImmutableCollections$ListN" "elements" "[Ljava/lang/Object;") a0 Z = true := hw _ (List.mem_of_getElem? (i := 250) rfl)
theorem d35_9 : decode jdk_45_method_1_code 9 = .ok (.aload_n 0, 1) := by decide +kernel
theorem d35_10 : decode jdk_45_method_1_code 10 = .ok (.iload_n 2, 1) := by decide +kernel
theorem d35_11 : decode jdk_45_method_1_code 11 = .ok (.putfield 13, 3) := by decide +kernel
theorem w_252 {a0 : Array Value} {Z : State} (hw : ∀ d ∈ tables_1, d.before a0 Z = true) : Jvm.Cond.before (Jvm.Cond.fieldLink "java/util/ImmutableCollections$ListN" (13 : Nat) "java/util/ImmutableCollections$ListN" "allowNulls" "Z") a0 Z = true := hw _ (List.mem_of_getElem? (i := 252) rfl)
theorem d35_14 : decode jdk_45_method_1_code 14 = .ok (.return_, 1) := by decide +kernel
abbrev y_36 : MethodName := ⟨"java/util/ImmutableCollections$ListN", "<init>", "([Ljava/lang/Object;Z)V"⟩
theorem pn_16 : plainName "java/util/ImmutableCollections$ListN" = true := by first | (simp [plainName, overriddenIn]; done) | decide +kernel
-- java/util/ImmutableCollections$ListN.<init>([Ljava/lang/Object;Z)V
abbrev Rm59 : Room := { frames := 4, cells := 0, slots := 0, locals := 48 }
def Q59 (Z : State) (a1 : Addr) (a2 : Addr) (h0 : Heap) (n0 : Nat) (v : Option Value) (h : Heap) (L : List Loc) : Prop := v = none ∧ Fr n0 L ∧ Keep h0 h [a1] ∧ Exa Z h a1 "java/util/ImmutableCollections$ListN" ∧ Fld Z h a1 "java/util/ImmutableCollections$ListN" "allowNulls" "Z" (.int (0 : Int32)) ∧ Fld Z h a1 "java/util/ImmutableCollections$ListN" "elements" "[Ljava/lang/Object;" (.ref a2)
theorem ef59 (a1 : Addr) (a2 : Addr) (m : MethodId) : entryFrame m #[(.ref a1), (.ref a2), (.int (0 : Int32))] 3 = mkF m 0 #[.val (.ref a1), .val (.ref a2), .val (.int (0 : Int32))] [] := by first | (simp [entryFrame, mkF, argsToLocals, Value.category]; done) | rfl
theorem rm59 (l : Launch) (Z : State) (a0 : Array Value) (hw : ∀ d ∈ tables_1, d.before a0 Z = true) (ws : List Jvm.Cond) (a1 : Addr) (a2 : Addr) (h0 : Heap) (n0 : Nat) (Z0 : n0 ≤ h0.size) (F_elements_a1 : Fld Z h0 a1 "java/util/ImmutableCollections$ListN" "elements" "[Ljava/lang/Object;" .null) (E_a1 : Exa Z h0 a1 "java/util/ImmutableCollections$ListN") (g_a1 : n0 ≤ a1) (F_allowNulls_a1 : Fld Z h0 a1 "java/util/ImmutableCollections$ListN" "allowNulls" "Z" (.int (0 : Int32))) :
    OwnMet l Z y_36 jdk_45_method_1_code 3 none ws Rm59 #[(.ref a1), (.ref a2), (.int (0 : Int32))] h0 (Q59 Z a1 a2 h0 n0) := by
  refine own_body (plainFor_of_name pn_16) (ef59 a1 a2) ?_
  intro p e s m below meth c s₁ hx hby hml hown hnm hret hZ X0 e0
  have N0 := Fr.nil n0
  obtain ⟨_, T3, L3, X3, hQ3, st3⟩ := own_special X0 hx hZ hown (y := y_23) (a := a1) (w_246 hw) (w_176 hw) (w_179 hw) (w_180 hw) (rm27 l Z a0 hw [] a1 h0 n0 Z0) e0 (Ls := #[.val (.ref a1), .val (.ref a2), .val (.int (0 : Int32))]) (by rw [hml]; rfl) (argsL := []) (rest := []) (lenOf pd_0 rfl) (hb hby d35_1) (W := 0)
  obtain ⟨rfl, Nq3, e3⟩ := hQ3
  have N3 := Fr.app N0 Nq3
  obtain ⟨T4, h4, X4, e4, W4, st4⟩ := putF X3 hx hZ hown (host := "") (Or.inl (w_250 hw)) Via.refl e3 F_elements_a1 E_a1 (Or.inr ⟨(w_251 hw), rfl, hnm⟩) (w_240 hw) (ty := (.array (.object "java/lang/Object"))) (by decide) rfl rfl (g := (mkF m 6 #[.val (.ref a1), .val (.ref a2), .val (.int (0 : Int32))] [(.ref a2), (.ref a1)])) rfl rfl (hb hby d35_6)
  have s0 := (Keep.of_wr W4).1
  have N4 := Fr.snoc X4 N3 g_a1
  have Fw4 : Fld Z h4 a1 "java/util/ImmutableCollections$ListN" "elements" "[Ljava/lang/Object;" (.ref a2) := F_elements_a1.same W4
  have Ex5 := (E_a1.wr W4)
  have Fl6 := (F_allowNulls_a1.other W4 (Or.inr (slot_ne (Or.inr (w_253 hw)) (Or.inr (w_251 hw)) (by decide) (t := .boolean) (t' := (.array (.object "java/lang/Object"))) (by decide) (by decide))))
  obtain ⟨T7, h7, X7, e7, W7, st7⟩ := putFN X4 hx hZ hown (w_252 hw) Via.refl e4 Fl6 Ex5 (Or.inr ⟨(w_253 hw), rfl, hnm⟩) (w_240 hw) (ty := .boolean) (v' := (.int (nar .boolean (0 : Int32)))) (by decide) rfl (fits_nar_bool _) (g := (mkF m 11 #[.val (.ref a1), .val (.ref a2), .val (.int (0 : Int32))] [(.int (0 : Int32)), (.ref a1)])) rfl rfl (hb hby d35_11)
  have s1 := (Keep.of_wr W7).1
  have N7 := Fr.snoc X7 N4 g_a1
  have Fw7 : Fld Z h7 a1 "java/util/ImmutableCollections$ListN" "allowNulls" "Z" (.int (0 : Int32)) := Fl6.same W7
  have Ex8 := (Ex5.wr W7)
  have Fl9 := (Fw4.other W7 (Or.inr (slot_ne (Or.inr (w_251 hw)) (Or.inr (w_253 hw)) (by decide) (t := (.array (.object "java/lang/Object"))) (t' := .boolean) (by decide) (by decide))))
  have Kp0 : Keep h0 h4 [a1] := (Keep.refl h0 [a1]).wr W4 (Or.inl (List.mem_of_getElem? (i := 0) rfl))
  have Kp1 : Keep h0 h7 [a1] := Kp0.wr W7 (Or.inl (List.mem_of_getElem? (i := 0) rfl))
  refine ⟨T7, _, _, _, none, X7, (fun _ => rfl), by decide, by decide, ?_, fun fs hr => ?_⟩
  · show Q59 Z a1 a2 h0 n0 _ T7.heap _
    rw [e7]
    exact ⟨rfl, N7, Kp1, Ex8, Fw7, Fl9⟩
  · show Steps p.tables e below (s₁.setTop (mkF m 0 #[.val (.ref a1), .val (.ref a2), .val (.int (0 : Int32))] [])) _
    refine XS.aloadN X0.here hx rfl (hb hby d35_0) rfl rfl ?_
    refine st3 _ ?_
    refine XS.aloadN X3.here hx rfl (hb hby d35_4) rfl rfl ?_
    refine XS.aloadN X3.here hx rfl (hb hby d35_5) rfl rfl ?_
    refine st4 _ ?_
    refine XS.aloadN X4.here hx rfl (hb hby d35_9) rfl rfl ?_
    refine XS.iloadN X4.here hx rfl (hb hby d35_10) rfl ?_
    refine st7 _ ?_
    exact X7.returnOut hx hret (hb hby d35_14) hr
theorem pd_21 : parseMethodDescriptor "([Ljava/lang/Object;Z)V" = some ⟨[(.array (.object "java/lang/Object")), .boolean], none⟩ := by decide +kernel
theorem w_245 {a0 : Array Value} {Z : State} (hw : ∀ d ∈ tables_1, d.before a0 Z = true) : Jvm.Cond.before (Jvm.Cond.code ({ cls := "java/util/ImmutableCollections$ListN", name := "<init>", desc := "([Ljava/lang/Object;Z)V" } : Jvm.MethodName) jdk_45_method_1_code (3 : Nat) (Option.none : Option Jvm.ClassFile.FieldType)) a0 Z = true := hw _ (List.mem_of_getElem? (i := 245) rfl)
theorem w_242 {a0 : Array Value} {Z : State} (hw : ∀ d ∈ tables_1, d.before a0 Z = true) : Jvm.Cond.before (Jvm.Cond.methodLinkNest "java/util/ImmutableCollections" (43 : Nat) ({ cls := "java/util/ImmutableCollections$ListN", name := "<init>", desc := "([Ljava/lang/Object;Z)V" } : Jvm.MethodName) "java/util/ImmutableCollections") a0 Z = true := hw _ (List.mem_of_getElem? (i := 242) rfl)
theorem w_243 {a0 : Array Value} {Z : State} (hw : ∀ d ∈ tables_1, d.before a0 Z = true) : Jvm.Cond.before (Jvm.Cond.instanceMethod ({ cls := "java/util/ImmutableCollections$ListN", name := "<init>", desc := "([Ljava/lang/Object;Z)V" } : Jvm.MethodName)) a0 Z = true := hw _ (List.mem_of_getElem? (i := 243) rfl)
theorem d34_38 : decode jdk_56_method_4_code 38 = .ok (.areturn, 1) := by decide +kernel
abbrev y_37 : MethodName := ⟨"java/util/ImmutableCollections", "listFromArray", "([Ljava/lang/Object;)Ljava/util/List;"⟩
-- java/util/ImmutableCollections.listFromArray([Ljava/lang/Object;)Ljava/util/List;
abbrev Rm60 : Room := { frames := 5, cells := 2, slots := 5, locals := 63 }
def Q60 (Z : State) (a1 : Addr) (a2 : Addr) (k3 : ClassId) (h0 : Heap) (n0 : Nat) (v : Option Value) (h : Heap) (L : List Loc) : Prop := ∃ b32 : Addr, ∃ b5 : Addr, ∃ k5 : ClassId, v = some (.ref b32) ∧ Fr n0 L ∧ Keep h0 h [] ∧ h0.size ≤ b32 ∧ Exa Z h b32 "java/util/ImmutableCollections$ListN" ∧ Fld Z h b32 "java/util/ImmutableCollections$ListN" "allowNulls" "Z" (.int (0 : Int32)) ∧ Fld Z h b32 "java/util/ImmutableCollections$ListN" "elements" "[Ljava/lang/Object;" (.ref b5) ∧ h0.size ≤ b5 ∧ Exa Z h b5 "[Ljava/lang/Object;" ∧ Ovr Z k5 "java/lang/Object" ∧ Arv Z h b5 k5 (.object "java/lang/Object") (3 : Int32) [(.ref a2), (.ref a2), (.ref a2)] .null ∧ b32 ≠ b5
theorem ef60 (a1 : Addr) (m : MethodId) : entryFrame m #[(.ref a1)] 3 = mkF m 0 #[.val (.ref a1), .unset, .unset] [] := by first | (simp [entryFrame, mkF, argsToLocals, Value.category]; done) | rfl
theorem rm60 (l : Launch) (Z : State) (a0 : Array Value) (hw : ∀ d ∈ tables_1, d.before a0 Z = true) (ws : List Jvm.Cond) (a1 : Addr) (a2 : Addr) (k3 : ClassId) (h0 : Heap) (n0 : Nat) (Z0 : n0 ≤ h0.size) (V_a1 : Arv Z h0 a1 k3 (.object "java/lang/Object") (3 : Int32) [(.ref a2), (.ref a2), (.ref a2)] .null) (E_a2 : Exa Z h0 a2 "com/example/feedergen/feedergen/core/StopCandidate") :
    OwnMet l Z y_37 jdk_56_method_4_code 3 (some (.object "java/util/List")) ws Rm60 #[(.ref a1)] h0 (Q60 Z a1 a2 k3 h0 n0) := by
  refine own_body (plainFor_of_name pn_13) (ef60 a1) ?_
  intro p e s m below meth c s₁ hx hby hml hown hnm hret hZ X0 e0
  have N0 := Fr.nil n0
  obtain ⟨cl4, Ar4, q4, S4, M4, Hs4, G4⟩ := id V_a1
  obtain ⟨T5, h5, k5, X5, e5, E5, A5, B5, O5, st5⟩ := newRE X0 hx hZ hown (w_238 hw) (w_74 hw) e0 (g := (mkF m 2 #[.val (.ref a1), .unset, .unset] [(.int (3 : Int32))])) rfl (hb hby d34_2) rfl (by decide) (cap := 3) (by decide) (by decide) (by decide) (by decide) (ad := "[Ljava/lang/Object;") (by decide)
  obtain ⟨b5, g5⟩ : ∃ z, z = h0.size := ⟨_, rfl⟩
  rw [← g5] at A5 B5 st5
  have s0 := E5.1
  have Vn5 : Arv Z h5 b5 k5 (.object "java/lang/Object") (3 : Int32) [.null, .null, .null] .null := (Arv.new A5 (by decide)).pad (pad_rep [] .null 3)
  have Va6 := (V_a1.ext E5)
  obtain ⟨cl7, Ar7, q7, S7, M7, Hs7, G7⟩ := id Va6
  have hin8 : ¬ ((0 : Int32) < 0 ∨ cl7.slots.size ≤ ((0 : Int32)).toNatClampNeg) := inb_of S7 ⟨(by decide : ¬ ((0 : Int32) < (0 : Int32))), (by decide : (0 : Int32) < (3 : Int32))⟩
  have z1 := Nat.le_trans Z0 s0
  obtain ⟨_, T9, L9, X9, hQ9, st9⟩ := own_callS X5 hx hZ hown (y := y_24) (w_239 hw) (w_190 hw) (w_191 hw) (w_192 hw) (rm28 l Z a0 hw [] a2 h5 n0 z1) e5 (Ls := #[.val (.ref a1), .val (.ref b5), .val (.int (0 : Int32))]) (by rw [hml]; rfl) (argsL := [(.ref a2)]) (rest := [(.int (0 : Int32)), (.ref b5)]) (lenOf pd_13 rfl) (hb hby d34_19) (W := 2)
  obtain ⟨rfl, Nq9, e9⟩ := hQ9
  have N9 := Fr.app N0 Nq9
  obtain ⟨cl10, Ar10, q10, S10, M10, Hs10, G10⟩ := id Vn5
  have hin11 : ¬ ((0 : Int32) < 0 ∨ cl10.slots.size ≤ ((0 : Int32)).toNatClampNeg) := inb_of S10 ⟨(by decide : ¬ ((0 : Int32) < (0 : Int32))), (by decide : (0 : Int32) < (3 : Int32))⟩
  have Ex12 := (E_a2.ext E5)
  obtain ⟨T13, h13, X13, e13, W13, st13⟩ := stR X9 hx hZ e9 Ar10 (j := (0 : Int32)) hin11 rfl (Sto.ofV Ar10 q10 O5 (Ins.of_exa Ex12 (w_75 hw))) (g := (mkF m 22 #[.val (.ref a1), .val (.ref b5), .val (.int (0 : Int32))] [(.ref a2), (.int (0 : Int32)), (.ref b5)])) rfl rfl (hb hby d34_22)
  have s1 := (Keep.of_wr W13).1
  have g_b5 : n0 ≤ b5 := Nat.le_trans Z0 (Nat.le_of_eq g5.symm)
  have N13 := Fr.snoc X13 N9 g_b5
  have Vs13 : Arv Z h13 b5 k5 (.object "java/lang/Object") (3 : Int32) [(.ref a2), .null, .null] .null := Arv.set Ar10 q10 S10 M10 Hs10 G10 rfl W13 0 rfl (Nat.le_of_ble_eq_true rfl)
  have ne_a1_b5 := Nat.ne_of_lt (Nat.lt_of_lt_of_le V_a1.lt (Nat.le_of_eq g5.symm))
  have Va14 := (Va6.other W13 ne_a1_b5)
  obtain ⟨cl15, Ar15, q15, S15, M15, Hs15, G15⟩ := id Va14
  have hin16 : ¬ ((1 : Int32) < 0 ∨ cl15.slots.size ≤ ((1 : Int32)).toNatClampNeg) := inb_of S15 ⟨(by decide : ¬ ((1 : Int32) < (0 : Int32))), (by decide : (1 : Int32) < (3 : Int32))⟩
  have z2 := Nat.le_trans Z0 (Nat.le_trans s0 s1)
  obtain ⟨_, T17, L17, X17, hQ17, st17⟩ := own_callS X13 hx hZ hown (y := y_24) (w_239 hw) (w_190 hw) (w_191 hw) (w_192 hw) (rm28 l Z a0 hw [] a2 h13 n0 z2) e13 (Ls := #[.val (.ref a1), .val (.ref b5), .val (.int (1 : Int32))]) (by rw [hml]; rfl) (argsL := [(.ref a2)]) (rest := [(.int (1 : Int32)), (.ref b5)]) (lenOf pd_13 rfl) (hb hby d34_19) (W := 2)
  obtain ⟨rfl, Nq17, e17⟩ := hQ17
  have N17 := Fr.app N13 Nq17
  obtain ⟨cl18, Ar18, q18, S18, M18, Hs18, G18⟩ := id Vs13
  have hin19 : ¬ ((1 : Int32) < 0 ∨ cl18.slots.size ≤ ((1 : Int32)).toNatClampNeg) := inb_of S18 ⟨(by decide : ¬ ((1 : Int32) < (0 : Int32))), (by decide : (1 : Int32) < (3 : Int32))⟩
  have Ex20 := (Ex12.wr W13)
  obtain ⟨T21, h21, X21, e21, W21, st21⟩ := stR X17 hx hZ e17 Ar18 (j := (1 : Int32)) hin19 rfl (Sto.ofV Ar18 q18 O5 (Ins.of_exa Ex20 (w_75 hw))) (g := (mkF m 22 #[.val (.ref a1), .val (.ref b5), .val (.int (1 : Int32))] [(.ref a2), (.int (1 : Int32)), (.ref b5)])) rfl rfl (hb hby d34_22)
  have s2 := (Keep.of_wr W21).1
  have N21 := Fr.snoc X21 N17 g_b5
  have Vs21 : Arv Z h21 b5 k5 (.object "java/lang/Object") (3 : Int32) [(.ref a2), (.ref a2), .null] .null := Arv.set Ar18 q18 S18 M18 Hs18 G18 rfl W21 1 rfl (Nat.le_of_ble_eq_true rfl)
  have Va22 := (Va14.other W21 ne_a1_b5)
  obtain ⟨cl23, Ar23, q23, S23, M23, Hs23, G23⟩ := id Va22
  have hin24 : ¬ ((2 : Int32) < 0 ∨ cl23.slots.size ≤ ((2 : Int32)).toNatClampNeg) := inb_of S23 ⟨(by decide : ¬ ((2 : Int32) < (0 : Int32))), (by decide : (2 : Int32) < (3 : Int32))⟩
  have z3 := Nat.le_trans Z0 (Nat.le_trans (Nat.le_trans s0 s1) s2)
  obtain ⟨_, T25, L25, X25, hQ25, st25⟩ := own_callS X21 hx hZ hown (y := y_24) (w_239 hw) (w_190 hw) (w_191 hw) (w_192 hw) (rm28 l Z a0 hw [] a2 h21 n0 z3) e21 (Ls := #[.val (.ref a1), .val (.ref b5), .val (.int (2 : Int32))]) (by rw [hml]; rfl) (argsL := [(.ref a2)]) (rest := [(.int (2 : Int32)), (.ref b5)]) (lenOf pd_13 rfl) (hb hby d34_19) (W := 2)
  obtain ⟨rfl, Nq25, e25⟩ := hQ25
  have N25 := Fr.app N21 Nq25
  obtain ⟨cl26, Ar26, q26, S26, M26, Hs26, G26⟩ := id Vs21
  have hin27 : ¬ ((2 : Int32) < 0 ∨ cl26.slots.size ≤ ((2 : Int32)).toNatClampNeg) := inb_of S26 ⟨(by decide : ¬ ((2 : Int32) < (0 : Int32))), (by decide : (2 : Int32) < (3 : Int32))⟩
  have Ex28 := (Ex20.wr W21)
  obtain ⟨T29, h29, X29, e29, W29, st29⟩ := stR X25 hx hZ e25 Ar26 (j := (2 : Int32)) hin27 rfl (Sto.ofV Ar26 q26 O5 (Ins.of_exa Ex28 (w_75 hw))) (g := (mkF m 22 #[.val (.ref a1), .val (.ref b5), .val (.int (2 : Int32))] [(.ref a2), (.int (2 : Int32)), (.ref b5)])) rfl rfl (hb hby d34_22)
  have s3 := (Keep.of_wr W29).1
  have N29 := Fr.snoc X29 N25 g_b5
  have Vs29 : Arv Z h29 b5 k5 (.object "java/lang/Object") (3 : Int32) [(.ref a2), (.ref a2), (.ref a2)] .null := Arv.set Ar26 q26 S26 M26 Hs26 G26 rfl W29 2 rfl (Nat.le_of_ble_eq_true rfl)
  have Va30 := (Va22.other W29 ne_a1_b5)
  obtain ⟨cl31, Ar31, q31, S31, M31, Hs31, G31⟩ := id Va30
  obtain ⟨T32, h32, X32, e32, E32, A32, D32, -, st32⟩ := newO X29 hx hZ hown (w_125 hw) (w_240 hw) (w_241 hw) e29 (g := (mkF m 29 #[.val (.ref a1), .val (.ref b5), .val (.int (3 : Int32))] [])) rfl (hb hby d34_29) (by decide) (by decide)
  obtain ⟨b32, g32⟩ : ∃ z, z = h29.size := ⟨_, rfl⟩
  rw [← g32] at A32 D32 st32
  have s4 := E32.1
  have Fn32_elements : Fld Z h32 b32 "java/util/ImmutableCollections$ListN" "elements" "[Ljava/lang/Object;" .null := D32 (Or.inr (w_251 hw)) (ty := (.array (.object "java/lang/Object"))) (by decide)
  have Fn32_allowNulls : Fld Z h32 b32 "java/util/ImmutableCollections$ListN" "allowNulls" "Z" (.int (0 : Int32)) := D32 (Or.inr (w_253 hw)) (ty := .boolean) (by decide)
  have z4 := Nat.le_trans Z0 (Nat.le_trans (Nat.le_trans (Nat.le_trans s0 s1) s2) s3)
  have g_b32 : n0 ≤ b32 := Nat.le_trans z4 (Nat.le_of_eq g32.symm)
  have z5 := Nat.le_trans Z0 (Nat.le_trans (Nat.le_trans (Nat.le_trans (Nat.le_trans s0 s1) s2) s3) s4)
  obtain ⟨_, T33, L33, X33, hQ33, st33⟩ := own_specialNest X32 hx hZ hown (y := y_36) (a := b32) (own_mvNest hZ (w_242 hw)) (w_243 hw) (w_241 hw) (w_245 hw) (rm59 l Z a0 hw [] b32 b5 h32 n0 z5 Fn32_elements A32 g_b32 Fn32_allowNulls) e32 (Ls := #[.val (.ref a1), .val (.ref b5), .val (.int (3 : Int32))]) (by rw [hml]; rfl) (argsL := [(.ref b5), (.int (0 : Int32))]) (rest := [(.ref b32)]) (lenOf pd_21 rfl) (hb hby d34_35) (W := 1)
  obtain ⟨rfl, Nq33, K33, o33_0, o33_1, o33_2⟩ := hQ33
  have N33 := Fr.app N29 Nq33
  have s5 := K33.1
  have sz_b32 : h0.size ≤ b32 := Nat.le_trans (Nat.le_trans (Nat.le_trans (Nat.le_trans s0 s1) s2) s3) (Nat.le_of_eq g32.symm)
  have sz_b5 : h0.size ≤ b5 := (Nat.le_of_eq g5.symm)
  have Ex34 := (((((B5.wr W13).wr W21).wr W29).ext E32).keep K33)
  have ne_b5_b32 := Nat.ne_of_lt (Nat.lt_of_lt_of_le Vs29.lt (Nat.le_of_eq g32.symm))
  have Va35 := ((Vs29.ext E32).keep K33 (ninS ne_b5_b32 nin0))
  have Kp0 : Keep h0 h5 [] := (Keep.refl h0 []).ext E5
  have Kp1 : Keep h0 h13 [] := Kp0.wr W13 (Or.inr sz_b5)
  have Kp2 : Keep h0 h21 [] := Kp1.wr W21 (Or.inr sz_b5)
  have Kp3 : Keep h0 h29 [] := Kp2.wr W29 (Or.inr sz_b5)
  have Kp4 : Keep h0 h32 [] := Kp3.ext E32
  have Kp5 : Keep h0 T33.heap [] := Kp4.trans K33 (allS (Or.inr sz_b32) all0)
  refine ⟨T33, _, _, _, (some (.ref b32)), X33, nofun, by decide, by decide, ?_, fun fs hr => ?_⟩
  · show Q60 Z a1 a2 k3 h0 n0 _ T33.heap _
    exact ⟨b32, b5, k5, rfl, N33, Kp5, sz_b32, o33_0, o33_1, o33_2, sz_b5, Ex34, O5, Va35, (Ne.symm ne_b5_b32)⟩
  · show Steps p.tables e below (s₁.setTop (mkF m 0 #[.val (.ref a1), .unset, .unset] [])) _
    refine XS.aloadN X0.here hx rfl (hb hby d34_0) rfl rfl ?_
    refine X0.arraylength hx (by rw [e0]; exact Ar4.1) (State.isArrayOf_alike hZ.alike Ar4.2.1) (g := (mkF m 1 #[.val (.ref a1), .unset, .unset] [(.ref a1)])) rfl rfl (hb hby d34_1) _ ?_
    show Steps p.tables e below (s₁.setTop (mkF m 2 #[.val (.ref a1), .unset, .unset] [(.int cl4.slots.size.toInt32)])) _
    rw [len_of S4 M4]
    refine st5 _ ?_
    refine XS.astoreN X5.here hx rfl (hb hby d34_5) rfl rfl (l' := #[.val (.ref a1), .val (.ref b5), .unset]) rfl ?_
    refine XS.iconst X5.here hx rfl (hb hby d34_6) ?_
    refine XS.istoreN X5.here hx rfl (hb hby d34_7) rfl (l' := #[.val (.ref a1), .val (.ref b5), .val (.int (0 : Int32))]) rfl ?_
    refine XS.iloadN X5.here hx rfl (hb hby d34_8) rfl ?_
    refine XS.aloadN X5.here hx rfl (hb hby d34_9) rfl rfl ?_
    refine X5.arraylength hx (by rw [e5]; exact Ar7.1) (State.isArrayOf_alike hZ.alike Ar7.2.1) (g := (mkF m 10 #[.val (.ref a1), .val (.ref b5), .val (.int (0 : Int32))] [(.ref a1), (.int (0 : Int32))])) rfl rfl (hb hby d34_10) _ ?_
    show Steps p.tables e below (T5.setTop (mkF m 11 #[.val (.ref a1), .val (.ref b5), .val (.int (0 : Int32))] [(.int cl7.slots.size.toInt32), (.int (0 : Int32))])) _
    rw [len_of S7 M7]
    refine XS.icmpNo X5.here hx rfl (hb hby d34_11) rfl (tlt ((by decide : (0 : Int32) < (3 : Int32)) : (0 : Int32) < (3 : Int32))).2.1 ?_
    refine XS.aloadN X5.here hx rfl (hb hby d34_14) rfl rfl ?_
    refine XS.iloadN X5.here hx rfl (hb hby d34_15) rfl ?_
    refine XS.aloadN X5.here hx rfl (hb hby d34_16) rfl rfl ?_
    refine XS.iloadN X5.here hx rfl (hb hby d34_17) rfl ?_
    refine X5.aaload hx (j := (0 : Int32)) (v := (.ref a2)) (by rw [e5]; exact Ar7.1) (State.isArrayOf_alike hZ.alike Ar7.2.1) rfl Ar7.2.2 hin8 (Has.at Hs7 hin8 rfl) (g := (mkF m 18 #[.val (.ref a1), .val (.ref b5), .val (.int (0 : Int32))] [(.int (0 : Int32)), (.ref a1), (.int (0 : Int32)), (.ref b5)])) rfl rfl (hb hby d34_18) _ ?_
    refine st9 _ ?_
    refine st13 _ ?_
    refine XS.iinc X13.here hx rfl (hb hby d34_23) rfl (l' := #[.val (.ref a1), .val (.ref b5), .val (.int (1 : Int32))]) rfl ?_
    refine XS.goto X13.here hx rfl (pc0 := 26) (pc' := 8) rfl (hb hby d34_26) (by decide) (by decide) ?_
    refine XS.iloadN X13.here hx rfl (hb hby d34_8) rfl ?_
    show Steps p.tables e below (T13.setTop (mkF m 9 #[.val (.ref a1), .val (.ref b5), .val (.int (1 : Int32))] [(.int (1 : Int32))])) _
    refine XS.aloadN X13.here hx rfl (hb hby d34_9) rfl rfl ?_
    refine X13.arraylength hx (by rw [e13]; exact Ar15.1) (State.isArrayOf_alike hZ.alike Ar15.2.1) (g := (mkF m 10 #[.val (.ref a1), .val (.ref b5), .val (.int (1 : Int32))] [(.ref a1), (.int (1 : Int32))])) rfl rfl (hb hby d34_10) _ ?_
    show Steps p.tables e below (T13.setTop (mkF m 11 #[.val (.ref a1), .val (.ref b5), .val (.int (1 : Int32))] [(.int cl15.slots.size.toInt32), (.int (1 : Int32))])) _
    rw [len_of S15 M15]
    refine XS.icmpNo X13.here hx rfl (hb hby d34_11) rfl (tlt ((by decide : (1 : Int32) < (3 : Int32)) : (1 : Int32) < (3 : Int32))).2.1 ?_
    refine XS.aloadN X13.here hx rfl (hb hby d34_14) rfl rfl ?_
    refine XS.iloadN X13.here hx rfl (hb hby d34_15) rfl ?_
    refine XS.aloadN X13.here hx rfl (hb hby d34_16) rfl rfl ?_
    refine XS.iloadN X13.here hx rfl (hb hby d34_17) rfl ?_
    refine X13.aaload hx (j := (1 : Int32)) (v := (.ref a2)) (by rw [e13]; exact Ar15.1) (State.isArrayOf_alike hZ.alike Ar15.2.1) rfl Ar15.2.2 hin16 (Has.at Hs15 hin16 rfl) (g := (mkF m 18 #[.val (.ref a1), .val (.ref b5), .val (.int (1 : Int32))] [(.int (1 : Int32)), (.ref a1), (.int (1 : Int32)), (.ref b5)])) rfl rfl (hb hby d34_18) _ ?_
    refine st17 _ ?_
    refine st21 _ ?_
    refine XS.iinc X21.here hx rfl (hb hby d34_23) rfl (l' := #[.val (.ref a1), .val (.ref b5), .val (.int (2 : Int32))]) rfl ?_
    refine XS.goto X21.here hx rfl (pc0 := 26) (pc' := 8) rfl (hb hby d34_26) (by decide) (by decide) ?_
    refine XS.iloadN X21.here hx rfl (hb hby d34_8) rfl ?_
    show Steps p.tables e below (T21.setTop (mkF m 9 #[.val (.ref a1), .val (.ref b5), .val (.int (2 : Int32))] [(.int (2 : Int32))])) _
    refine XS.aloadN X21.here hx rfl (hb hby d34_9) rfl rfl ?_
    refine X21.arraylength hx (by rw [e21]; exact Ar23.1) (State.isArrayOf_alike hZ.alike Ar23.2.1) (g := (mkF m 10 #[.val (.ref a1), .val (.ref b5), .val (.int (2 : Int32))] [(.ref a1), (.int (2 : Int32))])) rfl rfl (hb hby d34_10) _ ?_
    show Steps p.tables e below (T21.setTop (mkF m 11 #[.val (.ref a1), .val (.ref b5), .val (.int (2 : Int32))] [(.int cl23.slots.size.toInt32), (.int (2 : Int32))])) _
    rw [len_of S23 M23]
    refine XS.icmpNo X21.here hx rfl (hb hby d34_11) rfl (tlt ((by decide : (2 : Int32) < (3 : Int32)) : (2 : Int32) < (3 : Int32))).2.1 ?_
    refine XS.aloadN X21.here hx rfl (hb hby d34_14) rfl rfl ?_
    refine XS.iloadN X21.here hx rfl (hb hby d34_15) rfl ?_
    refine XS.aloadN X21.here hx rfl (hb hby d34_16) rfl rfl ?_
    refine XS.iloadN X21.here hx rfl (hb hby d34_17) rfl ?_
    refine X21.aaload hx (j := (2 : Int32)) (v := (.ref a2)) (by rw [e21]; exact Ar23.1) (State.isArrayOf_alike hZ.alike Ar23.2.1) rfl Ar23.2.2 hin24 (Has.at Hs23 hin24 rfl) (g := (mkF m 18 #[.val (.ref a1), .val (.ref b5), .val (.int (2 : Int32))] [(.int (2 : Int32)), (.ref a1), (.int (2 : Int32)), (.ref b5)])) rfl rfl (hb hby d34_18) _ ?_
    refine st25 _ ?_
    refine st29 _ ?_
    refine XS.iinc X29.here hx rfl (hb hby d34_23) rfl (l' := #[.val (.ref a1), .val (.ref b5), .val (.int (3 : Int32))]) rfl ?_
    refine XS.goto X29.here hx rfl (pc0 := 26) (pc' := 8) rfl (hb hby d34_26) (by decide) (by decide) ?_
    refine XS.iloadN X29.here hx rfl (hb hby d34_8) rfl ?_
    show Steps p.tables e below (T29.setTop (mkF m 9 #[.val (.ref a1), .val (.ref b5), .val (.int (3 : Int32))] [(.int (3 : Int32))])) _
    refine XS.aloadN X29.here hx rfl (hb hby d34_9) rfl rfl ?_
    refine X29.arraylength hx (by rw [e29]; exact Ar31.1) (State.isArrayOf_alike hZ.alike Ar31.2.1) (g := (mkF m 10 #[.val (.ref a1), .val (.ref b5), .val (.int (3 : Int32))] [(.ref a1), (.int (3 : Int32))])) rfl rfl (hb hby d34_10) _ ?_
    show Steps p.tables e below (T29.setTop (mkF m 11 #[.val (.ref a1), .val (.ref b5), .val (.int (3 : Int32))] [(.int cl31.slots.size.toInt32), (.int (3 : Int32))])) _
    rw [len_of S31 M31]
    refine XS.icmpYes X29.here hx rfl (pc0 := 11) (pc' := 29) rfl (hb hby d34_11) rfl (flt ((by decide : ¬ ((3 : Int32) < (3 : Int32))) : ¬ ((3 : Int32) < (3 : Int32)))).2.1 (by decide) (by decide) ?_
    refine st32 _ ?_
    refine XS.dup X32.here hx rfl (hb hby d34_32) rfl rfl ?_
    refine XS.aloadN X32.here hx rfl (hb hby d34_33) rfl rfl ?_
    refine XS.iconst X32.here hx rfl (hb hby d34_34) ?_
    refine st33 _ ?_
    exact retOut X33 hx hret rfl (Or.inr (Or.inr (Or.inr (Or.inr ⟨rfl, rfl, rfl⟩)))) (hb hby d34_38) hr
theorem w_237 {a0 : Array Value} {Z : State} (hw : ∀ d ∈ tables_1, d.before a0 Z = true) : Jvm.Cond.before (Jvm.Cond.code ({ cls := "java/util/ImmutableCollections", name := "listFromArray", desc := "([Ljava/lang/Object;)Ljava/util/List;" } : Jvm.MethodName) jdk_56_method_4_code (3 : Nat) (Option.some (Jvm.ClassFile.FieldType.object "java/util/List"))) a0 Z = true := hw _ (List.mem_of_getElem? (i := 237) rfl)
theorem w_235 {a0 : Array Value} {Z : State} (hw : ∀ d ∈ tables_1, d.before a0 Z = true) : Jvm.Cond.before (Jvm.Cond.methodLink "java/util/List" (109 : Nat) ({ cls := "java/util/ImmutableCollections", name := "listFromArray", desc := "([Ljava/lang/Object;)Ljava/util/List;" } : Jvm.MethodName)) a0 Z = true := hw _ (List.mem_of_getElem? (i := 235) rfl)
theorem w_236 {a0 : Array Value} {Z : State} (hw : ∀ d ∈ tables_1, d.before a0 Z = true) : Jvm.Cond.before (Jvm.Cond.static ({ cls := "java/util/ImmutableCollections", name := "listFromArray", desc := "([Ljava/lang/Object;)Ljava/util/List;" } : Jvm.MethodName)) a0 Z = true := hw _ (List.mem_of_getElem? (i := 236) rfl)
theorem d24_63 : decode jdk_40_method_47_code 63 = .ok (.areturn, 1) := by decide +kernel
-- java/util/List.of([Ljava/lang/Object;)Ljava/util/List;
abbrev Rm61 : Room := { frames := 6, cells := 2, slots := 5, locals := 77 }
def Q61 (Z : State) (a1 : Addr) (a2 : Addr) (k3 : ClassId) (h0 : Heap) (n0 : Nat) (v : Option Value) (h : Heap) (L : List Loc) : Prop := ∃ b5_b32 : Addr, ∃ b5_b5 : Addr, ∃ k5_k5 : ClassId, v = some (.ref b5_b32) ∧ Fr n0 L ∧ Keep h0 h [] ∧ h0.size ≤ b5_b32 ∧ Exa Z h b5_b32 "java/util/ImmutableCollections$ListN" ∧ Fld Z h b5_b32 "java/util/ImmutableCollections$ListN" "allowNulls" "Z" (.int (0 : Int32)) ∧ Fld Z h b5_b32 "java/util/ImmutableCollections$ListN" "elements" "[Ljava/lang/Object;" (.ref b5_b5) ∧ h0.size ≤ b5_b5 ∧ Exa Z h b5_b5 "[Ljava/lang/Object;" ∧ Ovr Z k5_k5 "java/lang/Object" ∧ Arv Z h b5_b5 k5_k5 (.object "java/lang/Object") (3 : Int32) [(.ref a2), (.ref a2), (.ref a2)] .null ∧ b5_b32 ≠ b5_b5
theorem ef61 (a1 : Addr) (m : MethodId) : entryFrame m #[(.ref a1)] 2 = mkF m 0 #[.val (.ref a1), .unset] [] := by first | (simp [entryFrame, mkF, argsToLocals, Value.category]; done) | rfl
theorem rm61 (l : Launch) (Z : State) (a0 : Array Value) (hw : ∀ d ∈ tables_1, d.before a0 Z = true) (ws : List Jvm.Cond) (a1 : Addr) (a2 : Addr) (k3 : ClassId) (h0 : Heap) (n0 : Nat) (Z0 : n0 ≤ h0.size) (V_a1 : Arv Z h0 a1 k3 (.object "java/lang/Object") (3 : Int32) [(.ref a2), (.ref a2), (.ref a2)] .null) (E_a2 : Exa Z h0 a2 "com/example/feedergen/feedergen/core/StopCandidate") :
    OwnMet l Z y_26 jdk_40_method_47_code 2 (some (.object "java/util/List")) ws Rm61 #[(.ref a1)] h0 (Q61 Z a1 a2 k3 h0 n0) := by
  refine own_body (plainFor_of_name pn_12) (ef61 a1) ?_
  intro p e s m below meth c s₁ hx hby hml hown hnm hret hZ X0 e0
  have N0 := Fr.nil n0
  obtain ⟨cl4, Ar4, q4, S4, M4, Hs4, G4⟩ := id V_a1
  obtain ⟨_, T5, L5, X5, hQ5, st5⟩ := own_callS X0 hx hZ hown (y := y_37) (w_235 hw) (w_236 hw) (w_118 hw) (w_237 hw) (rm60 l Z a0 hw [] a1 a2 k3 h0 n0 Z0 V_a1 E_a2) e0 (Ls := #[.val (.ref a1), .unset]) (by rw [hml]; rfl) (argsL := [(.ref a1)]) (rest := []) (lenOf pd_15 rfl) (hb hby d24_60) (W := 0)
  obtain ⟨b5_b32, b5_b5, k5_k5, rfl, Nq5, K5, o5_0, o5_1, o5_2, o5_3, o5_4, o5_5, o5_6, o5_7, o5_8⟩ := hQ5
  have N5 := Fr.app N0 Nq5
  have s0 := K5.1
  have sz_b5_b32 : h0.size ≤ b5_b32 := o5_0
  have sz_b5_b5 : h0.size ≤ b5_b5 := o5_4
  have Kp0 : Keep h0 T5.heap [] := (Keep.refl h0 []).trans K5 all0
  refine ⟨T5, _, _, _, (some (.ref b5_b32)), X5, nofun, by decide, by decide, ?_, fun fs hr => ?_⟩
  · show Q61 Z a1 a2 k3 h0 n0 _ T5.heap _
    exact ⟨b5_b32, b5_b5, k5_k5, rfl, N5, Kp0, sz_b5_b32, o5_1, o5_2, o5_3, sz_b5_b5, o5_5, o5_6, o5_7, o5_8⟩
  · show Steps p.tables e below (s₁.setTop (mkF m 0 #[.val (.ref a1), .unset] [])) _
    refine XS.aloadN X0.here hx rfl (hb hby d24_0) rfl rfl ?_
    refine X0.arraylength hx (by rw [e0]; exact Ar4.1) (State.isArrayOf_alike hZ.alike Ar4.2.1) (g := (mkF m 1 #[.val (.ref a1), .unset] [(.ref a1)])) rfl rfl (hb hby d24_1) _ ?_
    show Steps p.tables e below (s₁.setTop (mkF m 2 #[.val (.ref a1), .unset] [(.int cl4.slots.size.toInt32)])) _
    rw [len_of S4 M4]
    refine XS.tswOut X0.here hx rfl (pc0 := 2) (pc' := 59) rfl (hb hby d24_2) rfl (by decide) (by decide) (by decide) ?_
    refine XS.aloadN X0.here hx rfl (hb hby d24_59) rfl rfl ?_
    refine st5 _ ?_
    exact retOut X5 hx hret rfl (Or.inr (Or.inr (Or.inr (Or.inr ⟨rfl, rfl, rfl⟩)))) (hb hby d24_63) hr
-- java/util/ImmutableCollections.listCopy(Ljava/util/Collection;)Ljava/util/List;
abbrev Rm62 : Room := { frames := 7, cells := 3, slots := 8, locals := 90 }
def Q62 (Z : State) (a1 : Addr) (a5 : Addr) (a6 : Addr) (a7 : Addr) (k8 : ClassId) (h0 : Heap) (n0 : Nat) (v : Option Value) (h : Heap) (L : List Loc) : Prop := ∃ b11_b5_b32 : Addr, ∃ b11_b5_b5 : Addr, ∃ k11_k5_k5 : ClassId, v = some (.ref b11_b5_b32) ∧ Fr n0 L ∧ Keep h0 h [] ∧ h0.size ≤ b11_b5_b32 ∧ Exa Z h b11_b5_b32 "java/util/ImmutableCollections$ListN" ∧ Fld Z h b11_b5_b32 "java/util/ImmutableCollections$ListN" "allowNulls" "Z" (.int (0 : Int32)) ∧ Fld Z h b11_b5_b32 "java/util/ImmutableCollections$ListN" "elements" "[Ljava/lang/Object;" (.ref b11_b5_b5) ∧ h0.size ≤ b11_b5_b5 ∧ Exa Z h b11_b5_b5 "[Ljava/lang/Object;" ∧ Ovr Z k11_k5_k5 "java/lang/Object" ∧ Arv Z h b11_b5_b5 k11_k5_k5 (.object "java/lang/Object") (3 : Int32) [(.ref a7), (.ref a7), (.ref a7)] .null ∧ b11_b5_b32 ≠ b11_b5_b5
theorem ef62 (a1 : Addr) (m : MethodId) : entryFrame m #[(.ref a1)] 2 = mkF m 0 #[.val (.ref a1), .unset] [] := by first | (simp [entryFrame, mkF, argsToLocals, Value.category]; done) | rfl
theorem rm62 (l : Launch) (Z : State) (a0 : Array Value) (hw : ∀ d ∈ tables_1, d.before a0 Z = true) (ws : List Jvm.Cond) (a1 : Addr) (a5 : Addr) (a6 : Addr) (a7 : Addr) (k8 : ClassId) (h0 : Heap) (n0 : Nat) (Z0 : n0 ≤ h0.size) (E_a1 : Exa Z h0 a1 "java/util/ArrayList") (F_size_a1 : Fld Z h0 a1 "java/util/ArrayList" "size" "I" (.int (3 : Int32))) (F_elementData_a1 : Fld Z h0 a1 "java/util/ArrayList" "elementData" "[Ljava/lang/Object;" (.ref a5)) (E_a5 : Exa Z h0 a5 "[Ljava/lang/Object;") (M_1 : OwnMir Z "[Ljava/lang/Object;" a6) (V_a5 : Arv Z h0 a5 k8 (.object "java/lang/Object") (10 : Int32) [(.ref a7), (.ref a7), (.ref a7), .null, .null, .null, .null, .null, .null, .null] .null) (E_a7 : Exa Z h0 a7 "com/example/feedergen/feedergen/core/StopCandidate") :
    OwnMet l Z y_27 jdk_56_method_3_code 2 (some (.object "java/util/List")) ws Rm62 #[(.ref a1)] h0 (Q62 Z a1 a5 a6 a7 k8 h0 n0) := by
  refine own_body (plainFor_of_name pn_13) (ef62 a1) ?_
  intro p e s m below meth c s₁ hx hby hml hown hnm hret hZ X0 e0
  have N0 := Fr.nil n0
  obtain ⟨T2, X2, e2, st2⟩ := instNo X0 hx hZ hown (w_120 hw) e0 E_a1 (own_NSno (w_121 hw) (w_169 hw) (NS.step (w_121 hw) (NS.step (w_122 hw) (NS.step (w_123 hw) (own_NSroot (w_124 hw) (w_169 hw) (by decide)) (by decide)) (by decide)) (by decide)) (by decide)) (g := (mkF m 1 #[.val (.ref a1), .unset] [(.ref a1)])) rfl rfl (hb hby d18_1)
  obtain ⟨T3, X3, e3, st3⟩ := instNo X2 hx hZ hown (w_125 hw) e2 E_a1 (own_NSno (w_121 hw) (w_240 hw) (NS.step (w_121 hw) (NS.step (w_122 hw) (NS.step (w_123 hw) (own_NSroot (w_124 hw) (w_240 hw) (by decide)) (by decide)) (by decide)) (by decide)) (by decide)) (g := (mkF m 8 #[.val (.ref a1), .unset] [(.ref a1)])) rfl rfl (hb hby d18_8)
  obtain ⟨_, T4, L4, X4, hQ4, st4⟩ := own_iface X3 hx hZ hown (y := y_16) (z := y_15) E_a1 (w_126 hw) (w_127 hw) (w_128 hw) (w_129 hw) (w_130 hw) (w_131 hw) (w_132 hw) (w_133 hw) (w_23 hw) (w_134 hw) (rm54 l Z a0 hw [] a1 h0 n0 Z0 F_size_a1) e3 (Ls := #[.val (.ref a1), .unset]) (by rw [hml]; rfl) (argsL := []) (rest := []) (lenOf pd_10 rfl) (hb hby d18_32) (W := 0)
  obtain ⟨rfl, Nq4, e4⟩ := hQ4
  have N4 := Fr.app N0 Nq4
  obtain ⟨_, T9, L9, X9, hQ9, st9⟩ := own_iface X4 hx hZ hown (y := y_21) (z := y_20) E_a1 (w_135 hw) (w_136 hw) (w_137 hw) (w_138 hw) (w_139 hw) (w_140 hw) (w_141 hw) (w_133 hw) (w_23 hw) (w_142 hw) (rm58 l Z a0 hw [] a1 a5 a6 a7 k8 h0 n0 Z0 F_elementData_a1 F_size_a1 E_a5 M_1 V_a5 E_a7) e4 (Ls := #[.val (.ref a1), .unset]) (by rw [hml]; rfl) (argsL := []) (rest := []) (lenOf pd_4 rfl) (hb hby d18_45) (W := 0)
  obtain ⟨b9_b8_b6_b4, k9_k8_k6_k4, rfl, Nq9, K9, o9_0, o9_1, o9_2, o9_3⟩ := hQ9
  have N9 := Fr.app N4 Nq9
  have s0 := K9.1
  have Ex10 := (E_a7.keep K9)
  have z1 := Nat.le_trans Z0 s0
  obtain ⟨_, T11, L11, X11, hQ11, st11⟩ := own_callS X9 hx hZ hown (y := y_26) (w_165 hw) (w_166 hw) (w_114 hw) (w_167 hw) (rm61 l Z a0 hw [] b9_b8_b6_b4 a7 k9_k8_k6_k4 T9.heap n0 z1 o9_3 Ex10) rfl (Ls := #[.val (.ref a1), .unset]) (by rw [hml]; rfl) (argsL := [(.ref b9_b8_b6_b4)]) (rest := []) (lenOf pd_15 rfl) (hb hby d18_50) (W := 0)
  obtain ⟨b11_b5_b32, b11_b5_b5, k11_k5_k5, rfl, Nq11, K11, o11_0, o11_1, o11_2, o11_3, o11_4, o11_5, o11_6, o11_7, o11_8⟩ := hQ11
  have N11 := Fr.app N9 Nq11
  have s1 := K11.1
  have sz_b11_b5_b32 : h0.size ≤ b11_b5_b32 := Nat.le_trans s0 o11_0
  have sz_b11_b5_b5 : h0.size ≤ b11_b5_b5 := Nat.le_trans s0 o11_4
  have Kp0 : Keep h0 T9.heap [] := (Keep.refl h0 []).trans K9 all0
  have Kp1 : Keep h0 T11.heap [] := Kp0.trans K11 all0
  refine ⟨T11, _, _, _, (some (.ref b11_b5_b32)), X11, nofun, by decide, by decide, ?_, fun fs hr => ?_⟩
  · show Q62 Z a1 a5 a6 a7 k8 h0 n0 _ T11.heap _
    exact ⟨b11_b5_b32, b11_b5_b5, k11_k5_k5, rfl, N11, Kp1, sz_b11_b5_b32, o11_1, o11_2, o11_3, sz_b11_b5_b5, o11_5, o11_6, o11_7, o11_8⟩
  · show Steps p.tables e below (s₁.setTop (mkF m 0 #[.val (.ref a1), .unset] [])) _
    refine XS.aloadN X0.here hx rfl (hb hby d18_0) rfl rfl ?_
    refine st2 _ ?_
    refine XS.ifNo X2.here hx rfl (hb hby d18_4) rfl ((if0 _ _).trans (teq ((by decide : (0 : Int32) = (0 : Int32)) : (0 : Int32) = (0 : Int32))).2) ?_
    refine XS.aloadN X2.here hx rfl (hb hby d18_7) rfl rfl ?_
    refine st3 _ ?_
    refine XS.ifYes X3.here hx rfl (pc0 := 11) (pc' := 31) rfl (hb hby d18_11) rfl ((if0 _ _).trans (teq ((by decide : (0 : Int32) = (0 : Int32)) : (0 : Int32) = (0 : Int32))).1) (by decide) (by decide) ?_
    refine XS.aloadN X3.here hx rfl (hb hby d18_31) rfl rfl ?_
    refine st4 _ ?_
    refine XS.ifYes X4.here hx rfl (pc0 := 37) (pc' := 44) rfl (hb hby d18_37) rfl ((if0 _ _).trans (teq ((by decide : (0 : Int32) = (0 : Int32)) : (0 : Int32) = (0 : Int32))).1) (by decide) (by decide) ?_
    refine XS.aloadN X4.here hx rfl (hb hby d18_44) rfl rfl ?_
    refine st9 _ ?_
    refine st11 _ ?_
    show Steps p.tables e below (T11.setTop (mkF m 53 #[.val (.ref a1), .unset] [(.ref b11_b5_b32)])) _
    exact retOut X11 hx hret rfl (Or.inr (Or.inr (Or.inr (Or.inr ⟨rfl, rfl, rfl⟩)))) (hb hby d18_53) hr
-- java/util/List.copyOf(Ljava/util/Collection;)Ljava/util/List;
abbrev Rm63 : Room := { frames := 8, cells := 3, slots := 8, locals := 103 }
def Q63 (Z : State) (a1 : Addr) (a2 : Addr) (a3 : Addr) (a4 : Addr) (k5 : ClassId) (h0 : Heap) (n0 : Nat) (v : Option Value) (h : Heap) (L : List Loc) : Prop := ∃ b6_b11_b5_b32 : Addr, ∃ b6_b11_b5_b5 : Addr, ∃ k6_k11_k5_k5 : ClassId, v = some (.ref b6_b11_b5_b32) ∧ Fr n0 L ∧ Keep h0 h [] ∧ h0.size ≤ b6_b11_b5_b32 ∧ Exa Z h b6_b11_b5_b32 "java/util/ImmutableCollections$ListN" ∧ Fld Z h b6_b11_b5_b32 "java/util/ImmutableCollections$ListN" "allowNulls" "Z" (.int (0 : Int32)) ∧ Fld Z h b6_b11_b5_b32 "java/util/ImmutableCollections$ListN" "elements" "[Ljava/lang/Object;" (.ref b6_b11_b5_b5) ∧ h0.size ≤ b6_b11_b5_b5 ∧ Exa Z h b6_b11_b5_b5 "[Ljava/lang/Object;" ∧ Ovr Z k6_k11_k5_k5 "java/lang/Object" ∧ Arv Z h b6_b11_b5_b5 k6_k11_k5_k5 (.object "java/lang/Object") (3 : Int32) [(.ref a4), (.ref a4), (.ref a4)] .null ∧ b6_b11_b5_b32 ≠ b6_b11_b5_b5
theorem ef63 (a1 : Addr) (m : MethodId) : entryFrame m #[(.ref a1)] 1 = mkF m 0 #[.val (.ref a1)] [] := by first | (simp [entryFrame, mkF, argsToLocals, Value.category]; done) | rfl
theorem rm63 (l : Launch) (Z : State) (a0 : Array Value) (hw : ∀ d ∈ tables_1, d.before a0 Z = true) (ws : List Jvm.Cond) (a1 : Addr) (a2 : Addr) (a3 : Addr) (a4 : Addr) (k5 : ClassId) (h0 : Heap) (n0 : Nat) (Z0 : n0 ≤ h0.size) (E_a1 : Exa Z h0 a1 "java/util/ArrayList") (F_size_a1 : Fld Z h0 a1 "java/util/ArrayList" "size" "I" (.int (3 : Int32))) (F_elementData_a1 : Fld Z h0 a1 "java/util/ArrayList" "elementData" "[Ljava/lang/Object;" (.ref a2)) (E_a2 : Exa Z h0 a2 "[Ljava/lang/Object;") (M_1 : OwnMir Z "[Ljava/lang/Object;" a3) (V_a2 : Arv Z h0 a2 k5 (.object "java/lang/Object") (10 : Int32) [(.ref a4), (.ref a4), (.ref a4), .null, .null, .null, .null, .null, .null, .null] .null) (E_a4 : Exa Z h0 a4 "com/example/feedergen/feedergen/core/StopCandidate") :
    OwnMet l Z y_28 jdk_40_method_48_code 1 (some (.object "java/util/List")) ws Rm63 #[(.ref a1)] h0 (Q63 Z a1 a2 a3 a4 k5 h0 n0) := by
  refine own_body (plainFor_of_name pn_12) (ef63 a1) ?_
  intro p e s m below meth c s₁ hx hby hml hown hnm hret hZ X0 e0
  have N0 := Fr.nil n0
  obtain ⟨_, T6, L6, X6, hQ6, st6⟩ := own_callS X0 hx hZ hown (y := y_27) (w_116 hw) (w_117 hw) (w_118 hw) (w_119 hw) (rm62 l Z a0 hw [] a1 a2 a3 a4 k5 h0 n0 Z0 E_a1 F_size_a1 F_elementData_a1 E_a2 M_1 V_a2 E_a4) e0 (Ls := #[.val (.ref a1)]) (by rw [hml]; rfl) (argsL := [(.ref a1)]) (rest := []) (lenOf pd_16 rfl) (hb hby d17_1) (W := 0)
  obtain ⟨b6_b11_b5_b32, b6_b11_b5_b5, k6_k11_k5_k5, rfl, Nq6, K6, o6_0, o6_1, o6_2, o6_3, o6_4, o6_5, o6_6, o6_7, o6_8⟩ := hQ6
  have N6 := Fr.app N0 Nq6
  have s0 := K6.1
  have sz_b6_b11_b5_b32 : h0.size ≤ b6_b11_b5_b32 := o6_0
  have sz_b6_b11_b5_b5 : h0.size ≤ b6_b11_b5_b5 := o6_4
  have Kp0 : Keep h0 T6.heap [] := (Keep.refl h0 []).trans K6 all0
  refine ⟨T6, _, _, _, (some (.ref b6_b11_b5_b32)), X6, nofun, by decide, by decide, ?_, fun fs hr => ?_⟩
  · show Q63 Z a1 a2 a3 a4 k5 h0 n0 _ T6.heap _
    exact ⟨b6_b11_b5_b32, b6_b11_b5_b5, k6_k11_k5_k5, rfl, N6, Kp0, sz_b6_b11_b5_b32, o6_1, o6_2, o6_3, sz_b6_b11_b5_b5, o6_5, o6_6, o6_7, o6_8⟩
  · show Steps p.tables e below (s₁.setTop (mkF m 0 #[.val (.ref a1)] [])) _
    refine XS.aloadN X0.here hx rfl (hb hby d17_0) rfl rfl ?_
    refine st6 _ ?_
    exact retOut X6 hx hret rfl (Or.inr (Or.inr (Or.inr (Or.inr ⟨rfl, rfl, rfl⟩)))) (hb hby d17_4) hr
-- java/util/Arrays.copyOf([Ljava/lang/Object;ILjava/lang/Class;)[Ljava/lang/Object;
abbrev Rm64 : Room := { frames := 1, cells := 1, slots := 3, locals := 18 }
def Q64 (Z : State) (a1 : Addr) (a2 : Addr) (a5 : Addr) (a6 : Addr) (a7 : Addr) (k8 : ClassId) (h0 : Heap) (n0 : Nat) (v : Option Value) (h : Heap) (L : List Loc) : Prop := ∃ b4 : Addr, ∃ k4 : ClassId, v = some (.ref b4) ∧ Fr n0 L ∧ Keep h0 h [] ∧ h0.size ≤ b4 ∧ Exa Z h b4 "[Ljava/lang/Object;" ∧ Ovr Z k4 "java/lang/Object" ∧ Arv Z h b4 k4 (.object "java/lang/Object") (3 : Int32) [(.ref a5), (.ref a6), (.ref a7)] .null
theorem ef64 (a1 : Addr) (a2 : Addr) (m : MethodId) : entryFrame m #[(.ref a1), (.int (3 : Int32)), (.ref a2)] 4 = mkF m 0 #[.val (.ref a1), .val (.int (3 : Int32)), .val (.ref a2), .unset] [] := by first | (simp [entryFrame, mkF, argsToLocals, Value.category]; done) | rfl
theorem rm64 (l : Launch) (Z : State) (a0 : Array Value) (hw : ∀ d ∈ tables_1, d.before a0 Z = true) (ws : List Jvm.Cond) (a1 : Addr) (a2 : Addr) (a5 : Addr) (a6 : Addr) (a7 : Addr) (k8 : ClassId) (h0 : Heap) (n0 : Nat) (Z0 : n0 ≤ h0.size) (M_1 : OwnMir Z "[Ljava/lang/Object;" a2) (V_a1 : Arv Z h0 a1 k8 (.object "java/lang/Object") (10 : Int32) [(.ref a5), (.ref a6), (.ref a7), .null, .null, .null, .null, .null, .null, .null] .null) (E_a7 : Exa Z h0 a7 "java/lang/Double") (E_a6 : Exa Z h0 a6 "java/lang/Double") (E_a5 : Exa Z h0 a5 "java/lang/Double") :
    OwnMet l Z y_18 jdk_65_method_120_code 4 (some (.array (.object "java/lang/Object"))) ws Rm64 #[(.ref a1), (.int (3 : Int32)), (.ref a2)] h0 (Q64 Z a1 a2 a5 a6 a7 k8 h0 n0) := by
  refine own_body (plainFor_of_name pn_7) (ef64 a1 a2) ?_
  intro p e s m below meth c s₁ hx hby hml hown hnm hret hZ X0 e0
  have N0 := Fr.nil n0
  obtain ⟨T3, X3, e3, st3⟩ := own_ldcM X0 hx hZ hown (w_156 hw) M_1 e0 (g := (mkF m 1 #[.val (.ref a1), .val (.int (3 : Int32)), .val (.ref a2), .unset] [(.ref a2)])) rfl (hb hby d22_1)
  obtain ⟨T4, h4, k4, X4, e4, E4, A4, B4, O4, st4⟩ := newRE X3 hx hZ hown (w_157 hw) (w_74 hw) e3 (g := (mkF m 7 #[.val (.ref a1), .val (.int (3 : Int32)), .val (.ref a2), .unset] [(.int (3 : Int32))])) rfl (hb hby d22_7) rfl (by decide) (cap := 3) (by decide) (by decide) (by decide) (by decide) (ad := "[Ljava/lang/Object;") (by decide)
  obtain ⟨b4, g4⟩ : ∃ z, z = h0.size := ⟨_, rfl⟩
  rw [← g4] at A4 B4 st4
  have s0 := E4.1
  have Vn4 : Arv Z h4 b4 k4 (.object "java/lang/Object") (3 : Int32) [.null, .null, .null] .null := (Arv.new A4 (by decide)).pad (pad_rep [] .null 3)
  have Va9 := (V_a1.ext E4)
  obtain ⟨cl10, Ar10, q10, S10, M10, Hs10, G10⟩ := id Va9
  have z1 := Nat.le_trans Z0 s0
  obtain ⟨_, T11, L11, X11, hQ11, st11⟩ := own_callS X4 hx hZ hown (y := y_17) (w_158 hw) (w_159 hw) (w_71 hw) (w_160 hw) (rm55 l Z a0 hw []  h4 n0 z1) e4 (Ls := #[.val (.ref a1), .val (.int (3 : Int32)), .val (.ref a2), .val (.ref b4)]) (by rw [hml]; rfl) (argsL := [(.int (10 : Int32)), (.int (3 : Int32))]) (rest := [(.int (0 : Int32)), (.ref b4), (.int (0 : Int32)), (.ref a1)]) (lenOf pd_2 rfl) (hb hby d22_32) (W := 4)
  obtain ⟨rfl, Nq11, e11⟩ := hQ11
  have N11 := Fr.app N0 Nq11
  obtain ⟨cl12, Ar12, q12, S12, M12, Hs12, G12⟩ := id Vn4
  have Ex13 := (E_a7.ext E4)
  have Ex14 := (E_a6.ext E4)
  have Ex15 := (E_a5.ext E4)
  have g_b4 : n0 ≤ b4 := Nat.le_trans Z0 (Nat.le_of_eq g4.symm)
  obtain ⟨T16, h16, L16, X16, e16, N16, K16, V16, st16⟩ := cpA X11 hx hZ hown (w_161 hw) (w_164 hw) (w_162 hw) (w_163 hw) e11 Va9 Vn4 (us := [(.ref a5), (.ref a6), (.ref a7)]) (Or.inr ⟨rfl, rfl, ⟨(Sto.ofV Ar12 q12 O4 (Ins.of_exa Ex15 (w_95 hw))), ⟨(Sto.ofV Ar12 q12 O4 (Ins.of_exa Ex14 (w_95 hw))), ⟨(Sto.ofV Ar12 q12 O4 (Ins.of_exa Ex13 (w_95 hw))), trivial⟩⟩⟩⟩) (by decide) (by decide) (by decide) (by decide) (by decide) (by rfl) (by decide) N11 g_b4 (g := (mkF m 35 #[.val (.ref a1), .val (.int (3 : Int32)), .val (.ref a2), .val (.ref b4)] [(.int (3 : Int32)), (.int (0 : Int32)), (.ref b4), (.int (0 : Int32)), (.ref a1)])) rfl (by rw [hml]; rfl) rfl (hb hby d22_35) (by decide) (W := 0) (by show 2 * 0 + _ ≤ _; exact Nat.le_of_eq rfl) (by decide)
  have s1 := K16.1
  have Vc16 : Arv Z h16 b4 k4 (.object "java/lang/Object") (3 : Int32) [(.ref a5), (.ref a6), (.ref a7)] .null := V16
  have sz_b4 : h0.size ≤ b4 := (Nat.le_of_eq g4.symm)
  have Ex17 := (B4.keep K16)
  have Kp0 : Keep h0 h4 [] := (Keep.refl h0 []).ext E4
  have Kp1 : Keep h0 h16 [] := Kp0.trans K16 (allS (Or.inr sz_b4) all0)
  refine ⟨T16, _, _, _, (some (.ref b4)), X16, nofun, by decide, by decide, ?_, fun fs hr => ?_⟩
  · show Q64 Z a1 a2 a5 a6 a7 k8 h0 n0 _ T16.heap _
    rw [e16]
    exact ⟨b4, k4, rfl, N16, Kp1, sz_b4, Ex17, O4, Vc16⟩
  · show Steps p.tables e below (s₁.setTop (mkF m 0 #[.val (.ref a1), .val (.int (3 : Int32)), .val (.ref a2), .unset] [])) _
    refine XS.aloadN X0.here hx rfl (hb hby d22_0) rfl rfl ?_
    refine st3 _ ?_
    refine Jvm.RoadKit.acmp (g := (mkF m 3 #[.val (.ref a1), .val (.int (3 : Int32)), .val (.ref a2), .unset] [(.ref a2), (.ref a2)])) X3 hx rfl rfl rfl (pc0 := 3) (pc' := 6) (same := true) rfl (hb hby d22_3) rfl (decide_eq_true rfl) (by decide) (by decide) ?_
    refine XS.iloadN X3.here hx rfl (hb hby d22_6) rfl ?_
    refine st4 _ ?_
    refine XS.goto X4.here hx rfl (pc0 := 10) (pc' := 24) rfl (hb hby d22_10) (by decide) (by decide) ?_
    refine XS.astoreN X4.here hx rfl (hb hby d22_24) rfl rfl (l' := #[.val (.ref a1), .val (.int (3 : Int32)), .val (.ref a2), .val (.ref b4)]) rfl ?_
    refine XS.aloadN X4.here hx rfl (hb hby d22_25) rfl rfl ?_
    refine XS.iconst X4.here hx rfl (hb hby d22_26) ?_
    refine XS.aloadN X4.here hx rfl (hb hby d22_27) rfl rfl ?_
    refine XS.iconst X4.here hx rfl (hb hby d22_28) ?_
    refine XS.aloadN X4.here hx rfl (hb hby d22_29) rfl rfl ?_
    show Steps p.tables e below (T4.setTop (mkF m 30 #[.val (.ref a1), .val (.int (3 : Int32)), .val (.ref a2), .val (.ref b4)] [(.ref a1), (.int (0 : Int32)), (.ref b4), (.int (0 : Int32)), (.ref a1)])) _
    refine X4.arraylength hx (by rw [e4]; exact Ar10.1) (State.isArrayOf_alike hZ.alike Ar10.2.1) (g := (mkF m 30 #[.val (.ref a1), .val (.int (3 : Int32)), .val (.ref a2), .val (.ref b4)] [(.ref a1), (.int (0 : Int32)), (.ref b4), (.int (0 : Int32)), (.ref a1)])) rfl rfl (hb hby d22_30) _ ?_
    show Steps p.tables e below (T4.setTop (mkF m 31 #[.val (.ref a1), .val (.int (3 : Int32)), .val (.ref a2), .val (.ref b4)] [(.int cl10.slots.size.toInt32), (.int (0 : Int32)), (.ref b4), (.int (0 : Int32)), (.ref a1)])) _
    rw [len_of S10 M10]
    refine XS.iloadN X4.here hx rfl (hb hby d22_31) rfl ?_
    refine st11 _ ?_
    refine st16 _ ?_
    refine XS.aloadN X16.here hx rfl (hb hby d22_38) rfl rfl ?_
    exact retOut X16 hx hret rfl (Or.inr (Or.inr (Or.inr (Or.inr ⟨rfl, rfl, rfl⟩)))) (hb hby d22_39) hr
-- java/util/Arrays.copyOf([Ljava/lang/Object;I)[Ljava/lang/Object;
abbrev Rm65 : Room := { frames := 2, cells := 1, slots := 3, locals := 33 }
def Q65 (Z : State) (a1 : Addr) (a2 : Addr) (a4 : Addr) (a5 : Addr) (a6 : Addr) (k7 : ClassId) (h0 : Heap) (n0 : Nat) (v : Option Value) (h : Heap) (L : List Loc) : Prop := ∃ b8_b4 : Addr, ∃ k8_k4 : ClassId, v = some (.ref b8_b4) ∧ Fr n0 L ∧ Keep h0 h [] ∧ h0.size ≤ b8_b4 ∧ Exa Z h b8_b4 "[Ljava/lang/Object;" ∧ Ovr Z k8_k4 "java/lang/Object" ∧ Arv Z h b8_b4 k8_k4 (.object "java/lang/Object") (3 : Int32) [(.ref a4), (.ref a5), (.ref a6)] .null
theorem ef65 (a1 : Addr) (m : MethodId) : entryFrame m #[(.ref a1), (.int (3 : Int32))] 2 = mkF m 0 #[.val (.ref a1), .val (.int (3 : Int32))] [] := by first | (simp [entryFrame, mkF, argsToLocals, Value.category]; done) | rfl
theorem rm65 (l : Launch) (Z : State) (a0 : Array Value) (hw : ∀ d ∈ tables_1, d.before a0 Z = true) (ws : List Jvm.Cond) (a1 : Addr) (a2 : Addr) (a4 : Addr) (a5 : Addr) (a6 : Addr) (k7 : ClassId) (h0 : Heap) (n0 : Nat) (Z0 : n0 ≤ h0.size) (E_a1 : Exa Z h0 a1 "[Ljava/lang/Object;") (M_1 : OwnMir Z "[Ljava/lang/Object;" a2) (V_a1 : Arv Z h0 a1 k7 (.object "java/lang/Object") (10 : Int32) [(.ref a4), (.ref a5), (.ref a6), .null, .null, .null, .null, .null, .null, .null] .null) (E_a6 : Exa Z h0 a6 "java/lang/Double") (E_a5 : Exa Z h0 a5 "java/lang/Double") (E_a4 : Exa Z h0 a4 "java/lang/Double") :
    OwnMet l Z y_19 jdk_65_method_119_code 2 (some (.array (.object "java/lang/Object"))) ws Rm65 #[(.ref a1), (.int (3 : Int32))] h0 (Q65 Z a1 a2 a4 a5 a6 k7 h0 n0) := by
  refine own_body (plainFor_of_name pn_7) (ef65 a1) ?_
  intro p e s m below meth c s₁ hx hby hml hown hnm hret hZ X0 e0
  have N0 := Fr.nil n0
  obtain ⟨T3, X3, e3, st3⟩ := own_gcls X0 hx hZ hown (w_147 hw) (w_148 hw) (w_124 hw) (w_150 hw) (w_149 hw) (w_151 hw) e0 E_a1 M_1 (g := (mkF m 3 #[.val (.ref a1), .val (.int (3 : Int32))] [(.ref a1), (.int (3 : Int32)), (.ref a1)])) rfl (by rw [hml]; rfl) rfl (hb hby d21_3) (by decide) (W := 2) (by show 2 * 0 + _ ≤ _; exact Nat.le_of_eq rfl) (by decide)
  obtain ⟨_, T8, L8, X8, hQ8, st8⟩ := own_callS X3 hx hZ hown (y := y_18) (w_153 hw) (w_154 hw) (w_145 hw) (w_155 hw) (rm64 l Z a0 hw [] a1 a2 a4 a5 a6 k7 h0 n0 Z0 M_1 V_a1 E_a6 E_a5 E_a4) e3 (Ls := #[.val (.ref a1), .val (.int (3 : Int32))]) (by rw [hml]; rfl) (argsL := [(.ref a1), (.int (3 : Int32)), (.ref a2)]) (rest := []) (lenOf pd_11 rfl) (hb hby d21_6) (W := 0)
  obtain ⟨b8_b4, k8_k4, rfl, Nq8, K8, o8_0, o8_1, o8_2, o8_3⟩ := hQ8
  have N8 := Fr.app N0 Nq8
  have s0 := K8.1
  have sz_b8_b4 : h0.size ≤ b8_b4 := o8_0
  have Kp0 : Keep h0 T8.heap [] := (Keep.refl h0 []).trans K8 all0
  refine ⟨T8, _, _, _, (some (.ref b8_b4)), X8, nofun, by decide, by decide, ?_, fun fs hr => ?_⟩
  · show Q65 Z a1 a2 a4 a5 a6 k7 h0 n0 _ T8.heap _
    exact ⟨b8_b4, k8_k4, rfl, N8, Kp0, sz_b8_b4, o8_1, o8_2, o8_3⟩
  · show Steps p.tables e below (s₁.setTop (mkF m 0 #[.val (.ref a1), .val (.int (3 : Int32))] [])) _
    refine XS.aloadN X0.here hx rfl (hb hby d21_0) rfl rfl ?_
    refine XS.iloadN X0.here hx rfl (hb hby d21_1) rfl ?_
    refine XS.aloadN X0.here hx rfl (hb hby d21_2) rfl rfl ?_
    refine st3 _ ?_
    refine st8 _ ?_
    exact retOut X8 hx hret rfl (Or.inr (Or.inr (Or.inr (Or.inr ⟨rfl, rfl, rfl⟩)))) (hb hby d21_9) hr
-- java/util/ArrayList.toArray()[Ljava/lang/Object;
abbrev Rm66 : Room := { frames := 3, cells := 1, slots := 3, locals := 46 }
def Q66 (Z : State) (a1 : Addr) (a2 : Addr) (a5 : Addr) (a6 : Addr) (a7 : Addr) (a8 : Addr) (k9 : ClassId) (h0 : Heap) (n0 : Nat) (v : Option Value) (h : Heap) (L : List Loc) : Prop := ∃ b10_b8_b4 : Addr, ∃ k10_k8_k4 : ClassId, v = some (.ref b10_b8_b4) ∧ Fr n0 L ∧ Keep h0 h [] ∧ h0.size ≤ b10_b8_b4 ∧ Exa Z h b10_b8_b4 "[Ljava/lang/Object;" ∧ Ovr Z k10_k8_k4 "java/lang/Object" ∧ Arv Z h b10_b8_b4 k10_k8_k4 (.object "java/lang/Object") (3 : Int32) [(.ref a6), (.ref a7), (.ref a8)] .null
theorem ef66 (a1 : Addr) (m : MethodId) : entryFrame m #[(.ref a1)] 1 = mkF m 0 #[.val (.ref a1)] [] := by first | (simp [entryFrame, mkF, argsToLocals, Value.category]; done) | rfl
theorem rm66 (l : Launch) (Z : State) (a0 : Array Value) (hw : ∀ d ∈ tables_1, d.before a0 Z = true) (ws : List Jvm.Cond) (a1 : Addr) (a2 : Addr) (a5 : Addr) (a6 : Addr) (a7 : Addr) (a8 : Addr) (k9 : ClassId) (h0 : Heap) (n0 : Nat) (Z0 : n0 ≤ h0.size) (F_elementData_a1 : Fld Z h0 a1 "java/util/ArrayList" "elementData" "[Ljava/lang/Object;" (.ref a2)) (F_size_a1 : Fld Z h0 a1 "java/util/ArrayList" "size" "I" (.int (3 : Int32))) (E_a2 : Exa Z h0 a2 "[Ljava/lang/Object;") (M_1 : OwnMir Z "[Ljava/lang/Object;" a5) (V_a2 : Arv Z h0 a2 k9 (.object "java/lang/Object") (10 : Int32) [(.ref a6), (.ref a7), (.ref a8), .null, .null, .null, .null, .null, .null, .null] .null) (E_a8 : Exa Z h0 a8 "java/lang/Double") (E_a7 : Exa Z h0 a7 "java/lang/Double") (E_a6 : Exa Z h0 a6 "java/lang/Double") :
    OwnMet l Z y_20 jdk_38_method_16_code 1 (some (.array (.object "java/lang/Object"))) ws Rm66 #[(.ref a1)] h0 (Q66 Z a1 a2 a5 a6 a7 a8 k9 h0 n0) := by
  refine own_body (plainFor_of_name pn_4) (ef66 a1) ?_
  intro p e s m below meth c s₁ hx hby hml hown hnm hret hZ X0 e0
  have N0 := Fr.nil n0
  obtain ⟨T3, X3, e3, st3⟩ := getF X0 hx hZ hown (host := "") (Or.inl (w_43 hw)) Via.refl e0 F_elementData_a1 (g := (mkF m 1 #[.val (.ref a1)] [(.ref a1)])) rfl rfl (hb hby d20_1)
  obtain ⟨T4, X4, e4, st4⟩ := getF X3 hx hZ hown (host := "") (Or.inl (w_52 hw)) Via.refl e3 F_size_a1 (g := (mkF m 5 #[.val (.ref a1)] [(.ref a1), (.ref a2)])) rfl rfl (hb hby d20_5)
  obtain ⟨_, T10, L10, X10, hQ10, st10⟩ := own_callS X4 hx hZ hown (y := y_19) (w_143 hw) (w_144 hw) (w_145 hw) (w_146 hw) (rm65 l Z a0 hw [] a2 a5 a6 a7 a8 k9 h0 n0 Z0 E_a2 M_1 V_a2 E_a8 E_a7 E_a6) e4 (Ls := #[.val (.ref a1)]) (by rw [hml]; rfl) (argsL := [(.ref a2), (.int (3 : Int32))]) (rest := []) (lenOf pd_12 rfl) (hb hby d20_8) (W := 0)
  obtain ⟨b10_b8_b4, k10_k8_k4, rfl, Nq10, K10, o10_0, o10_1, o10_2, o10_3⟩ := hQ10
  have N10 := Fr.app N0 Nq10
  have s0 := K10.1
  have sz_b10_b8_b4 : h0.size ≤ b10_b8_b4 := o10_0
  have Kp0 : Keep h0 T10.heap [] := (Keep.refl h0 []).trans K10 all0
  refine ⟨T10, _, _, _, (some (.ref b10_b8_b4)), X10, nofun, by decide, by decide, ?_, fun fs hr => ?_⟩
  · show Q66 Z a1 a2 a5 a6 a7 a8 k9 h0 n0 _ T10.heap _
    exact ⟨b10_b8_b4, k10_k8_k4, rfl, N10, Kp0, sz_b10_b8_b4, o10_1, o10_2, o10_3⟩
  · show Steps p.tables e below (s₁.setTop (mkF m 0 #[.val (.ref a1)] [])) _
    refine XS.aloadN X0.here hx rfl (hb hby d20_0) rfl rfl ?_
    refine st3 _ ?_
    refine XS.aloadN X3.here hx rfl (hb hby d20_4) rfl rfl ?_
    refine st4 _ ?_
    refine st10 _ ?_
    exact retOut X10 hx hret rfl (Or.inr (Or.inr (Or.inr (Or.inr ⟨rfl, rfl, rfl⟩)))) (hb hby d20_11) hr
-- java/util/ImmutableCollections.listFromArray([Ljava/lang/Object;)Ljava/util/List;
abbrev Rm67 : Room := { frames := 5, cells := 2, slots := 5, locals := 63 }
def Q67 (Z : State) (a1 : Addr) (a2 : Addr) (a3 : Addr) (a4 : Addr) (k5 : ClassId) (h0 : Heap) (n0 : Nat) (v : Option Value) (h : Heap) (L : List Loc) : Prop := ∃ b34 : Addr, ∃ b7 : Addr, ∃ k7 : ClassId, v = some (.ref b34) ∧ Fr n0 L ∧ Keep h0 h [] ∧ h0.size ≤ b34 ∧ Exa Z h b34 "java/util/ImmutableCollections$ListN" ∧ Fld Z h b34 "java/util/ImmutableCollections$ListN" "allowNulls" "Z" (.int (0 : Int32)) ∧ Fld Z h b34 "java/util/ImmutableCollections$ListN" "elements" "[Ljava/lang/Object;" (.ref b7) ∧ h0.size ≤ b7 ∧ Exa Z h b7 "[Ljava/lang/Object;" ∧ Ovr Z k7 "java/lang/Object" ∧ Arv Z h b7 k7 (.object "java/lang/Object") (3 : Int32) [(.ref a2), (.ref a3), (.ref a4)] .null ∧ b34 ≠ b7
theorem ef67 (a1 : Addr) (m : MethodId) : entryFrame m #[(.ref a1)] 3 = mkF m 0 #[.val (.ref a1), .unset, .unset] [] := by first | (simp [entryFrame, mkF, argsToLocals, Value.category]; done) | rfl
theorem rm67 (l : Launch) (Z : State) (a0 : Array Value) (hw : ∀ d ∈ tables_1, d.before a0 Z = true) (ws : List Jvm.Cond) (a1 : Addr) (a2 : Addr) (a3 : Addr) (a4 : Addr) (k5 : ClassId) (h0 : Heap) (n0 : Nat) (Z0 : n0 ≤ h0.size) (V_a1 : Arv Z h0 a1 k5 (.object "java/lang/Object") (3 : Int32) [(.ref a2), (.ref a3), (.ref a4)] .null) (E_a2 : Exa Z h0 a2 "java/lang/Double") (E_a3 : Exa Z h0 a3 "java/lang/Double") (E_a4 : Exa Z h0 a4 "java/lang/Double") :
    OwnMet l Z y_37 jdk_56_method_4_code 3 (some (.object "java/util/List")) ws Rm67 #[(.ref a1)] h0 (Q67 Z a1 a2 a3 a4 k5 h0 n0) := by
  refine own_body (plainFor_of_name pn_13) (ef67 a1) ?_
  intro p e s m below meth c s₁ hx hby hml hown hnm hret hZ X0 e0
  have N0 := Fr.nil n0
  obtain ⟨cl6, Ar6, q6, S6, M6, Hs6, G6⟩ := id V_a1
  obtain ⟨T7, h7, k7, X7, e7, E7, A7, B7, O7, st7⟩ := newRE X0 hx hZ hown (w_238 hw) (w_74 hw) e0 (g := (mkF m 2 #[.val (.ref a1), .unset, .unset] [(.int (3 : Int32))])) rfl (hb hby d34_2) rfl (by decide) (cap := 3) (by decide) (by decide) (by decide) (by decide) (ad := "[Ljava/lang/Object;") (by decide)
  obtain ⟨b7, g7⟩ : ∃ z, z = h0.size := ⟨_, rfl⟩
  rw [← g7] at A7 B7 st7
  have s0 := E7.1
  have Vn7 : Arv Z h7 b7 k7 (.object "java/lang/Object") (3 : Int32) [.null, .null, .null] .null := (Arv.new A7 (by decide)).pad (pad_rep [] .null 3)
  have Va8 := (V_a1.ext E7)
  obtain ⟨cl9, Ar9, q9, S9, M9, Hs9, G9⟩ := id Va8
  have hin10 : ¬ ((0 : Int32) < 0 ∨ cl9.slots.size ≤ ((0 : Int32)).toNatClampNeg) := inb_of S9 ⟨(by decide : ¬ ((0 : Int32) < (0 : Int32))), (by decide : (0 : Int32) < (3 : Int32))⟩
  have z1 := Nat.le_trans Z0 s0
  obtain ⟨_, T11, L11, X11, hQ11, st11⟩ := own_callS X7 hx hZ hown (y := y_24) (w_239 hw) (w_190 hw) (w_191 hw) (w_192 hw) (rm28 l Z a0 hw [] a2 h7 n0 z1) e7 (Ls := #[.val (.ref a1), .val (.ref b7), .val (.int (0 : Int32))]) (by rw [hml]; rfl) (argsL := [(.ref a2)]) (rest := [(.int (0 : Int32)), (.ref b7)]) (lenOf pd_13 rfl) (hb hby d34_19) (W := 2)
  obtain ⟨rfl, Nq11, e11⟩ := hQ11
  have N11 := Fr.app N0 Nq11
  obtain ⟨cl12, Ar12, q12, S12, M12, Hs12, G12⟩ := id Vn7
  have hin13 : ¬ ((0 : Int32) < 0 ∨ cl12.slots.size ≤ ((0 : Int32)).toNatClampNeg) := inb_of S12 ⟨(by decide : ¬ ((0 : Int32) < (0 : Int32))), (by decide : (0 : Int32) < (3 : Int32))⟩
  have Ex14 := (E_a2.ext E7)
  obtain ⟨T15, h15, X15, e15, W15, st15⟩ := stR X11 hx hZ e11 Ar12 (j := (0 : Int32)) hin13 rfl (Sto.ofV Ar12 q12 O7 (Ins.of_exa Ex14 (w_95 hw))) (g := (mkF m 22 #[.val (.ref a1), .val (.ref b7), .val (.int (0 : Int32))] [(.ref a2), (.int (0 : Int32)), (.ref b7)])) rfl rfl (hb hby d34_22)
  have s1 := (Keep.of_wr W15).1
  have g_b7 : n0 ≤ b7 := Nat.le_trans Z0 (Nat.le_of_eq g7.symm)
  have N15 := Fr.snoc X15 N11 g_b7
  have Vs15 : Arv Z h15 b7 k7 (.object "java/lang/Object") (3 : Int32) [(.ref a2), .null, .null] .null := Arv.set Ar12 q12 S12 M12 Hs12 G12 rfl W15 0 rfl (Nat.le_of_ble_eq_true rfl)
  have ne_a1_b7 := Nat.ne_of_lt (Nat.lt_of_lt_of_le V_a1.lt (Nat.le_of_eq g7.symm))
  have Va16 := (Va8.other W15 ne_a1_b7)
  obtain ⟨cl17, Ar17, q17, S17, M17, Hs17, G17⟩ := id Va16
  have hin18 : ¬ ((1 : Int32) < 0 ∨ cl17.slots.size ≤ ((1 : Int32)).toNatClampNeg) := inb_of S17 ⟨(by decide : ¬ ((1 : Int32) < (0 : Int32))), (by decide : (1 : Int32) < (3 : Int32))⟩
  have z2 := Nat.le_trans Z0 (Nat.le_trans s0 s1)
  obtain ⟨_, T19, L19, X19, hQ19, st19⟩ := own_callS X15 hx hZ hown (y := y_24) (w_239 hw) (w_190 hw) (w_191 hw) (w_192 hw) (rm28 l Z a0 hw [] a3 h15 n0 z2) e15 (Ls := #[.val (.ref a1), .val (.ref b7), .val (.int (1 : Int32))]) (by rw [hml]; rfl) (argsL := [(.ref a3)]) (rest := [(.int (1 : Int32)), (.ref b7)]) (lenOf pd_13 rfl) (hb hby d34_19) (W := 2)
  obtain ⟨rfl, Nq19, e19⟩ := hQ19
  have N19 := Fr.app N15 Nq19
  obtain ⟨cl20, Ar20, q20, S20, M20, Hs20, G20⟩ := id Vs15
  have hin21 : ¬ ((1 : Int32) < 0 ∨ cl20.slots.size ≤ ((1 : Int32)).toNatClampNeg) := inb_of S20 ⟨(by decide : ¬ ((1 : Int32) < (0 : Int32))), (by decide : (1 : Int32) < (3 : Int32))⟩
  have Ex22 := ((E_a3.ext E7).wr W15)
  obtain ⟨T23, h23, X23, e23, W23, st23⟩ := stR X19 hx hZ e19 Ar20 (j := (1 : Int32)) hin21 rfl (Sto.ofV Ar20 q20 O7 (Ins.of_exa Ex22 (w_95 hw))) (g := (mkF m 22 #[.val (.ref a1), .val (.ref b7), .val (.int (1 : Int32))] [(.ref a3), (.int (1 : Int32)), (.ref b7)])) rfl rfl (hb hby d34_22)
  have s2 := (Keep.of_wr W23).1
  have N23 := Fr.snoc X23 N19 g_b7
  have Vs23 : Arv Z h23 b7 k7 (.object "java/lang/Object") (3 : Int32) [(.ref a2), (.ref a3), .null] .null := Arv.set Ar20 q20 S20 M20 Hs20 G20 rfl W23 1 rfl (Nat.le_of_ble_eq_true rfl)
  have Va24 := (Va16.other W23 ne_a1_b7)
  obtain ⟨cl25, Ar25, q25, S25, M25, Hs25, G25⟩ := id Va24
  have hin26 : ¬ ((2 : Int32) < 0 ∨ cl25.slots.size ≤ ((2 : Int32)).toNatClampNeg) := inb_of S25 ⟨(by decide : ¬ ((2 : Int32) < (0 : Int32))), (by decide : (2 : Int32) < (3 : Int32))⟩
  have z3 := Nat.le_trans Z0 (Nat.le_trans (Nat.le_trans s0 s1) s2)
  obtain ⟨_, T27, L27, X27, hQ27, st27⟩ := own_callS X23 hx hZ hown (y := y_24) (w_239 hw) (w_190 hw) (w_191 hw) (w_192 hw) (rm28 l Z a0 hw [] a4 h23 n0 z3) e23 (Ls := #[.val (.ref a1), .val (.ref b7), .val (.int (2 : Int32))]) (by rw [hml]; rfl) (argsL := [(.ref a4)]) (rest := [(.int (2 : Int32)), (.ref b7)]) (lenOf pd_13 rfl) (hb hby d34_19) (W := 2)
  obtain ⟨rfl, Nq27, e27⟩ := hQ27
  have N27 := Fr.app N23 Nq27
  obtain ⟨cl28, Ar28, q28, S28, M28, Hs28, G28⟩ := id Vs23
  have hin29 : ¬ ((2 : Int32) < 0 ∨ cl28.slots.size ≤ ((2 : Int32)).toNatClampNeg) := inb_of S28 ⟨(by decide : ¬ ((2 : Int32) < (0 : Int32))), (by decide : (2 : Int32) < (3 : Int32))⟩
  have Ex30 := (((E_a4.ext E7).wr W15).wr W23)
  obtain ⟨T31, h31, X31, e31, W31, st31⟩ := stR X27 hx hZ e27 Ar28 (j := (2 : Int32)) hin29 rfl (Sto.ofV Ar28 q28 O7 (Ins.of_exa Ex30 (w_95 hw))) (g := (mkF m 22 #[.val (.ref a1), .val (.ref b7), .val (.int (2 : Int32))] [(.ref a4), (.int (2 : Int32)), (.ref b7)])) rfl rfl (hb hby d34_22)
  have s3 := (Keep.of_wr W31).1
  have N31 := Fr.snoc X31 N27 g_b7
  have Vs31 : Arv Z h31 b7 k7 (.object "java/lang/Object") (3 : Int32) [(.ref a2), (.ref a3), (.ref a4)] .null := Arv.set Ar28 q28 S28 M28 Hs28 G28 rfl W31 2 rfl (Nat.le_of_ble_eq_true rfl)
  have Va32 := (Va24.other W31 ne_a1_b7)
  obtain ⟨cl33, Ar33, q33, S33, M33, Hs33, G33⟩ := id Va32
  obtain ⟨T34, h34, X34, e34, E34, A34, D34, -, st34⟩ := newO X31 hx hZ hown (w_125 hw) (w_240 hw) (w_241 hw) e31 (g := (mkF m 29 #[.val (.ref a1), .val (.ref b7), .val (.int (3 : Int32))] [])) rfl (hb hby d34_29) (by decide) (by decide)
  obtain ⟨b34, g34⟩ : ∃ z, z = h31.size := ⟨_, rfl⟩
  rw [← g34] at A34 D34 st34
  have s4 := E34.1
  have Fn34_elements : Fld Z h34 b34 "java/util/ImmutableCollections$ListN" "elements" "[Ljava/lang/Object;" .null := D34 (Or.inr (w_251 hw)) (ty := (.array (.object "java/lang/Object"))) (by decide)
  have Fn34_allowNulls : Fld Z h34 b34 "java/util/ImmutableCollections$ListN" "allowNulls" "Z" (.int (0 : Int32)) := D34 (Or.inr (w_253 hw)) (ty := .boolean) (by decide)
  have z4 := Nat.le_trans Z0 (Nat.le_trans (Nat.le_trans (Nat.le_trans s0 s1) s2) s3)
  have g_b34 : n0 ≤ b34 := Nat.le_trans z4 (Nat.le_of_eq g34.symm)
  have z5 := Nat.le_trans Z0 (Nat.le_trans (Nat.le_trans (Nat.le_trans (Nat.le_trans s0 s1) s2) s3) s4)
  obtain ⟨_, T35, L35, X35, hQ35, st35⟩ := own_specialNest X34 hx hZ hown (y := y_36) (a := b34) (own_mvNest hZ (w_242 hw)) (w_243 hw) (w_241 hw) (w_245 hw) (rm59 l Z a0 hw [] b34 b7 h34 n0 z5 Fn34_elements A34 g_b34 Fn34_allowNulls) e34 (Ls := #[.val (.ref a1), .val (.ref b7), .val (.int (3 : Int32))]) (by rw [hml]; rfl) (argsL := [(.ref b7), (.int (0 : Int32))]) (rest := [(.ref b34)]) (lenOf pd_21 rfl) (hb hby d34_35) (W := 1)
  obtain ⟨rfl, Nq35, K35, o35_0, o35_1, o35_2⟩ := hQ35
  have N35 := Fr.app N31 Nq35
  have s5 := K35.1
  have sz_b34 : h0.size ≤ b34 := Nat.le_trans (Nat.le_trans (Nat.le_trans (Nat.le_trans s0 s1) s2) s3) (Nat.le_of_eq g34.symm)
  have sz_b7 : h0.size ≤ b7 := (Nat.le_of_eq g7.symm)
  have Ex36 := (((((B7.wr W15).wr W23).wr W31).ext E34).keep K35)
  have ne_b7_b34 := Nat.ne_of_lt (Nat.lt_of_lt_of_le Vs31.lt (Nat.le_of_eq g34.symm))
  have Va37 := ((Vs31.ext E34).keep K35 (ninS ne_b7_b34 nin0))
  have Kp0 : Keep h0 h7 [] := (Keep.refl h0 []).ext E7
  have Kp1 : Keep h0 h15 [] := Kp0.wr W15 (Or.inr sz_b7)
  have Kp2 : Keep h0 h23 [] := Kp1.wr W23 (Or.inr sz_b7)
  have Kp3 : Keep h0 h31 [] := Kp2.wr W31 (Or.inr sz_b7)
  have Kp4 : Keep h0 h34 [] := Kp3.ext E34
  have Kp5 : Keep h0 T35.heap [] := Kp4.trans K35 (allS (Or.inr sz_b34) all0)
  refine ⟨T35, _, _, _, (some (.ref b34)), X35, nofun, by decide, by decide, ?_, fun fs hr => ?_⟩
  · show Q67 Z a1 a2 a3 a4 k5 h0 n0 _ T35.heap _
    exact ⟨b34, b7, k7, rfl, N35, Kp5, sz_b34, o35_0, o35_1, o35_2, sz_b7, Ex36, O7, Va37, (Ne.symm ne_b7_b34)⟩
  · show Steps p.tables e below (s₁.setTop (mkF m 0 #[.val (.ref a1), .unset, .unset] [])) _
    refine XS.aloadN X0.here hx rfl (hb hby d34_0) rfl rfl ?_
    refine X0.arraylength hx (by rw [e0]; exact Ar6.1) (State.isArrayOf_alike hZ.alike Ar6.2.1) (g := (mkF m 1 #[.val (.ref a1), .unset, .unset] [(.ref a1)])) rfl rfl (hb hby d34_1) _ ?_
    show Steps p.tables e below (s₁.setTop (mkF m 2 #[.val (.ref a1), .unset, .unset] [(.int cl6.slots.size.toInt32)])) _
    rw [len_of S6 M6]
    refine st7 _ ?_
    refine XS.astoreN X7.here hx rfl (hb hby d34_5) rfl rfl (l' := #[.val (.ref a1), .val (.ref b7), .unset]) rfl ?_
    refine XS.iconst X7.here hx rfl (hb hby d34_6) ?_
    refine XS.istoreN X7.here hx rfl (hb hby d34_7) rfl (l' := #[.val (.ref a1), .val (.ref b7), .val (.int (0 : Int32))]) rfl ?_
    refine XS.iloadN X7.here hx rfl (hb hby d34_8) rfl ?_
    refine XS.aloadN X7.here hx rfl (hb hby d34_9) rfl rfl ?_
    refine X7.arraylength hx (by rw [e7]; exact Ar9.1) (State.isArrayOf_alike hZ.alike Ar9.2.1) (g := (mkF m 10 #[.val (.ref a1), .val (.ref b7), .val (.int (0 : Int32))] [(.ref a1), (.int (0 : Int32))])) rfl rfl (hb hby d34_10) _ ?_
    show Steps p.tables e below (T7.setTop (mkF m 11 #[.val (.ref a1), .val (.ref b7), .val (.int (0 : Int32))] [(.int cl9.slots.size.toInt32), (.int (0 : Int32))])) _
    rw [len_of S9 M9]
    refine XS.icmpNo X7.here hx rfl (hb hby d34_11) rfl (tlt ((by decide : (0 : Int32) < (3 : Int32)) : (0 : Int32) < (3 : Int32))).2.1 ?_
    refine XS.aloadN X7.here hx rfl (hb hby d34_14) rfl rfl ?_
    refine XS.iloadN X7.here hx rfl (hb hby d34_15) rfl ?_
    refine XS.aloadN X7.here hx rfl (hb hby d34_16) rfl rfl ?_
    refine XS.iloadN X7.here hx rfl (hb hby d34_17) rfl ?_
    refine X7.aaload hx (j := (0 : Int32)) (v := (.ref a2)) (by rw [e7]; exact Ar9.1) (State.isArrayOf_alike hZ.alike Ar9.2.1) rfl Ar9.2.2 hin10 (Has.at Hs9 hin10 rfl) (g := (mkF m 18 #[.val (.ref a1), .val (.ref b7), .val (.int (0 : Int32))] [(.int (0 : Int32)), (.ref a1), (.int (0 : Int32)), (.ref b7)])) rfl rfl (hb hby d34_18) _ ?_
    refine st11 _ ?_
    refine st15 _ ?_
    refine XS.iinc X15.here hx rfl (hb hby d34_23) rfl (l' := #[.val (.ref a1), .val (.ref b7), .val (.int (1 : Int32))]) rfl ?_
    refine XS.goto X15.here hx rfl (pc0 := 26) (pc' := 8) rfl (hb hby d34_26) (by decide) (by decide) ?_
    refine XS.iloadN X15.here hx rfl (hb hby d34_8) rfl ?_
    show Steps p.tables e below (T15.setTop (mkF m 9 #[.val (.ref a1), .val (.ref b7), .val (.int (1 : Int32))] [(.int (1 : Int32))])) _
    refine XS.aloadN X15.here hx rfl (hb hby d34_9) rfl rfl ?_
    refine X15.arraylength hx (by rw [e15]; exact Ar17.1) (State.isArrayOf_alike hZ.alike Ar17.2.1) (g := (mkF m 10 #[.val (.ref a1), .val (.ref b7), .val (.int (1 : Int32))] [(.ref a1), (.int (1 : Int32))])) rfl rfl (hb hby d34_10) _ ?_
    show Steps p.tables e below (T15.setTop (mkF m 11 #[.val (.ref a1), .val (.ref b7), .val (.int (1 : Int32))] [(.int cl17.slots.size.toInt32), (.int (1 : Int32))])) _
    rw [len_of S17 M17]
    refine XS.icmpNo X15.here hx rfl (hb hby d34_11) rfl (tlt ((by decide : (1 : Int32) < (3 : Int32)) : (1 : Int32) < (3 : Int32))).2.1 ?_
    refine XS.aloadN X15.here hx rfl (hb hby d34_14) rfl rfl ?_
    refine XS.iloadN X15.here hx rfl (hb hby d34_15) rfl ?_
    refine XS.aloadN X15.here hx rfl (hb hby d34_16) rfl rfl ?_
    refine XS.iloadN X15.here hx rfl (hb hby d34_17) rfl ?_
    refine X15.aaload hx (j := (1 : Int32)) (v := (.ref a3)) (by rw [e15]; exact Ar17.1) (State.isArrayOf_alike hZ.alike Ar17.2.1) rfl Ar17.2.2 hin18 (Has.at Hs17 hin18 rfl) (g := (mkF m 18 #[.val (.ref a1), .val (.ref b7), .val (.int (1 : Int32))] [(.int (1 : Int32)), (.ref a1), (.int (1 : Int32)), (.ref b7)])) rfl rfl (hb hby d34_18) _ ?_
    refine st19 _ ?_
    refine st23 _ ?_
    refine XS.iinc X23.here hx rfl (hb hby d34_23) rfl (l' := #[.val (.ref a1), .val (.ref b7), .val (.int (2 : Int32))]) rfl ?_
    refine XS.goto X23.here hx rfl (pc0 := 26) (pc' := 8) rfl (hb hby d34_26) (by decide) (by decide) ?_
    refine XS.iloadN X23.here hx rfl (hb hby d34_8) rfl ?_
    show Steps p.tables e below (T23.setTop (mkF m 9 #[.val (.ref a1), .val (.ref b7), .val (.int (2 : Int32))] [(.int (2 : Int32))])) _
    refine XS.aloadN X23.here hx rfl (hb hby d34_9) rfl rfl ?_
    refine X23.arraylength hx (by rw [e23]; exact Ar25.1) (State.isArrayOf_alike hZ.alike Ar25.2.1) (g := (mkF m 10 #[.val (.ref a1), .val (.ref b7), .val (.int (2 : Int32))] [(.ref a1), (.int (2 : Int32))])) rfl rfl (hb hby d34_10) _ ?_
    show Steps p.tables e below (T23.setTop (mkF m 11 #[.val (.ref a1), .val (.ref b7), .val (.int (2 : Int32))] [(.int cl25.slots.size.toInt32), (.int (2 : Int32))])) _
    rw [len_of S25 M25]
    refine XS.icmpNo X23.here hx rfl (hb hby d34_11) rfl (tlt ((by decide : (2 : Int32) < (3 : Int32)) : (2 : Int32) < (3 : Int32))).2.1 ?_
    refine XS.aloadN X23.here hx rfl (hb hby d34_14) rfl rfl ?_
    refine XS.iloadN X23.here hx rfl (hb hby d34_15) rfl ?_
    refine XS.aloadN X23.here hx rfl (hb hby d34_16) rfl rfl ?_
    refine XS.iloadN X23.here hx rfl (hb hby d34_17) rfl ?_
    refine X23.aaload hx (j := (2 : Int32)) (v := (.ref a4)) (by rw [e23]; exact Ar25.1) (State.isArrayOf_alike hZ.alike Ar25.2.1) rfl Ar25.2.2 hin26 (Has.at Hs25 hin26 rfl) (g := (mkF m 18 #[.val (.ref a1), .val (.ref b7), .val (.int (2 : Int32))] [(.int (2 : Int32)), (.ref a1), (.int (2 : Int32)), (.ref b7)])) rfl rfl (hb hby d34_18) _ ?_
    refine st27 _ ?_
    refine st31 _ ?_
    refine XS.iinc X31.here hx rfl (hb hby d34_23) rfl (l' := #[.val (.ref a1), .val (.ref b7), .val (.int (3 : Int32))]) rfl ?_
    refine XS.goto X31.here hx rfl (pc0 := 26) (pc' := 8) rfl (hb hby d34_26) (by decide) (by decide) ?_
    refine XS.iloadN X31.here hx rfl (hb hby d34_8) rfl ?_
    show Steps p.tables e below (T31.setTop (mkF m 9 #[.val (.ref a1), .val (.ref b7), .val (.int (3 : Int32))] [(.int (3 : Int32))])) _
    refine XS.aloadN X31.here hx rfl (hb hby d34_9) rfl rfl ?_
    refine X31.arraylength hx (by rw [e31]; exact Ar33.1) (State.isArrayOf_alike hZ.alike Ar33.2.1) (g := (mkF m 10 #[.val (.ref a1), .val (.ref b7), .val (.int (3 : Int32))] [(.ref a1), (.int (3 : Int32))])) rfl rfl (hb hby d34_10) _ ?_
    show Steps p.tables e below (T31.setTop (mkF m 11 #[.val (.ref a1), .val (.ref b7), .val (.int (3 : Int32))] [(.int cl33.slots.size.toInt32), (.int (3 : Int32))])) _
    rw [len_of S33 M33]
    refine XS.icmpYes X31.here hx rfl (pc0 := 11) (pc' := 29) rfl (hb hby d34_11) rfl (flt ((by decide : ¬ ((3 : Int32) < (3 : Int32))) : ¬ ((3 : Int32) < (3 : Int32)))).2.1 (by decide) (by decide) ?_
    refine st34 _ ?_
    refine XS.dup X34.here hx rfl (hb hby d34_32) rfl rfl ?_
    refine XS.aloadN X34.here hx rfl (hb hby d34_33) rfl rfl ?_
    refine XS.iconst X34.here hx rfl (hb hby d34_34) ?_
    refine st35 _ ?_
    exact retOut X35 hx hret rfl (Or.inr (Or.inr (Or.inr (Or.inr ⟨rfl, rfl, rfl⟩)))) (hb hby d34_38) hr
-- java/util/List.of([Ljava/lang/Object;)Ljava/util/List;
abbrev Rm68 : Room := { frames := 6, cells := 2, slots := 5, locals := 77 }
def Q68 (Z : State) (a1 : Addr) (a2 : Addr) (a3 : Addr) (a4 : Addr) (k5 : ClassId) (h0 : Heap) (n0 : Nat) (v : Option Value) (h : Heap) (L : List Loc) : Prop := ∃ b7_b34 : Addr, ∃ b7_b7 : Addr, ∃ k7_k7 : ClassId, v = some (.ref b7_b34) ∧ Fr n0 L ∧ Keep h0 h [] ∧ h0.size ≤ b7_b34 ∧ Exa Z h b7_b34 "java/util/ImmutableCollections$ListN" ∧ Fld Z h b7_b34 "java/util/ImmutableCollections$ListN" "allowNulls" "Z" (.int (0 : Int32)) ∧ Fld Z h b7_b34 "java/util/ImmutableCollections$ListN" "elements" "[Ljava/lang/Object;" (.ref b7_b7) ∧ h0.size ≤ b7_b7 ∧ Exa Z h b7_b7 "[Ljava/lang/Object;" ∧ Ovr Z k7_k7 "java/lang/Object" ∧ Arv Z h b7_b7 k7_k7 (.object "java/lang/Object") (3 : Int32) [(.ref a2), (.ref a3), (.ref a4)] .null ∧ b7_b34 ≠ b7_b7
theorem ef68 (a1 : Addr) (m : MethodId) : entryFrame m #[(.ref a1)] 2 = mkF m 0 #[.val (.ref a1), .unset] [] := by first | (simp [entryFrame, mkF, argsToLocals, Value.category]; done) | rfl
theorem rm68 (l : Launch) (Z : State) (a0 : Array Value) (hw : ∀ d ∈ tables_1, d.before a0 Z = true) (ws : List Jvm.Cond) (a1 : Addr) (a2 : Addr) (a3 : Addr) (a4 : Addr) (k5 : ClassId) (h0 : Heap) (n0 : Nat) (Z0 : n0 ≤ h0.size) (V_a1 : Arv Z h0 a1 k5 (.object "java/lang/Object") (3 : Int32) [(.ref a2), (.ref a3), (.ref a4)] .null) (E_a2 : Exa Z h0 a2 "java/lang/Double") (E_a3 : Exa Z h0 a3 "java/lang/Double") (E_a4 : Exa Z h0 a4 "java/lang/Double") :
    OwnMet l Z y_26 jdk_40_method_47_code 2 (some (.object "java/util/List")) ws Rm68 #[(.ref a1)] h0 (Q68 Z a1 a2 a3 a4 k5 h0 n0) := by
  refine own_body (plainFor_of_name pn_12) (ef68 a1) ?_
  intro p e s m below meth c s₁ hx hby hml hown hnm hret hZ X0 e0
  have N0 := Fr.nil n0
  obtain ⟨cl6, Ar6, q6, S6, M6, Hs6, G6⟩ := id V_a1
  obtain ⟨_, T7, L7, X7, hQ7, st7⟩ := own_callS X0 hx hZ hown (y := y_37) (w_235 hw) (w_236 hw) (w_118 hw) (w_237 hw) (rm67 l Z a0 hw [] a1 a2 a3 a4 k5 h0 n0 Z0 V_a1 E_a2 E_a3 E_a4) e0 (Ls := #[.val (.ref a1), .unset]) (by rw [hml]; rfl) (argsL := [(.ref a1)]) (rest := []) (lenOf pd_15 rfl) (hb hby d24_60) (W := 0)
  obtain ⟨b7_b34, b7_b7, k7_k7, rfl, Nq7, K7, o7_0, o7_1, o7_2, o7_3, o7_4, o7_5, o7_6, o7_7, o7_8⟩ := hQ7
  have N7 := Fr.app N0 Nq7
  have s0 := K7.1
  have sz_b7_b34 : h0.size ≤ b7_b34 := o7_0
  have sz_b7_b7 : h0.size ≤ b7_b7 := o7_4
  have Kp0 : Keep h0 T7.heap [] := (Keep.refl h0 []).trans K7 all0
  refine ⟨T7, _, _, _, (some (.ref b7_b34)), X7, nofun, by decide, by decide, ?_, fun fs hr => ?_⟩
  · show Q68 Z a1 a2 a3 a4 k5 h0 n0 _ T7.heap _
    exact ⟨b7_b34, b7_b7, k7_k7, rfl, N7, Kp0, sz_b7_b34, o7_1, o7_2, o7_3, sz_b7_b7, o7_5, o7_6, o7_7, o7_8⟩
  · show Steps p.tables e below (s₁.setTop (mkF m 0 #[.val (.ref a1), .unset] [])) _
    refine XS.aloadN X0.here hx rfl (hb hby d24_0) rfl rfl ?_
    refine X0.arraylength hx (by rw [e0]; exact Ar6.1) (State.isArrayOf_alike hZ.alike Ar6.2.1) (g := (mkF m 1 #[.val (.ref a1), .unset] [(.ref a1)])) rfl rfl (hb hby d24_1) _ ?_
    show Steps p.tables e below (s₁.setTop (mkF m 2 #[.val (.ref a1), .unset] [(.int cl6.slots.size.toInt32)])) _
    rw [len_of S6 M6]
    refine XS.tswOut X0.here hx rfl (pc0 := 2) (pc' := 59) rfl (hb hby d24_2) rfl (by decide) (by decide) (by decide) ?_
    refine XS.aloadN X0.here hx rfl (hb hby d24_59) rfl rfl ?_
    refine st7 _ ?_
    exact retOut X7 hx hret rfl (Or.inr (Or.inr (Or.inr (Or.inr ⟨rfl, rfl, rfl⟩)))) (hb hby d24_63) hr
-- java/util/ImmutableCollections.listCopy(Ljava/util/Collection;)Ljava/util/List;
abbrev Rm69 : Room := { frames := 7, cells := 3, slots := 8, locals := 90 }
def Q69 (Z : State) (a1 : Addr) (a5 : Addr) (a6 : Addr) (a7 : Addr) (a8 : Addr) (a9 : Addr) (k10 : ClassId) (h0 : Heap) (n0 : Nat) (v : Option Value) (h : Heap) (L : List Loc) : Prop := ∃ b15_b7_b34 : Addr, ∃ b15_b7_b7 : Addr, ∃ k15_k7_k7 : ClassId, v = some (.ref b15_b7_b34) ∧ Fr n0 L ∧ Keep h0 h [] ∧ h0.size ≤ b15_b7_b34 ∧ Exa Z h b15_b7_b34 "java/util/ImmutableCollections$ListN" ∧ Fld Z h b15_b7_b34 "java/util/ImmutableCollections$ListN" "allowNulls" "Z" (.int (0 : Int32)) ∧ Fld Z h b15_b7_b34 "java/util/ImmutableCollections$ListN" "elements" "[Ljava/lang/Object;" (.ref b15_b7_b7) ∧ h0.size ≤ b15_b7_b7 ∧ Exa Z h b15_b7_b7 "[Ljava/lang/Object;" ∧ Ovr Z k15_k7_k7 "java/lang/Object" ∧ Arv Z h b15_b7_b7 k15_k7_k7 (.object "java/lang/Object") (3 : Int32) [(.ref a7), (.ref a8), (.ref a9)] .null ∧ b15_b7_b34 ≠ b15_b7_b7
theorem ef69 (a1 : Addr) (m : MethodId) : entryFrame m #[(.ref a1)] 2 = mkF m 0 #[.val (.ref a1), .unset] [] := by first | (simp [entryFrame, mkF, argsToLocals, Value.category]; done) | rfl
theorem rm69 (l : Launch) (Z : State) (a0 : Array Value) (hw : ∀ d ∈ tables_1, d.before a0 Z = true) (ws : List Jvm.Cond) (a1 : Addr) (a5 : Addr) (a6 : Addr) (a7 : Addr) (a8 : Addr) (a9 : Addr) (k10 : ClassId) (h0 : Heap) (n0 : Nat) (Z0 : n0 ≤ h0.size) (E_a1 : Exa Z h0 a1 "java/util/ArrayList") (F_size_a1 : Fld Z h0 a1 "java/util/ArrayList" "size" "I" (.int (3 : Int32))) (F_elementData_a1 : Fld Z h0 a1 "java/util/ArrayList" "elementData" "[Ljava/lang/Object;" (.ref a5)) (E_a5 : Exa Z h0 a5 "[Ljava/lang/Object;") (M_1 : OwnMir Z "[Ljava/lang/Object;" a6) (V_a5 : Arv Z h0 a5 k10 (.object "java/lang/Object") (10 : Int32) [(.ref a7), (.ref a8), (.ref a9), .null, .null, .null, .null, .null, .null, .null] .null) (E_a9 : Exa Z h0 a9 "java/lang/Double") (E_a8 : Exa Z h0 a8 "java/lang/Double") (E_a7 : Exa Z h0 a7 "java/lang/Double") :
    OwnMet l Z y_27 jdk_56_method_3_code 2 (some (.object "java/util/List")) ws Rm69 #[(.ref a1)] h0 (Q69 Z a1 a5 a6 a7 a8 a9 k10 h0 n0) := by
  refine own_body (plainFor_of_name pn_13) (ef69 a1) ?_
  intro p e s m below meth c s₁ hx hby hml hown hnm hret hZ X0 e0
  have N0 := Fr.nil n0
  obtain ⟨T2, X2, e2, st2⟩ := instNo X0 hx hZ hown (w_120 hw) e0 E_a1 (own_NSno (w_121 hw) (w_169 hw) (NS.step (w_121 hw) (NS.step (w_122 hw) (NS.step (w_123 hw) (own_NSroot (w_124 hw) (w_169 hw) (by decide)) (by decide)) (by decide)) (by decide)) (by decide)) (g := (mkF m 1 #[.val (.ref a1), .unset] [(.ref a1)])) rfl rfl (hb hby d18_1)
  obtain ⟨T3, X3, e3, st3⟩ := instNo X2 hx hZ hown (w_125 hw) e2 E_a1 (own_NSno (w_121 hw) (w_240 hw) (NS.step (w_121 hw) (NS.step (w_122 hw) (NS.step (w_123 hw) (own_NSroot (w_124 hw) (w_240 hw) (by decide)) (by decide)) (by decide)) (by decide)) (by decide)) (g := (mkF m 8 #[.val (.ref a1), .unset] [(.ref a1)])) rfl rfl (hb hby d18_8)
  obtain ⟨_, T4, L4, X4, hQ4, st4⟩ := own_iface X3 hx hZ hown (y := y_16) (z := y_15) E_a1 (w_126 hw) (w_127 hw) (w_128 hw) (w_129 hw) (w_130 hw) (w_131 hw) (w_132 hw) (w_133 hw) (w_23 hw) (w_134 hw) (rm54 l Z a0 hw [] a1 h0 n0 Z0 F_size_a1) e3 (Ls := #[.val (.ref a1), .unset]) (by rw [hml]; rfl) (argsL := []) (rest := []) (lenOf pd_10 rfl) (hb hby d18_32) (W := 0)
  obtain ⟨rfl, Nq4, e4⟩ := hQ4
  have N4 := Fr.app N0 Nq4
  obtain ⟨_, T11, L11, X11, hQ11, st11⟩ := own_iface X4 hx hZ hown (y := y_21) (z := y_20) E_a1 (w_135 hw) (w_136 hw) (w_137 hw) (w_138 hw) (w_139 hw) (w_140 hw) (w_141 hw) (w_133 hw) (w_23 hw) (w_142 hw) (rm66 l Z a0 hw [] a1 a5 a6 a7 a8 a9 k10 h0 n0 Z0 F_elementData_a1 F_size_a1 E_a5 M_1 V_a5 E_a9 E_a8 E_a7) e4 (Ls := #[.val (.ref a1), .unset]) (by rw [hml]; rfl) (argsL := []) (rest := []) (lenOf pd_4 rfl) (hb hby d18_45) (W := 0)
  obtain ⟨b11_b10_b8_b4, k11_k10_k8_k4, rfl, Nq11, K11, o11_0, o11_1, o11_2, o11_3⟩ := hQ11
  have N11 := Fr.app N4 Nq11
  have s0 := K11.1
  have Ex12 := (E_a7.keep K11)
  have Ex13 := (E_a8.keep K11)
  have Ex14 := (E_a9.keep K11)
  have z1 := Nat.le_trans Z0 s0
  obtain ⟨_, T15, L15, X15, hQ15, st15⟩ := own_callS X11 hx hZ hown (y := y_26) (w_165 hw) (w_166 hw) (w_114 hw) (w_167 hw) (rm68 l Z a0 hw [] b11_b10_b8_b4 a7 a8 a9 k11_k10_k8_k4 T11.heap n0 z1 o11_3 Ex12 Ex13 Ex14) rfl (Ls := #[.val (.ref a1), .unset]) (by rw [hml]; rfl) (argsL := [(.ref b11_b10_b8_b4)]) (rest := []) (lenOf pd_15 rfl) (hb hby d18_50) (W := 0)
  obtain ⟨b15_b7_b34, b15_b7_b7, k15_k7_k7, rfl, Nq15, K15, o15_0, o15_1, o15_2, o15_3, o15_4, o15_5, o15_6, o15_7, o15_8⟩ := hQ15
  have N15 := Fr.app N11 Nq15
  have s1 := K15.1
  have sz_b15_b7_b34 : h0.size ≤ b15_b7_b34 := Nat.le_trans s0 o15_0
  have sz_b15_b7_b7 : h0.size ≤ b15_b7_b7 := Nat.le_trans s0 o15_4
  have Kp0 : Keep h0 T11.heap [] := (Keep.refl h0 []).trans K11 all0
  have Kp1 : Keep h0 T15.heap [] := Kp0.trans K15 all0
  refine ⟨T15, _, _, _, (some (.ref b15_b7_b34)), X15, nofun, by decide, by decide, ?_, fun fs hr => ?_⟩
  · show Q69 Z a1 a5 a6 a7 a8 a9 k10 h0 n0 _ T15.heap _
    exact ⟨b15_b7_b34, b15_b7_b7, k15_k7_k7, rfl, N15, Kp1, sz_b15_b7_b34, o15_1, o15_2, o15_3, sz_b15_b7_b7, o15_5, o15_6, o15_7, o15_8⟩
  · show Steps p.tables e below (s₁.setTop (mkF m 0 #[.val (.ref a1), .unset] [])) _
    refine XS.aloadN X0.here hx rfl (hb hby d18_0) rfl rfl ?_
    refine st2 _ ?_
    refine XS.ifNo X2.here hx rfl (hb hby d18_4) rfl ((if0 _ _).trans (teq ((by decide : (0 : Int32) = (0 : Int32)) : (0 : Int32) = (0 : Int32))).2) ?_
    refine XS.aloadN X2.here hx rfl (hb hby d18_7) rfl rfl ?_
    refine st3 _ ?_
    refine XS.ifYes X3.here hx rfl (pc0 := 11) (pc' := 31) rfl (hb hby d18_11) rfl ((if0 _ _).trans (teq ((by decide : (0 : Int32) = (0 : Int32)) : (0 : Int32) = (0 : Int32))).1) (by decide) (by decide) ?_
    refine XS.aloadN X3.here hx rfl (hb hby d18_31) rfl rfl ?_
    refine st4 _ ?_
    refine XS.ifYes X4.here hx rfl (pc0 := 37) (pc' := 44) rfl (hb hby d18_37) rfl ((if0 _ _).trans (teq ((by decide : (0 : Int32) = (0 : Int32)) : (0 : Int32) = (0 : Int32))).1) (by decide) (by decide) ?_
    refine XS.aloadN X4.here hx rfl (hb hby d18_44) rfl rfl ?_
    refine st11 _ ?_
    refine st15 _ ?_
    show Steps p.tables e below (T15.setTop (mkF m 53 #[.val (.ref a1), .unset] [(.ref b15_b7_b34)])) _
    exact retOut X15 hx hret rfl (Or.inr (Or.inr (Or.inr (Or.inr ⟨rfl, rfl, rfl⟩)))) (hb hby d18_53) hr
-- java/util/List.copyOf(Ljava/util/Collection;)Ljava/util/List;
abbrev Rm70 : Room := { frames := 8, cells := 3, slots := 8, locals := 103 }
def Q70 (Z : State) (a1 : Addr) (a2 : Addr) (a3 : Addr) (a4 : Addr) (a5 : Addr) (a6 : Addr) (k7 : ClassId) (h0 : Heap) (n0 : Nat) (v : Option Value) (h : Heap) (L : List Loc) : Prop := ∃ b8_b15_b7_b34 : Addr, ∃ b8_b15_b7_b7 : Addr, ∃ k8_k15_k7_k7 : ClassId, v = some (.ref b8_b15_b7_b34) ∧ Fr n0 L ∧ Keep h0 h [] ∧ h0.size ≤ b8_b15_b7_b34 ∧ Exa Z h b8_b15_b7_b34 "java/util/ImmutableCollections$ListN" ∧ Fld Z h b8_b15_b7_b34 "java/util/ImmutableCollections$ListN" "allowNulls" "Z" (.int (0 : Int32)) ∧ Fld Z h b8_b15_b7_b34 "java/util/ImmutableCollections$ListN" "elements" "[Ljava/lang/Object;" (.ref b8_b15_b7_b7) ∧ h0.size ≤ b8_b15_b7_b7 ∧ Exa Z h b8_b15_b7_b7 "[Ljava/lang/Object;" ∧ Ovr Z k8_k15_k7_k7 "java/lang/Object" ∧ Arv Z h b8_b15_b7_b7 k8_k15_k7_k7 (.object "java/lang/Object") (3 : Int32) [(.ref a4), (.ref a5), (.ref a6)] .null ∧ b8_b15_b7_b34 ≠ b8_b15_b7_b7
theorem ef70 (a1 : Addr) (m : MethodId) : entryFrame m #[(.ref a1)] 1 = mkF m 0 #[.val (.ref a1)] [] := by first | (simp [entryFrame, mkF, argsToLocals, Value.category]; done) | rfl
theorem rm70 (l : Launch) (Z : State) (a0 : Array Value) (hw : ∀ d ∈ tables_1, d.before a0 Z = true) (ws : List Jvm.Cond) (a1 : Addr) (a2 : Addr) (a3 : Addr) (a4 : Addr) (a5 : Addr) (a6 : Addr) (k7 : ClassId) (h0 : Heap) (n0 : Nat) (Z0 : n0 ≤ h0.size) (E_a1 : Exa Z h0 a1 "java/util/ArrayList") (F_size_a1 : Fld Z h0 a1 "java/util/ArrayList" "size" "I" (.int (3 : Int32))) (F_elementData_a1 : Fld Z h0 a1 "java/util/ArrayList" "elementData" "[Ljava/lang/Object;" (.ref a2)) (E_a2 : Exa Z h0 a2 "[Ljava/lang/Object;") (M_1 : OwnMir Z "[Ljava/lang/Object;" a3) (V_a2 : Arv Z h0 a2 k7 (.object "java/lang/Object") (10 : Int32) [(.ref a4), (.ref a5), (.ref a6), .null, .null, .null, .null, .null, .null, .null] .null) (E_a6 : Exa Z h0 a6 "java/lang/Double") (E_a5 : Exa Z h0 a5 "java/lang/Double") (E_a4 : Exa Z h0 a4 "java/lang/Double") :
    OwnMet l Z y_28 jdk_40_method_48_code 1 (some (.object "java/util/List")) ws Rm70 #[(.ref a1)] h0 (Q70 Z a1 a2 a3 a4 a5 a6 k7 h0 n0) := by
  refine own_body (plainFor_of_name pn_12) (ef70 a1) ?_
  intro p e s m below meth c s₁ hx hby hml hown hnm hret hZ X0 e0
  have N0 := Fr.nil n0
  obtain ⟨_, T8, L8, X8, hQ8, st8⟩ := own_callS X0 hx hZ hown (y := y_27) (w_116 hw) (w_117 hw) (w_118 hw) (w_119 hw) (rm69 l Z a0 hw [] a1 a2 a3 a4 a5 a6 k7 h0 n0 Z0 E_a1 F_size_a1 F_elementData_a1 E_a2 M_1 V_a2 E_a6 E_a5 E_a4) e0 (Ls := #[.val (.ref a1)]) (by rw [hml]; rfl) (argsL := [(.ref a1)]) (rest := []) (lenOf pd_16 rfl) (hb hby d17_1) (W := 0)
  obtain ⟨b8_b15_b7_b34, b8_b15_b7_b7, k8_k15_k7_k7, rfl, Nq8, K8, o8_0, o8_1, o8_2, o8_3, o8_4, o8_5, o8_6, o8_7, o8_8⟩ := hQ8
  have N8 := Fr.app N0 Nq8
  have s0 := K8.1
  have sz_b8_b15_b7_b34 : h0.size ≤ b8_b15_b7_b34 := o8_0
  have sz_b8_b15_b7_b7 : h0.size ≤ b8_b15_b7_b7 := o8_4
  have Kp0 : Keep h0 T8.heap [] := (Keep.refl h0 []).trans K8 all0
  refine ⟨T8, _, _, _, (some (.ref b8_b15_b7_b34)), X8, nofun, by decide, by decide, ?_, fun fs hr => ?_⟩
  · show Q70 Z a1 a2 a3 a4 a5 a6 k7 h0 n0 _ T8.heap _
    exact ⟨b8_b15_b7_b34, b8_b15_b7_b7, k8_k15_k7_k7, rfl, N8, Kp0, sz_b8_b15_b7_b34, o8_1, o8_2, o8_3, sz_b8_b15_b7_b7, o8_5, o8_6, o8_7, o8_8⟩
  · show Steps p.tables e below (s₁.setTop (mkF m 0 #[.val (.ref a1)] [])) _
    refine XS.aloadN X0.here hx rfl (hb hby d17_0) rfl rfl ?_
    refine st8 _ ?_
    exact retOut X8 hx hret rfl (Or.inr (Or.inr (Or.inr (Or.inr ⟨rfl, rfl, rfl⟩)))) (hb hby d17_4) hr
-- com/example/feedergen/feedergen/core/DrivenLine.<init>(Ljava/util/List;Ljava/util/List;DLjava/util/List;)V
abbrev Rm71 : Room := { frames := 9, cells := 6, slots := 16, locals := 115 }
def Q71 (Z : State) (a1 : Addr) (a2 : Addr) (a3 : Addr) (d4 : UInt64) (a5 : Addr) (a10 : Addr) (a11 : Addr) (a12 : Addr) (k13 : ClassId) (a17 : Addr) (a20 : Addr) (a21 : Addr) (a22 : Addr) (k23 : ClassId) (a31 : Addr) (h0 : Heap) (n0 : Nat) (v : Option Value) (h : Heap) (L : List Loc) : Prop := ∃ b28_b8_b15_b7_b34 : Addr, ∃ b14_b6_b11_b5_b32 : Addr, ∃ b28_b8_b15_b7_b7 : Addr, ∃ k28_k8_k15_k7_k7 : ClassId, ∃ b14_b6_b11_b5_b5 : Addr, ∃ k14_k6_k11_k5_k5 : ClassId, v = none ∧ Fr n0 L ∧ Keep h0 h [a1] ∧ Exa Z h a1 "com/example/feedergen/feedergen/core/DrivenLine" ∧ Fld Z h a1 "com/example/feedergen/feedergen/core/DrivenLine" "distances" "Ljava/util/List;" (.ref b28_b8_b15_b7_b34) ∧ Fld Z h a1 "com/example/feedergen/feedergen/core/DrivenLine" "lengthBackward" "D" (.double d4) ∧ Fld Z h a1 "com/example/feedergen/feedergen/core/DrivenLine" "route" "Ljava/util/List;" (.ref a31) ∧ Fld Z h a1 "com/example/feedergen/feedergen/core/DrivenLine" "stops" "Ljava/util/List;" (.ref b14_b6_b11_b5_b32) ∧ h0.size ≤ b28_b8_b15_b7_b34 ∧ Exa Z h b28_b8_b15_b7_b34 "java/util/ImmutableCollections$ListN" ∧ Fld Z h b28_b8_b15_b7_b34 "java/util/ImmutableCollections$ListN" "allowNulls" "Z" (.int (0 : Int32)) ∧ Fld Z h b28_b8_b15_b7_b34 "java/util/ImmutableCollections$ListN" "elements" "[Ljava/lang/Object;" (.ref b28_b8_b15_b7_b7) ∧ h0.size ≤ b14_b6_b11_b5_b32 ∧ Exa Z h b14_b6_b11_b5_b32 "java/util/ImmutableCollections$ListN" ∧ Fld Z h b14_b6_b11_b5_b32 "java/util/ImmutableCollections$ListN" "allowNulls" "Z" (.int (0 : Int32)) ∧ Fld Z h b14_b6_b11_b5_b32 "java/util/ImmutableCollections$ListN" "elements" "[Ljava/lang/Object;" (.ref b14_b6_b11_b5_b5) ∧ h0.size ≤ b28_b8_b15_b7_b7 ∧ Exa Z h b28_b8_b15_b7_b7 "[Ljava/lang/Object;" ∧ Ovr Z k28_k8_k15_k7_k7 "java/lang/Object" ∧ Arv Z h b28_b8_b15_b7_b7 k28_k8_k15_k7_k7 (.object "java/lang/Object") (3 : Int32) [(.ref a20), (.ref a21), (.ref a22)] .null ∧ h0.size ≤ b14_b6_b11_b5_b5 ∧ Exa Z h b14_b6_b11_b5_b5 "[Ljava/lang/Object;" ∧ Ovr Z k14_k6_k11_k5_k5 "java/lang/Object" ∧ Arv Z h b14_b6_b11_b5_b5 k14_k6_k11_k5_k5 (.object "java/lang/Object") (3 : Int32) [(.ref a12), (.ref a12), (.ref a12)] .null ∧ b28_b8_b15_b7_b34 ≠ b14_b6_b11_b5_b32 ∧ b28_b8_b15_b7_b34 ≠ b28_b8_b15_b7_b7 ∧ b28_b8_b15_b7_b34 ≠ b14_b6_b11_b5_b5 ∧ b14_b6_b11_b5_b32 ≠ b28_b8_b15_b7_b7 ∧ b14_b6_b11_b5_b32 ≠ b14_b6_b11_b5_b5 ∧ b28_b8_b15_b7_b7 ≠ b14_b6_b11_b5_b5
theorem ef71 (a1 : Addr) (a2 : Addr) (a3 : Addr) (d4 : UInt64) (a5 : Addr) (m : MethodId) : entryFrame m #[(.ref a1), (.ref a2), (.ref a3), (.double d4), (.ref a5)] 6 = mkF m 0 #[.val (.ref a1), .val (.ref a2), .val (.ref a3), .val (.double d4), .second, .val (.ref a5)] [] := by first | (simp [entryFrame, mkF, argsToLocals, Value.category]; done) | rfl
theorem rm71 (l : Launch) (Z : State) (a0 : Array Value) (hw : ∀ d ∈ tables_1, d.before a0 Z = true) (ws : List Jvm.Cond) (a1 : Addr) (a2 : Addr) (a3 : Addr) (d4 : UInt64) (a5 : Addr) (a10 : Addr) (a11 : Addr) (a12 : Addr) (k13 : ClassId) (a17 : Addr) (a20 : Addr) (a21 : Addr) (a22 : Addr) (k23 : ClassId) (a31 : Addr) (h0 : Heap) (n0 : Nat) (Z0 : n0 ≤ h0.size) (E_a2 : Exa Z h0 a2 "java/util/ArrayList") (F_size_a2 : Fld Z h0 a2 "java/util/ArrayList" "size" "I" (.int (3 : Int32))) (E_a3 : Exa Z h0 a3 "java/util/ArrayList") (F_size_a3 : Fld Z h0 a3 "java/util/ArrayList" "size" "I" (.int (3 : Int32))) (F_elementData_a2 : Fld Z h0 a2 "java/util/ArrayList" "elementData" "[Ljava/lang/Object;" (.ref a10)) (E_a10 : Exa Z h0 a10 "[Ljava/lang/Object;") (M_1 : OwnMir Z "[Ljava/lang/Object;" a11) (V_a10 : Arv Z h0 a10 k13 (.object "java/lang/Object") (10 : Int32) [(.ref a12), (.ref a12), (.ref a12), .null, .null, .null, .null, .null, .null, .null] .null) (E_a12 : Exa Z h0 a12 "com/example/feedergen/feedergen/core/StopCandidate") (F_elementData_a3 : Fld Z h0 a3 "java/util/ArrayList" "elementData" "[Ljava/lang/Object;" (.ref a17)) (E_a17 : Exa Z h0 a17 "[Ljava/lang/Object;") (V_a17 : Arv Z h0 a17 k23 (.object "java/lang/Object") (10 : Int32) [(.ref a20), (.ref a21), (.ref a22), .null, .null, .null, .null, .null, .null, .null] .null) (E_a22 : Exa Z h0 a22 "java/lang/Double") (E_a21 : Exa Z h0 a21 "java/lang/Double") (E_a20 : Exa Z h0 a20 "java/lang/Double") (E_a5 : Exa Z h0 a5 "java/util/ArrayList") (F_size_a5 : Fld Z h0 a5 "java/util/ArrayList" "size" "I" (.int (0 : Int32))) (S_EMPTY_LIST : Sta Z Z.heap "java/util/ImmutableCollections" "EMPTY_LIST" "Ljava/util/ImmutableCollections$ListN;" (.ref a31)) (Od0 : Old Z n0 h0) (F_stops_a1 : Fld Z h0 a1 "com/example/feedergen/feedergen/core/DrivenLine" "stops" "Ljava/util/List;" .null) (E_a1 : Exa Z h0 a1 "com/example/feedergen/feedergen/core/DrivenLine") (g_a1 : n0 ≤ a1) (F_distances_a1 : Fld Z h0 a1 "com/example/feedergen/feedergen/core/DrivenLine" "distances" "Ljava/util/List;" .null) (F_lengthBackward_a1 : Fld Z h0 a1 "com/example/feedergen/feedergen/core/DrivenLine" "lengthBackward" "D" (.double (0 : UInt64))) (F_route_a1 : Fld Z h0 a1 "com/example/feedergen/feedergen/core/DrivenLine" "route" "Ljava/util/List;" .null) :
    OwnMet l Z y_30 prog_9_method_1_code 6 none ws Rm71 #[(.ref a1), (.ref a2), (.ref a3), (.double d4), (.ref a5)] h0 (Q71 Z a1 a2 a3 d4 a5 a10 a11 a12 k13 a17 a20 a21 a22 k23 a31 h0 n0) := by
  refine own_body (plainFor_of_name pn_14) (ef71 a1 a2 a3 d4 a5) ?_
  intro p e s m below meth c s₁ hx hby hml hown hnm hret hZ X0 e0
  have N0 := Fr.nil n0
  obtain ⟨_, T6, L6, X6, hQ6, st6⟩ := own_special X0 hx hZ hown (y := y_0) (a := a1) (w_102 hw) (w_8 hw) (w_10 hw) (w_11 hw) (rm1 l Z a0 hw [] a1 h0 n0 Z0) e0 (Ls := #[.val (.ref a1), .val (.ref a2), .val (.ref a3), .val (.double d4), .second, .val (.ref a5)]) (by rw [hml]; rfl) (argsL := []) (rest := []) (lenOf pd_0 rfl) (hb hby d15_1) (W := 0)
  obtain ⟨rfl, Nq6, e6⟩ := hQ6
  have N6 := Fr.app N0 Nq6
  obtain ⟨_, T7, L7, X7, hQ7, st7⟩ := own_iface X6 hx hZ hown (y := y_14) (z := y_13) E_a2 (w_103 hw) (w_104 hw) (w_105 hw) (w_106 hw) (w_107 hw) (w_108 hw) (w_109 hw) (w_110 hw) (w_23 hw) (w_111 hw) (rm53 l Z a0 hw [] a2 h0 n0 Z0 F_size_a2) e6 (Ls := #[.val (.ref a1), .val (.ref a2), .val (.ref a3), .val (.double d4), .second, .val (.ref a5)]) (by rw [hml]; rfl) (argsL := []) (rest := []) (lenOf pd_9 rfl) (hb hby d15_5) (W := 0)
  obtain ⟨rfl, Nq7, e7⟩ := hQ7
  have N7 := Fr.app N6 Nq7
  obtain ⟨_, T8, L8, X8, hQ8, st8⟩ := own_iface X7 hx hZ hown (y := y_14) (z := y_13) E_a3 (w_103 hw) (w_104 hw) (w_105 hw) (w_106 hw) (w_107 hw) (w_108 hw) (w_109 hw) (w_110 hw) (w_23 hw) (w_111 hw) (rm53 l Z a0 hw [] a3 h0 n0 Z0 F_size_a3) e7 (Ls := #[.val (.ref a1), .val (.ref a2), .val (.ref a3), .val (.double d4), .second, .val (.ref a5)]) (by rw [hml]; rfl) (argsL := []) (rest := []) (lenOf pd_9 rfl) (hb hby d15_15) (W := 0)
  obtain ⟨rfl, Nq8, e8⟩ := hQ8
  have N8 := Fr.app N7 Nq8
  obtain ⟨_, T9, L9, X9, hQ9, st9⟩ := own_iface X8 hx hZ hown (y := y_14) (z := y_13) E_a2 (w_103 hw) (w_104 hw) (w_105 hw) (w_106 hw) (w_107 hw) (w_108 hw) (w_109 hw) (w_110 hw) (w_23 hw) (w_111 hw) (rm53 l Z a0 hw [] a2 h0 n0 Z0 F_size_a2) e8 (Ls := #[.val (.ref a1), .val (.ref a2), .val (.ref a3), .val (.double d4), .second, .val (.ref a5)]) (by rw [hml]; rfl) (argsL := []) (rest := [(.int (3 : Int32))]) (lenOf pd_9 rfl) (hb hby d15_21) (W := 1)
  obtain ⟨rfl, Nq9, e9⟩ := hQ9
  have N9 := Fr.app N8 Nq9
  obtain ⟨_, T14, L14, X14, hQ14, st14⟩ := own_callS X9 hx hZ hown (y := y_28) (w_112 hw) (w_113 hw) (w_114 hw) (w_115 hw) (rm63 l Z a0 hw [] a2 a10 a11 a12 k13 h0 n0 Z0 E_a2 F_size_a2 F_elementData_a2 E_a10 M_1 V_a10 E_a12) e9 (Ls := #[.val (.ref a1), .val (.ref a2), .val (.ref a3), .val (.double d4), .second, .val (.ref a5)]) (by rw [hml]; rfl) (argsL := [(.ref a2)]) (rest := []) (lenOf pd_16 rfl) (hb hby d15_55) (W := 0)
  obtain ⟨b14_b6_b11_b5_b32, b14_b6_b11_b5_b5, k14_k6_k11_k5_k5, rfl, Nq14, K14, o14_0, o14_1, o14_2, o14_3, o14_4, o14_5, o14_6, o14_7, o14_8⟩ := hQ14
  have N14 := Fr.app N9 Nq14
  have s0 := K14.1
  have Ex15 := (E_a3.keep K14)
  have Fl16 := (F_size_a3.keep K14 nin0)
  have Fl18 := (F_elementData_a3.keep K14 nin0)
  have Ex19 := (E_a17.keep K14)
  have Va24 := (V_a17.keep K14 nin0)
  have Ex25 := (E_a22.keep K14)
  have Ex26 := (E_a21.keep K14)
  have Ex27 := (E_a20.keep K14)
  have z1 := Nat.le_trans Z0 s0
  obtain ⟨_, T28, L28, X28, hQ28, st28⟩ := own_callS X14 hx hZ hown (y := y_28) (w_112 hw) (w_113 hw) (w_114 hw) (w_115 hw) (rm70 l Z a0 hw [] a3 a17 a11 a20 a21 a22 k23 T14.heap n0 z1 Ex15 Fl16 Fl18 Ex19 M_1 Va24 Ex25 Ex26 Ex27) rfl (Ls := #[.val (.ref a1), .val (.ref b14_b6_b11_b5_b32), .val (.ref a3), .val (.double d4), .second, .val (.ref a5)]) (by rw [hml]; rfl) (argsL := [(.ref a3)]) (rest := []) (lenOf pd_16 rfl) (hb hby d15_60) (W := 0)
  obtain ⟨b28_b8_b15_b7_b34, b28_b8_b15_b7_b7, k28_k8_k15_k7_k7, rfl, Nq28, K28, o28_0, o28_1, o28_2, o28_3, o28_4, o28_5, o28_6, o28_7, o28_8⟩ := hQ28
  have N28 := Fr.app N14 Nq28
  have s1 := K28.1
  have Ex29 := ((E_a5.keep K14).keep K28)
  have Fl30 := ((F_size_a5.keep K14 nin0).keep K28 nin0)
  have Od1 : Old Z n0 T14.heap := Od0.keep K14 all0
  have Od2 : Old Z n0 T28.heap := Od1.keep K28 all0
  have z2 := Nat.le_trans Z0 (Nat.le_trans s0 s1)
  obtain ⟨_, T32, L32, X32, hQ32, st32⟩ := own_callS X28 hx hZ hown (y := y_28) (w_112 hw) (w_113 hw) (w_114 hw) (w_115 hw) (rm43 l Z a0 hw [] a5 a31 T28.heap n0 z2 Ex29 Fl30 S_EMPTY_LIST Od2) rfl (Ls := #[.val (.ref a1), .val (.ref b14_b6_b11_b5_b32), .val (.ref b28_b8_b15_b7_b34), .val (.double d4), .second, .val (.ref a5)]) (by rw [hml]; rfl) (argsL := [(.ref a5)]) (rest := []) (lenOf pd_16 rfl) (hb hby d15_66) (W := 0)
  obtain ⟨rfl, Nq32, e32⟩ := hQ32
  have N32 := Fr.app N28 Nq32
  have Fl33 := ((F_stops_a1.keep K14 nin0).keep K28 nin0)
  have Ex34 := ((E_a1.keep K14).keep K28)
  obtain ⟨T35, h35, X35, e35, W35, st35⟩ := putF X32 hx hZ hown (host := "") (Or.inl (w_201 hw)) Via.refl e32 Fl33 Ex34 (Or.inr ⟨(w_202 hw), rfl, hnm⟩) (w_97 hw) (ty := (.object "java/util/List")) (by decide) rfl rfl (g := (mkF m 73 #[.val (.ref a1), .val (.ref b14_b6_b11_b5_b32), .val (.ref b28_b8_b15_b7_b34), .val (.double d4), .second, .val (.ref a31)] [(.ref b14_b6_b11_b5_b32), (.ref a1)])) rfl rfl (hb hby d15_73)
  have s2 := (Keep.of_wr W35).1
  have N35 := Fr.snoc X35 N32 g_a1
  have Fw35 : Fld Z h35 a1 "com/example/feedergen/feedergen/core/DrivenLine" "stops" "Ljava/util/List;" (.ref b14_b6_b11_b5_b32) := Fl33.same W35
  have Ex36 := (Ex34.wr W35)
  have Fl37 := (((F_distances_a1.keep K14 nin0).keep K28 nin0).other W35 (Or.inr (slot_ne (Or.inr (w_204 hw)) (Or.inr (w_202 hw)) (by decide) (t := (.object "java/util/List")) (t' := (.object "java/util/List")) (by decide) (by decide))))
  obtain ⟨T38, h38, X38, e38, W38, st38⟩ := putF X35 hx hZ hown (host := "") (Or.inl (w_203 hw)) Via.refl e35 Fl37 Ex36 (Or.inr ⟨(w_204 hw), rfl, hnm⟩) (w_97 hw) (ty := (.object "java/util/List")) (by decide) rfl rfl (g := (mkF m 78 #[.val (.ref a1), .val (.ref b14_b6_b11_b5_b32), .val (.ref b28_b8_b15_b7_b34), .val (.double d4), .second, .val (.ref a31)] [(.ref b28_b8_b15_b7_b34), (.ref a1)])) rfl rfl (hb hby d15_78)
  have s3 := (Keep.of_wr W38).1
  have N38 := Fr.snoc X38 N35 g_a1
  have Fw38 : Fld Z h38 a1 "com/example/feedergen/feedergen/core/DrivenLine" "distances" "Ljava/util/List;" (.ref b28_b8_b15_b7_b34) := Fl37.same W38
  have Ex39 := (Ex36.wr W38)
  have Fl40 := ((((F_lengthBackward_a1.keep K14 nin0).keep K28 nin0).other W35 (Or.inr (slot_ne (Or.inr (w_206 hw)) (Or.inr (w_202 hw)) (by decide) (t := .double) (t' := (.object "java/util/List")) (by decide) (by decide)))).other W38 (Or.inr (slot_ne (Or.inr (w_206 hw)) (Or.inr (w_204 hw)) (by decide) (t := .double) (t' := (.object "java/util/List")) (by decide) (by decide))))
  obtain ⟨T41, h41, X41, e41, W41, st41⟩ := putF X38 hx hZ hown (host := "") (Or.inl (w_205 hw)) Via.refl e38 Fl40 Ex39 (Or.inr ⟨(w_206 hw), rfl, hnm⟩) (w_97 hw) (ty := .double) (by decide) rfl rfl (g := (mkF m 83 #[.val (.ref a1), .val (.ref b14_b6_b11_b5_b32), .val (.ref b28_b8_b15_b7_b34), .val (.double d4), .second, .val (.ref a31)] [(.double d4), (.ref a1)])) rfl rfl (hb hby d15_83)
  have s4 := (Keep.of_wr W41).1
  have N41 := Fr.snoc X41 N38 g_a1
  have Fw41 : Fld Z h41 a1 "com/example/feedergen/feedergen/core/DrivenLine" "lengthBackward" "D" (.double d4) := Fl40.same W41
  have Ex42 := (Ex39.wr W41)
  have Fl43 := (((((F_route_a1.keep K14 nin0).keep K28 nin0).other W35 (Or.inr (slot_ne (Or.inr (w_208 hw)) (Or.inr (w_202 hw)) (by decide) (t := (.object "java/util/List")) (t' := (.object "java/util/List")) (by decide) (by decide)))).other W38 (Or.inr (slot_ne (Or.inr (w_208 hw)) (Or.inr (w_204 hw)) (by decide) (t := (.object "java/util/List")) (t' := (.object "java/util/List")) (by decide) (by decide)))).other W41 (Or.inr (slot_ne (Or.inr (w_208 hw)) (Or.inr (w_206 hw)) (by decide) (t := (.object "java/util/List")) (t' := .double) (by decide) (by decide))))
  obtain ⟨T44, h44, X44, e44, W44, st44⟩ := putF X41 hx hZ hown (host := "") (Or.inl (w_207 hw)) Via.refl e41 Fl43 Ex42 (Or.inr ⟨(w_208 hw), rfl, hnm⟩) (w_97 hw) (ty := (.object "java/util/List")) (by decide) rfl rfl (g := (mkF m 89 #[.val (.ref a1), .val (.ref b14_b6_b11_b5_b32), .val (.ref b28_b8_b15_b7_b34), .val (.double d4), .second, .val (.ref a31)] [(.ref a31), (.ref a1)])) rfl rfl (hb hby d15_89)
  have s5 := (Keep.of_wr W44).1
  have N44 := Fr.snoc X44 N41 g_a1
  have Fw44 : Fld Z h44 a1 "com/example/feedergen/feedergen/core/DrivenLine" "route" "Ljava/util/List;" (.ref a31) := Fl43.same W44
  have Ex45 := (Ex42.wr W44)
  have Fl46 := ((Fw38.other W41 (Or.inr (slot_ne (Or.inr (w_204 hw)) (Or.inr (w_206 hw)) (by decide) (t := (.object "java/util/List")) (t' := .double) (by decide) (by decide)))).other W44 (Or.inr (slot_ne (Or.inr (w_204 hw)) (Or.inr (w_208 hw)) (by decide) (t := (.object "java/util/List")) (t' := (.object "java/util/List")) (by decide) (by decide))))
  have Fl47 := (Fw41.other W44 (Or.inr (slot_ne (Or.inr (w_206 hw)) (Or.inr (w_208 hw)) (by decide) (t := .double) (t' := (.object "java/util/List")) (by decide) (by decide))))
  have Fl48 := (((Fw35.other W38 (Or.inr (slot_ne (Or.inr (w_202 hw)) (Or.inr (w_204 hw)) (by decide) (t := (.object "java/util/List")) (t' := (.object "java/util/List")) (by decide) (by decide)))).other W41 (Or.inr (slot_ne (Or.inr (w_202 hw)) (Or.inr (w_206 hw)) (by decide) (t := (.object "java/util/List")) (t' := .double) (by decide) (by decide)))).other W44 (Or.inr (slot_ne (Or.inr (w_202 hw)) (Or.inr (w_208 hw)) (by decide) (t := (.object "java/util/List")) (t' := (.object "java/util/List")) (by decide) (by decide))))
  have sz_b28_b8_b15_b7_b34 : h0.size ≤ b28_b8_b15_b7_b34 := Nat.le_trans s0 o28_0
  have Ex49 := ((((o28_1.wr W35).wr W38).wr W41).wr W44)
  have ne_a1_b28_b8_b15_b7_b34 := Nat.ne_of_lt (Nat.lt_of_lt_of_le (Nat.lt_of_lt_of_le F_stops_a1.lt s0) o28_0)
  have Fl50 := ((((o28_2.other W35 (Or.inl (Ne.symm ne_a1_b28_b8_b15_b7_b34))).other W38 (Or.inl (Ne.symm ne_a1_b28_b8_b15_b7_b34))).other W41 (Or.inl (Ne.symm ne_a1_b28_b8_b15_b7_b34))).other W44 (Or.inl (Ne.symm ne_a1_b28_b8_b15_b7_b34)))
  have Fl51 := ((((o28_3.other W35 (Or.inl (Ne.symm ne_a1_b28_b8_b15_b7_b34))).other W38 (Or.inl (Ne.symm ne_a1_b28_b8_b15_b7_b34))).other W41 (Or.inl (Ne.symm ne_a1_b28_b8_b15_b7_b34))).other W44 (Or.inl (Ne.symm ne_a1_b28_b8_b15_b7_b34)))
  have sz_b14_b6_b11_b5_b32 : h0.size ≤ b14_b6_b11_b5_b32 := o14_0
  have Ex52 := (((((o14_1.keep K28).wr W35).wr W38).wr W41).wr W44)
  have ne_a1_b14_b6_b11_b5_b32 := Nat.ne_of_lt (Nat.lt_of_lt_of_le F_stops_a1.lt o14_0)
  have Fl53 := (((((o14_2.keep K28 nin0).other W35 (Or.inl (Ne.symm ne_a1_b14_b6_b11_b5_b32))).other W38 (Or.inl (Ne.symm ne_a1_b14_b6_b11_b5_b32))).other W41 (Or.inl (Ne.symm ne_a1_b14_b6_b11_b5_b32))).other W44 (Or.inl (Ne.symm ne_a1_b14_b6_b11_b5_b32)))
  have Fl54 := (((((o14_3.keep K28 nin0).other W35 (Or.inl (Ne.symm ne_a1_b14_b6_b11_b5_b32))).other W38 (Or.inl (Ne.symm ne_a1_b14_b6_b11_b5_b32))).other W41 (Or.inl (Ne.symm ne_a1_b14_b6_b11_b5_b32))).other W44 (Or.inl (Ne.symm ne_a1_b14_b6_b11_b5_b32)))
  have sz_b28_b8_b15_b7_b7 : h0.size ≤ b28_b8_b15_b7_b7 := Nat.le_trans s0 o28_4
  have Ex55 := ((((o28_5.wr W35).wr W38).wr W41).wr W44)
  have ne_a1_b28_b8_b15_b7_b7 := Nat.ne_of_lt (Nat.lt_of_lt_of_le (Nat.lt_of_lt_of_le F_stops_a1.lt s0) o28_4)
  have Va56 := ((((o28_7.other W35 (Ne.symm ne_a1_b28_b8_b15_b7_b7)).other W38 (Ne.symm ne_a1_b28_b8_b15_b7_b7)).other W41 (Ne.symm ne_a1_b28_b8_b15_b7_b7)).other W44 (Ne.symm ne_a1_b28_b8_b15_b7_b7))
  have sz_b14_b6_b11_b5_b5 : h0.size ≤ b14_b6_b11_b5_b5 := o14_4
  have Ex57 := (((((o14_5.keep K28).wr W35).wr W38).wr W41).wr W44)
  have ne_a1_b14_b6_b11_b5_b5 := Nat.ne_of_lt (Nat.lt_of_lt_of_le F_stops_a1.lt o14_4)
  have Va58 := (((((o14_7.keep K28 nin0).other W35 (Ne.symm ne_a1_b14_b6_b11_b5_b5)).other W38 (Ne.symm ne_a1_b14_b6_b11_b5_b5)).other W41 (Ne.symm ne_a1_b14_b6_b11_b5_b5)).other W44 (Ne.symm ne_a1_b14_b6_b11_b5_b5))
  have ne_b14_b6_b11_b5_b32_b28_b8_b15_b7_b34 := Nat.ne_of_lt (Nat.lt_of_lt_of_le o14_3.lt o28_0)
  have ne_b14_b6_b11_b5_b5_b28_b8_b15_b7_b34 := Nat.ne_of_lt (Nat.lt_of_lt_of_le o14_7.lt o28_0)
  have ne_b14_b6_b11_b5_b32_b28_b8_b15_b7_b7 := Nat.ne_of_lt (Nat.lt_of_lt_of_le o14_3.lt o28_4)
  have ne_b14_b6_b11_b5_b5_b28_b8_b15_b7_b7 := Nat.ne_of_lt (Nat.lt_of_lt_of_le o14_7.lt o28_4)
  have Kp0 : Keep h0 T14.heap [a1] := (Keep.refl h0 [a1]).trans K14 all0
  have Kp1 : Keep h0 T28.heap [a1] := Kp0.trans K28 all0
  have Kp2 : Keep h0 h35 [a1] := Kp1.wr W35 (Or.inl (List.mem_of_getElem? (i := 0) rfl))
  have Kp3 : Keep h0 h38 [a1] := Kp2.wr W38 (Or.inl (List.mem_of_getElem? (i := 0) rfl))
  have Kp4 : Keep h0 h41 [a1] := Kp3.wr W41 (Or.inl (List.mem_of_getElem? (i := 0) rfl))
  have Kp5 : Keep h0 h44 [a1] := Kp4.wr W44 (Or.inl (List.mem_of_getElem? (i := 0) rfl))
  refine ⟨T44, _, _, _, none, X44, (fun _ => rfl), by decide, by decide, ?_, fun fs hr => ?_⟩
  · show Q71 Z a1 a2 a3 d4 a5 a10 a11 a12 k13 a17 a20 a21 a22 k23 a31 h0 n0 _ T44.heap _
    rw [e44]
    exact ⟨b28_b8_b15_b7_b34, b14_b6_b11_b5_b32, b28_b8_b15_b7_b7, k28_k8_k15_k7_k7, b14_b6_b11_b5_b5, k14_k6_k11_k5_k5, rfl, N44, Kp5, Ex45, Fl46, Fl47, Fw44, Fl48, sz_b28_b8_b15_b7_b34, Ex49, Fl50, Fl51, sz_b14_b6_b11_b5_b32, Ex52, Fl53, Fl54, sz_b28_b8_b15_b7_b7, Ex55, o28_6, Va56, sz_b14_b6_b11_b5_b5, Ex57, o14_6, Va58, (Ne.symm ne_b14_b6_b11_b5_b32_b28_b8_b15_b7_b34), o28_8, (Ne.symm ne_b14_b6_b11_b5_b5_b28_b8_b15_b7_b34), ne_b14_b6_b11_b5_b32_b28_b8_b15_b7_b7, o14_8, (Ne.symm ne_b14_b6_b11_b5_b5_b28_b8_b15_b7_b7)⟩
  · show Steps p.tables e below (s₁.setTop (mkF m 0 #[.val (.ref a1), .val (.ref a2), .val (.ref a3), .val (.double d4), .second, .val (.ref a5)] [])) _
    refine XS.aloadN X0.here hx rfl (hb hby d15_0) rfl rfl ?_
    refine st6 _ ?_
    refine XS.aloadN X6.here hx rfl (hb hby d15_4) rfl rfl ?_
    refine st7 _ ?_
    refine XS.iconst X7.here hx rfl (hb hby d15_10) ?_
    refine XS.icmpNo X7.here hx rfl (hb hby d15_11) rfl (flt ((by decide : ¬ ((3 : Int32) < (2 : Int32))) : ¬ ((3 : Int32) < (2 : Int32)))).1 ?_
    refine XS.aloadN X7.here hx rfl (hb hby d15_14) rfl rfl ?_
    refine st8 _ ?_
    refine XS.aloadN X8.here hx rfl (hb hby d15_20) rfl rfl ?_
    refine st9 _ ?_
    refine XS.icmpYes X9.here hx rfl (pc0 := 26) (pc' := 54) rfl (hb hby d15_26) rfl (teq ((by decide : (3 : Int32) = (3 : Int32)) : (3 : Int32) = (3 : Int32))).1 (by decide) (by decide) ?_
    refine XS.aloadN X9.here hx rfl (hb hby d15_54) rfl rfl ?_
    show Steps p.tables e below (T9.setTop (mkF m 55 #[.val (.ref a1), .val (.ref a2), .val (.ref a3), .val (.double d4), .second, .val (.ref a5)] [(.ref a2)])) _
    refine st14 _ ?_
    refine XS.astoreN X14.here hx rfl (hb hby d15_58) rfl rfl (l' := #[.val (.ref a1), .val (.ref b14_b6_b11_b5_b32), .val (.ref a3), .val (.double d4), .second, .val (.ref a5)]) rfl ?_
    refine XS.aloadN X14.here hx rfl (hb hby d15_59) rfl rfl ?_
    refine st28 _ ?_
    refine XS.astoreN X28.here hx rfl (hb hby d15_63) rfl rfl (l' := #[.val (.ref a1), .val (.ref b14_b6_b11_b5_b32), .val (.ref b28_b8_b15_b7_b34), .val (.double d4), .second, .val (.ref a5)]) rfl ?_
    refine XS.aload X28.here hx rfl (hb hby d15_64) rfl rfl ?_
    refine st32 _ ?_
    refine XS.astore X32.here hx rfl (hb hby d15_69) rfl rfl (l' := #[.val (.ref a1), .val (.ref b14_b6_b11_b5_b32), .val (.ref b28_b8_b15_b7_b34), .val (.double d4), .second, .val (.ref a31)]) rfl ?_
    refine XS.aloadN X32.here hx rfl (hb hby d15_71) rfl rfl ?_
    refine XS.aloadN X32.here hx rfl (hb hby d15_72) rfl rfl ?_
    refine st35 _ ?_
    refine XS.aloadN X35.here hx rfl (hb hby d15_76) rfl rfl ?_
    show Steps p.tables e below (T35.setTop (mkF m 77 #[.val (.ref a1), .val (.ref b14_b6_b11_b5_b32), .val (.ref b28_b8_b15_b7_b34), .val (.double d4), .second, .val (.ref a31)] [(.ref a1)])) _
    refine XS.aloadN X35.here hx rfl (hb hby d15_77) rfl rfl ?_
    refine st38 _ ?_
    refine XS.aloadN X38.here hx rfl (hb hby d15_81) rfl rfl ?_
    refine XS.dloadN X38.here hx rfl (hb hby d15_82) rfl ?_
    refine st41 _ ?_
    refine XS.aloadN X41.here hx rfl (hb hby d15_86) rfl rfl ?_
    refine XS.aload X41.here hx rfl (hb hby d15_87) rfl rfl ?_
    refine st44 _ ?_
    exact X44.returnOut hx hret (hb hby d15_92) hr
theorem d36_0 : decode jdk_45_method_3_code 0 = .ok (.aload_n 0, 1) := by decide +kernel
theorem d36_1 : decode jdk_45_method_3_code 1 = .ok (.getfield 7, 3) := by decide +kernel
theorem d36_4 : decode jdk_45_method_3_code 4 = .ok (.arraylength, 1) := by decide +kernel
theorem d36_5 : decode jdk_45_method_3_code 5 = .ok (.ireturn, 1) := by decide +kernel
abbrev y_38 : MethodName := ⟨"java/util/ImmutableCollections$ListN", "size", "()I"⟩
-- java/util/ImmutableCollections$ListN.size()I
abbrev Rm72 : Room := { frames := 0, cells := 0, slots := 0, locals := 0 }
def Q72 (Z : State) (a1 : Addr) (a2 : Addr) (a4 : Addr) (a5 : Addr) (a6 : Addr) (k7 : ClassId) (h0 : Heap) (n0 : Nat) (v : Option Value) (h : Heap) (L : List Loc) : Prop := v = some (.int (3 : Int32)) ∧ Fr n0 L ∧ h = h0
theorem ef72 (a1 : Addr) (m : MethodId) : entryFrame m #[(.ref a1)] 1 = mkF m 0 #[.val (.ref a1)] [] := by first | (simp [entryFrame, mkF, argsToLocals, Value.category]; done) | rfl
theorem rm72 (l : Launch) (Z : State) (a0 : Array Value) (hw : ∀ d ∈ tables_1, d.before a0 Z = true) (ws : List Jvm.Cond) (a1 : Addr) (a2 : Addr) (a4 : Addr) (a5 : Addr) (a6 : Addr) (k7 : ClassId) (h0 : Heap) (n0 : Nat) (Z0 : n0 ≤ h0.size) (F_elements_a1 : Fld Z h0 a1 "java/util/ImmutableCollections$ListN" "elements" "[Ljava/lang/Object;" (.ref a2)) (V_a2 : Arv Z h0 a2 k7 (.object "java/lang/Object") (3 : Int32) [(.ref a4), (.ref a5), (.ref a6)] .null) :
    OwnMet l Z y_38 jdk_45_method_3_code 1 (some .int) ws Rm72 #[(.ref a1)] h0 (Q72 Z a1 a2 a4 a5 a6 k7 h0 n0) := by
  refine own_body (plainFor_of_name pn_16) (ef72 a1) ?_
  intro p e s m below meth c s₁ hx hby hml hown hnm hret hZ X0 e0
  have N0 := Fr.nil n0
  obtain ⟨T3, X3, e3, st3⟩ := getF X0 hx hZ hown (host := "") (Or.inl (w_250 hw)) Via.refl e0 F_elements_a1 (g := (mkF m 1 #[.val (.ref a1)] [(.ref a1)])) rfl rfl (hb hby d36_1)
  obtain ⟨cl8, Ar8, q8, S8, M8, Hs8, G8⟩ := id V_a2
  refine ⟨T3, _, _, _, (some (.int (3 : Int32))), X3, nofun, by decide, by decide, ?_, fun fs hr => ?_⟩
  · show Q72 Z a1 a2 a4 a5 a6 k7 h0 n0 _ T3.heap _
    rw [e3]
    exact ⟨rfl, N0, rfl⟩
  · show Steps p.tables e below (s₁.setTop (mkF m 0 #[.val (.ref a1)] [])) _
    refine XS.aloadN X0.here hx rfl (hb hby d36_0) rfl rfl ?_
    refine st3 _ ?_
    refine X3.arraylength hx (by rw [e3]; exact Ar8.1) (State.isArrayOf_alike hZ.alike Ar8.2.1) (g := (mkF m 4 #[.val (.ref a1)] [(.ref a2)])) rfl rfl (hb hby d36_4) _ ?_
    show Steps p.tables e below (T3.setTop (mkF m 5 #[.val (.ref a1)] [(.int cl8.slots.size.toInt32)])) _
    rw [len_of S8 M8]
    exact retI X3 hx hret (hb hby d36_5) hr
theorem w_259 {a0 : Array Value} {Z : State} (hw : ∀ d ∈ tables_1, d.before a0 Z = true) : Jvm.Cond.before (Jvm.Cond.code ({ cls := "java/util/ImmutableCollections$ListN", name := "size", desc := "()I" } : Jvm.MethodName) jdk_45_method_3_code (1 : Nat) (Option.some Jvm.ClassFile.FieldType.int)) a0 Z = true := hw _ (List.mem_of_getElem? (i := 259) rfl)
theorem w_254 {a0 : Array Value} {Z : State} (hw : ∀ d ∈ tables_1, d.before a0 Z = true) : Jvm.Cond.before (Jvm.Cond.selects "java/util/ImmutableCollections$ListN" ({ cls := "java/util/List", name := "size", desc := "()I" } : Jvm.MethodName) ({ cls := "java/util/ImmutableCollections$ListN", name := "size", desc := "()I" } : Jvm.MethodName)) a0 Z = true := hw _ (List.mem_of_getElem? (i := 254) rfl)
theorem w_255 {a0 : Array Value} {Z : State} (hw : ∀ d ∈ tables_1, d.before a0 Z = true) : Jvm.Cond.before (Jvm.Cond.instanceMethod ({ cls := "java/util/ImmutableCollections$ListN", name := "size", desc := "()I" } : Jvm.MethodName)) a0 Z = true := hw _ (List.mem_of_getElem? (i := 255) rfl)
theorem w_256 {a0 : Array Value} {Z : State} (hw : ∀ d ∈ tables_1, d.before a0 Z = true) : Jvm.Cond.before (Jvm.Cond.publicMethod ({ cls := "java/util/ImmutableCollections$ListN", name := "size", desc := "()I" } : Jvm.MethodName)) a0 Z = true := hw _ (List.mem_of_getElem? (i := 256) rfl)
theorem w_257 {a0 : Array Value} {Z : State} (hw : ∀ d ∈ tables_1, d.before a0 Z = true) : Jvm.Cond.before (Jvm.Cond.unhidden "java/util/ImmutableCollections$ListN" "size" "()I") a0 Z = true := hw _ (List.mem_of_getElem? (i := 257) rfl)
theorem w_258 {a0 : Array Value} {Z : State} (hw : ∀ d ∈ tables_1, d.before a0 Z = true) : Jvm.Cond.before (Jvm.Cond.castable "java/util/ImmutableCollections$ListN" "java/util/List") a0 Z = true := hw _ (List.mem_of_getElem? (i := 258) rfl)
theorem d37_0 : decode jdk_45_method_4_code 0 = .ok (.aload_n 0, 1) := by decide +kernel
theorem d37_1 : decode jdk_45_method_4_code 1 = .ok (.getfield 7, 3) := by decide +kernel
theorem d37_4 : decode jdk_45_method_4_code 4 = .ok (.iload_n 1, 1) := by decide +kernel
theorem d37_5 : decode jdk_45_method_4_code 5 = .ok (.aaload, 1) := by decide +kernel
theorem d37_6 : decode jdk_45_method_4_code 6 = .ok (.areturn, 1) := by decide +kernel
abbrev y_39 : MethodName := ⟨"java/util/ImmutableCollections$ListN", "get", "(I)Ljava/lang/Object;"⟩
-- java/util/ImmutableCollections$ListN.get(I)Ljava/lang/Object;
abbrev Rm73 : Room := { frames := 0, cells := 0, slots := 0, locals := 0 }
def Q73 (Z : State) (a1 : Addr) (a2 : Addr) (a4 : Addr) (a5 : Addr) (a6 : Addr) (k7 : ClassId) (h0 : Heap) (n0 : Nat) (v : Option Value) (h : Heap) (L : List Loc) : Prop := v = some (.ref a6) ∧ Fr n0 L ∧ h = h0
theorem ef73 (a1 : Addr) (m : MethodId) : entryFrame m #[(.ref a1), (.int (2 : Int32))] 2 = mkF m 0 #[.val (.ref a1), .val (.int (2 : Int32))] [] := by first | (simp [entryFrame, mkF, argsToLocals, Value.category]; done) | rfl
theorem rm73 (l : Launch) (Z : State) (a0 : Array Value) (hw : ∀ d ∈ tables_1, d.before a0 Z = true) (ws : List Jvm.Cond) (a1 : Addr) (a2 : Addr) (a4 : Addr) (a5 : Addr) (a6 : Addr) (k7 : ClassId) (h0 : Heap) (n0 : Nat) (Z0 : n0 ≤ h0.size) (F_elements_a1 : Fld Z h0 a1 "java/util/ImmutableCollections$ListN" "elements" "[Ljava/lang/Object;" (.ref a2)) (V_a2 : Arv Z h0 a2 k7 (.object "java/lang/Object") (3 : Int32) [(.ref a4), (.ref a5), (.ref a6)] .null) :
    OwnMet l Z y_39 jdk_45_method_4_code 2 (some (.object "java/lang/Object")) ws Rm73 #[(.ref a1), (.int (2 : Int32))] h0 (Q73 Z a1 a2 a4 a5 a6 k7 h0 n0) := by
  refine own_body (plainFor_of_name pn_16) (ef73 a1) ?_
  intro p e s m below meth c s₁ hx hby hml hown hnm hret hZ X0 e0
  have N0 := Fr.nil n0
  obtain ⟨T3, X3, e3, st3⟩ := getF X0 hx hZ hown (host := "") (Or.inl (w_250 hw)) Via.refl e0 F_elements_a1 (g := (mkF m 1 #[.val (.ref a1), .val (.int (2 : Int32))] [(.ref a1)])) rfl rfl (hb hby d37_1)
  obtain ⟨cl8, Ar8, q8, S8, M8, Hs8, G8⟩ := id V_a2
  have hin9 : ¬ ((2 : Int32) < 0 ∨ cl8.slots.size ≤ ((2 : Int32)).toNatClampNeg) := inb_of S8 ⟨(by decide : ¬ ((2 : Int32) < (0 : Int32))), (by decide : (2 : Int32) < (3 : Int32))⟩
  refine ⟨T3, _, _, _, (some (.ref a6)), X3, nofun, by decide, by decide, ?_, fun fs hr => ?_⟩
  · show Q73 Z a1 a2 a4 a5 a6 k7 h0 n0 _ T3.heap _
    rw [e3]
    exact ⟨rfl, N0, rfl⟩
  · show Steps p.tables e below (s₁.setTop (mkF m 0 #[.val (.ref a1), .val (.int (2 : Int32))] [])) _
    refine XS.aloadN X0.here hx rfl (hb hby d37_0) rfl rfl ?_
    refine st3 _ ?_
    refine XS.iloadN X3.here hx rfl (hb hby d37_4) rfl ?_
    refine X3.aaload hx (j := (2 : Int32)) (v := (.ref a6)) (by rw [e3]; exact Ar8.1) (State.isArrayOf_alike hZ.alike Ar8.2.1) rfl Ar8.2.2 hin9 (Has.at Hs8 hin9 rfl) (g := (mkF m 5 #[.val (.ref a1), .val (.int (2 : Int32))] [(.int (2 : Int32)), (.ref a2)])) rfl rfl (hb hby d37_5) _ ?_
    exact retOut X3 hx hret rfl (Or.inr (Or.inr (Or.inr (Or.inr ⟨rfl, rfl, rfl⟩)))) (hb hby d37_6) hr
theorem w_264 {a0 : Array Value} {Z : State} (hw : ∀ d ∈ tables_1, d.before a0 Z = true) : Jvm.Cond.before (Jvm.Cond.code ({ cls := "java/util/ImmutableCollections$ListN", name := "get", desc := "(I)Ljava/lang/Object;" } : Jvm.MethodName) jdk_45_method_4_code (2 : Nat) (Option.some (Jvm.ClassFile.FieldType.object "java/lang/Object"))) a0 Z = true := hw _ (List.mem_of_getElem? (i := 264) rfl)
theorem w_260 {a0 : Array Value} {Z : State} (hw : ∀ d ∈ tables_1, d.before a0 Z = true) : Jvm.Cond.before (Jvm.Cond.selects "java/util/ImmutableCollections$ListN" ({ cls := "java/util/List", name := "get", desc := "(I)Ljava/lang/Object;" } : Jvm.MethodName) ({ cls := "java/util/ImmutableCollections$ListN", name := "get", desc := "(I)Ljava/lang/Object;" } : Jvm.MethodName)) a0 Z = true := hw _ (List.mem_of_getElem? (i := 260) rfl)
theorem w_261 {a0 : Array Value} {Z : State} (hw : ∀ d ∈ tables_1, d.before a0 Z = true) : Jvm.Cond.before (Jvm.Cond.instanceMethod ({ cls := "java/util/ImmutableCollections$ListN", name := "get", desc := "(I)Ljava/lang/Object;" } : Jvm.MethodName)) a0 Z = true := hw _ (List.mem_of_getElem? (i := 261) rfl)
theorem w_262 {a0 : Array Value} {Z : State} (hw : ∀ d ∈ tables_1, d.before a0 Z = true) : Jvm.Cond.before (Jvm.Cond.publicMethod ({ cls := "java/util/ImmutableCollections$ListN", name := "get", desc := "(I)Ljava/lang/Object;" } : Jvm.MethodName)) a0 Z = true := hw _ (List.mem_of_getElem? (i := 262) rfl)
theorem w_263 {a0 : Array Value} {Z : State} (hw : ∀ d ∈ tables_1, d.before a0 Z = true) : Jvm.Cond.before (Jvm.Cond.unhidden "java/util/ImmutableCollections$ListN" "get" "(I)Ljava/lang/Object;") a0 Z = true := hw _ (List.mem_of_getElem? (i := 263) rfl)
-- com/example/feedergen/feedergen/core/DrivenLine.lengthForward()D
abbrev Rm74 : Room := { frames := 1, cells := 0, slots := 0, locals := 13 }
def Q74 (Z : State) (a1 : Addr) (a2 : Addr) (a5 : Addr) (a6 : Addr) (a7 : Addr) (a8 : Addr) (k9 : ClassId) (d13 : UInt64) (h0 : Heap) (n0 : Nat) (v : Option Value) (h : Heap) (L : List Loc) : Prop := v = some (.double d13) ∧ Fr n0 L ∧ h = h0
theorem ef74 (a1 : Addr) (m : MethodId) : entryFrame m #[(.ref a1)] 1 = mkF m 0 #[.val (.ref a1)] [] := by first | (simp [entryFrame, mkF, argsToLocals, Value.category]; done) | rfl
theorem rm74 (l : Launch) (Z : State) (a0 : Array Value) (hw : ∀ d ∈ tables_1, d.before a0 Z = true) (ws : List Jvm.Cond) (a1 : Addr) (a2 : Addr) (a5 : Addr) (a6 : Addr) (a7 : Addr) (a8 : Addr) (k9 : ClassId) (d13 : UInt64) (h0 : Heap) (n0 : Nat) (Z0 : n0 ≤ h0.size) (F_distances_a1 : Fld Z h0 a1 "com/example/feedergen/feedergen/core/DrivenLine" "distances" "Ljava/util/List;" (.ref a2)) (E_a2 : Exa Z h0 a2 "java/util/ImmutableCollections$ListN") (F_elements_a2 : Fld Z h0 a2 "java/util/ImmutableCollections$ListN" "elements" "[Ljava/lang/Object;" (.ref a5)) (V_a5 : Arv Z h0 a5 k9 (.object "java/lang/Object") (3 : Int32) [(.ref a6), (.ref a7), (.ref a8)] .null) (E_a8 : Exa Z h0 a8 "java/lang/Double") (F_value_a8 : Fld Z h0 a8 "java/lang/Double" "value" "D" (.double d13)) :
    OwnMet l Z y_35 prog_9_method_2_code 1 (some .double) ws Rm74 #[(.ref a1)] h0 (Q74 Z a1 a2 a5 a6 a7 a8 k9 d13 h0 n0) := by
  refine own_body (plainFor_of_name pn_14) (ef74 a1) ?_
  intro p e s m below meth c s₁ hx hby hml hown hnm hret hZ X0 e0
  have N0 := Fr.nil n0
  obtain ⟨T3, X3, e3, st3⟩ := getF X0 hx hZ hown (host := "") (Or.inl (w_203 hw)) Via.refl e0 F_distances_a1 (g := (mkF m 1 #[.val (.ref a1)] [(.ref a1)])) rfl rfl (hb hby d30_1)
  obtain ⟨T4, X4, e4, st4⟩ := getF X3 hx hZ hown (host := "") (Or.inl (w_203 hw)) Via.refl e3 F_distances_a1 (g := (mkF m 5 #[.val (.ref a1)] [(.ref a1), (.ref a2)])) rfl rfl (hb hby d30_5)
  obtain ⟨_, T10, L10, X10, hQ10, st10⟩ := own_iface X4 hx hZ hown (y := y_14) (z := y_38) E_a2 (w_103 hw) (w_104 hw) (w_105 hw) (w_254 hw) (w_255 hw) (w_256 hw) (w_257 hw) (w_258 hw) (w_241 hw) (w_259 hw) (rm72 l Z a0 hw [] a2 a5 a6 a7 a8 k9 h0 n0 Z0 F_elements_a2 V_a5) e4 (Ls := #[.val (.ref a1)]) (by rw [hml]; rfl) (argsL := []) (rest := [(.ref a2)]) (lenOf pd_9 rfl) (hb hby d30_8) (W := 1)
  obtain ⟨rfl, Nq10, e10⟩ := hQ10
  have N10 := Fr.app N0 Nq10
  obtain ⟨_, T11, L11, X11, hQ11, st11⟩ := own_iface X10 hx hZ hown (y := y_33) (z := y_39) E_a2 (w_221 hw) (w_222 hw) (w_223 hw) (w_260 hw) (w_261 hw) (w_262 hw) (w_263 hw) (w_258 hw) (w_241 hw) (w_264 hw) (rm73 l Z a0 hw [] a2 a5 a6 a7 a8 k9 h0 n0 Z0 F_elements_a2 V_a5) e10 (Ls := #[.val (.ref a1)]) (by rw [hml]; rfl) (argsL := [(.int (2 : Int32))]) (rest := []) (lenOf pd_19 rfl) (hb hby d30_15) (W := 0)
  obtain ⟨rfl, Nq11, e11⟩ := hQ11
  have N11 := Fr.app N10 Nq11
  obtain ⟨T12, X12, e12, st12⟩ := castY X11 hx hZ hown (w_229 hw) e11 (Ins.self E_a8) (g := (mkF m 20 #[.val (.ref a1)] [(.ref a8)])) rfl rfl (hb hby d30_20)
  obtain ⟨_, T14, L14, X14, hQ14, st14⟩ := own_virtual X12 hx hZ hown (y := y_34) (z := y_34) E_a8 (w_230 hw) (w_231 hw) (notFace_of_selects (args := #[]) (mvT hZ (w_233 hw))) (w_233 hw) (w_232 hw) (w_78 hw) (w_234 hw) (rm47 l Z a0 hw [] a8 d13 h0 n0 Z0 F_value_a8) e12 (Ls := #[.val (.ref a1)]) (by rw [hml]; rfl) (argsL := []) (rest := []) (lenOf pd_20 rfl) (hb hby d30_23) (W := 0)
  obtain ⟨rfl, Nq14, e14⟩ := hQ14
  have N14 := Fr.app N11 Nq14
  refine ⟨T14, _, _, _, (some (.double d13)), X14, nofun, by decide, by decide, ?_, fun fs hr => ?_⟩
  · show Q74 Z a1 a2 a5 a6 a7 a8 k9 d13 h0 n0 _ T14.heap _
    rw [e14]
    exact ⟨rfl, N14, rfl⟩
  · show Steps p.tables e below (s₁.setTop (mkF m 0 #[.val (.ref a1)] [])) _
    refine XS.aloadN X0.here hx rfl (hb hby d30_0) rfl rfl ?_
    refine st3 _ ?_
    refine XS.aloadN X3.here hx rfl (hb hby d30_4) rfl rfl ?_
    refine st4 _ ?_
    refine st10 _ ?_
    refine XS.iconst X10.here hx rfl (hb hby d30_13) ?_
    refine XS.isub X10.here hx rfl (hb hby d30_14) rfl ?_
    refine st11 _ ?_
    refine st12 _ ?_
    refine st14 _ ?_
    exact retOut X14 hx hret rfl (Or.inr (Or.inr (Or.inl ⟨rfl, rfl, _, rfl⟩))) (hb hby d30_26) hr
theorem rm0_1 (l : Launch) (Z : State) (a0 : Array Value) (hw : ∀ d ∈ tables_1, d.before a0 Z = true) (ws : List Jvm.Cond) (p1 : Int32) (p2 : Int32) (p3 : Int32) (p4 : Int32) (p5 : Int32) (p6 : Int32) (sa1 : Addr) (sa2 : Addr) (sa3 : Addr) (sa4 : Addr) (sa5 : Addr) (sk9 : ClassId) (sk11 : ClassId) (sk14 : ClassId) (smr : Addr) (h0 : Heap) (n0 : Nat) (Z0 : n0 ≤ h0.size) (Od0 : Old Z n0 h0) (S8_EMPTY_ELEMENTDATA : Sta Z Z.heap "java/util/ArrayList" "EMPTY_ELEMENTDATA" "[Ljava/lang/Object;" (.ref sa1)) (E_sa1 : Exa Z h0 sa1 "[Ljava/lang/Object;") (V_sa1 : Arv Z h0 sa1 sk9 (.object "java/lang/Object") (0 : Int32) [] .null) (S10_DEFAULTCAPACITY_EMPTY_ELEMENTDATA : Sta Z Z.heap "java/util/ArrayList" "DEFAULTCAPACITY_EMPTY_ELEMENTDATA" "[Ljava/lang/Object;" (.ref sa2)) (E_sa2 : Exa Z h0 sa2 "[Ljava/lang/Object;") (V_sa2 : Arv Z h0 sa2 sk11 (.object "java/lang/Object") (0 : Int32) [] .null) (S12_EMPTY_LIST : Sta Z Z.heap "java/util/ImmutableCollections" "EMPTY_LIST" "Ljava/util/ImmutableCollections$ListN;" (.ref sa3)) (E_sa3 : Exa Z h0 sa3 "java/util/ImmutableCollections$ListN") (F13_elements : Fld Z h0 sa3 "java/util/ImmutableCollections$ListN" "elements" "[Ljava/lang/Object;" (.ref sa4)) (E_sa4 : Exa Z h0 sa4 "[Ljava/lang/Object;") (V_sa4 : Arv Z h0 sa4 sk14 (.object "java/lang/Object") (0 : Int32) [] .null) (S15_EMPTY : Sta Z Z.heap "java/util/ImmutableCollections" "EMPTY" "Ljava/lang/Object;" (.ref sa5)) (E_sa5 : Exa Z h0 sa5 "java/lang/Object") (F16_allowNulls : Fld Z h0 sa3 "java/util/ImmutableCollections$ListN" "allowNulls" "Z" (.int (0 : Int32))) (S17__assertionsDisabled : Sta Z Z.heap "java/util/ImmutableCollections" "$assertionsDisabled" "Z" (.int (1 : Int32))) (M_top : OwnMir Z "[Ljava/lang/Object;" smr) (hk : ((p1 &&& (2147483647 : Int32)) - ((p1 &&& (2147483647 : Int32)) / (3 : Int32)) * (3 : Int32)) = (1 : Int32)) :
    OwnMet l Z x code maxLocals ret ws room_1 #[(.int p1), (.int p2), (.int p3), (.int p4), (.int p5), (.int p6)] h0 (Q0 n0) := by
  refine own_body (plainFor_of_name pn_15) (ef0 p1 p2 p3 p4 p5 p6) ?_
  intro p e s m below meth c s₁ hx hby hml hown hnm hret hZ X0 e0
  have N0 := Fr.nil n0
  obtain ⟨T1, h1, X1, e1, E1, A1, D1, -, st1⟩ := newO X0 hx hZ hown (w_1 hw) (w_2 hw) (w_3 hw) e0 (g := (mkF m 10 #[.val (.int p1), .val (.int p2), .val (.int p3), .val (.int p4), .val (.int p5), .val (.int p6), .val (.int (3 : Int32)), .unset, .unset, .unset, .unset, .unset, .unset, .unset] [])) rfl (hb hby at_10) (by decide) (by decide)
  obtain ⟨b1, g1⟩ : ∃ z, z = h0.size := ⟨_, rfl⟩
  rw [← g1] at A1 D1 st1
  have s0 := E1.1
  have Fn1_id : Fld Z h1 b1 "com/example/feedergen/feedergen/core/StopCandidate" "id" "I" (.int (0 : Int32)) := D1 (Or.inr (w_16 hw)) (ty := .int) (by decide)
  have Fn1_link : Fld Z h1 b1 "com/example/feedergen/feedergen/core/StopCandidate" "link" "Lcom/example/feedergen/feedergen/core/StreetLink;" .null := D1 (Or.inr (w_18 hw)) (ty := (.object "com/example/feedergen/feedergen/core/StreetLink")) (by decide)
  have Fn1_trips : Fld Z h1 b1 "com/example/feedergen/feedergen/core/StopCandidate" "trips" "D" (.double (0 : UInt64)) := D1 (Or.inr (w_20 hw)) (ty := .double) (by decide)
  have g_b1 : n0 ≤ b1 := Nat.le_trans Z0 (Nat.le_of_eq g1.symm)
  have z1 := Nat.le_trans Z0 s0
  obtain ⟨_, T2, L2, X2, hQ2, st2⟩ := own_special X1 hx hZ hown (y := y_1) (a := b1) (w_4 hw) (w_5 hw) (w_3 hw) (w_6 hw) (rm2 l Z a0 hw [] b1 h1 n0 z1 Fn1_id A1 g_b1 Fn1_link Fn1_trips) e1 (Ls := #[.val (.int p1), .val (.int p2), .val (.int p3), .val (.int p4), .val (.int p5), .val (.int p6), .val (.int (3 : Int32)), .unset, .unset, .unset, .unset, .unset, .unset, .unset]) (by rw [hml]; rfl) (argsL := [(.int (1 : Int32)), .null, (.double (0 : UInt64))]) (rest := [(.ref b1)]) (lenOf pd_1 rfl) (hb hby at_17) (W := 1)
  obtain ⟨rfl, Nq2, K2, o2_0, o2_1, o2_2, o2_3⟩ := hQ2
  have N2 := Fr.app N0 Nq2
  have s1 := K2.1
  obtain ⟨T3, h3, X3, e3, E3, A3, D3, -, st3⟩ := newO X2 hx hZ hown (w_21 hw) (w_22 hw) (w_23 hw) rfl (g := (mkF m 22 #[.val (.int p1), .val (.int p2), .val (.int p3), .val (.int p4), .val (.int p5), .val (.int p6), .val (.int (3 : Int32)), .val (.ref b1), .unset, .unset, .unset, .unset, .unset, .unset] [])) rfl (hb hby at_22) (by decide) (by decide)
  obtain ⟨b3, g3⟩ : ∃ z, z = T2.heap.size := ⟨_, rfl⟩
  rw [← g3] at A3 D3 st3
  have s2 := E3.1
  have Fn3_modCount : Fld Z h3 b3 "java/util/AbstractList" "modCount" "I" (.int (0 : Int32)) := D3 (Or.inl (w_41 hw)) (ty := .int) (by decide)
  have Fn3_elementData : Fld Z h3 b3 "java/util/ArrayList" "elementData" "[Ljava/lang/Object;" .null := D3 (Or.inl (w_44 hw)) (ty := (.array (.object "java/lang/Object"))) (by decide)
  have Fn3_size : Fld Z h3 b3 "java/util/ArrayList" "size" "I" (.int (0 : Int32)) := D3 (Or.inl (w_53 hw)) (ty := .int) (by decide)
  have z2 := Nat.le_trans Z0 (Nat.le_trans s0 s1)
  have g_b3 : n0 ≤ b3 := Nat.le_trans z2 (Nat.le_of_eq g3.symm)
  have Od1 : Old Z n0 h1 := Od0.ext E1
  have Od2 : Old Z n0 T2.heap := Od1.keep K2 (allS g_b1 all0)
  have Od3 : Old Z n0 h3 := Od2.ext E3
  have z3 := Nat.le_trans Z0 (Nat.le_trans (Nat.le_trans s0 s1) s2)
  obtain ⟨_, T4, L4, X4, hQ4, st4⟩ := own_special X3 hx hZ hown (y := y_4) (a := b3) (w_24 hw) (w_25 hw) (w_23 hw) (w_26 hw) (rm5 l Z a0 hw [] b3 sa2 h3 n0 z3 Fn3_modCount A3 g_b3 Fn3_elementData Fn3_size S10_DEFAULTCAPACITY_EMPTY_ELEMENTDATA Od3) e3 (Ls := #[.val (.int p1), .val (.int p2), .val (.int p3), .val (.int p4), .val (.int p5), .val (.int p6), .val (.int (3 : Int32)), .val (.ref b1), .unset, .unset, .unset, .unset, .unset, .unset]) (by rw [hml]; rfl) (argsL := []) (rest := [(.ref b3)]) (lenOf pd_0 rfl) (hb hby at_26) (W := 1)
  obtain ⟨rfl, Nq4, K4, o4_0, o4_1, o4_2, o4_3⟩ := hQ4
  have N4 := Fr.app N2 Nq4
  have s3 := K4.1
  obtain ⟨T5, h5, X5, e5, E5, A5, D5, -, st5⟩ := newO X4 hx hZ hown (w_21 hw) (w_22 hw) (w_23 hw) rfl (g := (mkF m 31 #[.val (.int p1), .val (.int p2), .val (.int p3), .val (.int p4), .val (.int p5), .val (.int p6), .val (.int (3 : Int32)), .val (.ref b1), .val (.ref b3), .unset, .unset, .unset, .unset, .unset] [])) rfl (hb hby at_31) (by decide) (by decide)
  obtain ⟨b5, g5⟩ : ∃ z, z = T4.heap.size := ⟨_, rfl⟩
  rw [← g5] at A5 D5 st5
  have s4 := E5.1
  have Fn5_modCount : Fld Z h5 b5 "java/util/AbstractList" "modCount" "I" (.int (0 : Int32)) := D5 (Or.inl (w_41 hw)) (ty := .int) (by decide)
  have Fn5_elementData : Fld Z h5 b5 "java/util/ArrayList" "elementData" "[Ljava/lang/Object;" .null := D5 (Or.inl (w_44 hw)) (ty := (.array (.object "java/lang/Object"))) (by decide)
  have Fn5_size : Fld Z h5 b5 "java/util/ArrayList" "size" "I" (.int (0 : Int32)) := D5 (Or.inl (w_53 hw)) (ty := .int) (by decide)
  have z4 := Nat.le_trans Z0 (Nat.le_trans (Nat.le_trans (Nat.le_trans s0 s1) s2) s3)
  have g_b5 : n0 ≤ b5 := Nat.le_trans z4 (Nat.le_of_eq g5.symm)
  have Od4 : Old Z n0 T4.heap := Od3.keep K4 (allS g_b3 all0)
  have Od5 : Old Z n0 h5 := Od4.ext E5
  have z5 := Nat.le_trans Z0 (Nat.le_trans (Nat.le_trans (Nat.le_trans (Nat.le_trans s0 s1) s2) s3) s4)
  obtain ⟨_, T6, L6, X6, hQ6, st6⟩ := own_special X5 hx hZ hown (y := y_4) (a := b5) (w_24 hw) (w_25 hw) (w_23 hw) (w_26 hw) (rm5 l Z a0 hw [] b5 sa2 h5 n0 z5 Fn5_modCount A5 g_b5 Fn5_elementData Fn5_size S10_DEFAULTCAPACITY_EMPTY_ELEMENTDATA Od5) e5 (Ls := #[.val (.int p1), .val (.int p2), .val (.int p3), .val (.int p4), .val (.int p5), .val (.int p6), .val (.int (3 : Int32)), .val (.ref b1), .val (.ref b3), .unset, .unset, .unset, .unset, .unset]) (by rw [hml]; rfl) (argsL := []) (rest := [(.ref b5)]) (lenOf pd_0 rfl) (hb hby at_35) (W := 1)
  obtain ⟨rfl, Nq6, K6, o6_0, o6_1, o6_2, o6_3⟩ := hQ6
  have N6 := Fr.app N4 Nq6
  have s5 := K6.1
  have Ex7 := ((o4_0.ext E5).keep K6)
  have ne_b3_b5 := Nat.ne_of_lt (Nat.lt_of_lt_of_le o4_3.lt (Nat.le_of_eq g5.symm))
  have Fl8 := ((o4_1.ext E5).keep K6 (ninS ne_b3_b5 nin0))
  have Fl9 := ((o4_2.ext E5).keep K6 (ninS ne_b3_b5 nin0))
  have Fl10 := ((o4_3.ext E5).keep K6 (ninS ne_b3_b5 nin0))
  have ne_sa2_b1 := Nat.ne_of_lt (Nat.lt_of_lt_of_le V_sa2.lt (Nat.le_of_eq g1.symm))
  have ne_sa2_b3 := Nat.ne_of_lt (Nat.lt_of_lt_of_le (Nat.lt_of_lt_of_le V_sa2.lt (Nat.le_trans s0 s1)) (Nat.le_of_eq g3.symm))
  have ne_sa2_b5 := Nat.ne_of_lt (Nat.lt_of_lt_of_le (Nat.lt_of_lt_of_le V_sa2.lt (Nat.le_trans (Nat.le_trans (Nat.le_trans s0 s1) s2) s3)) (Nat.le_of_eq g5.symm))
  have Va11 := ((((((V_sa2.ext E1).keep K2 (ninS ne_sa2_b1 nin0)).ext E3).keep K4 (ninS ne_sa2_b3 nin0)).ext E5).keep K6 (ninS ne_sa2_b5 nin0))
  have Od6 : Old Z n0 T6.heap := Od5.keep K6 (allS g_b5 all0)
  have Ex12 := ((((o2_0.ext E3).keep K4).ext E5).keep K6)
  have z6 := Nat.le_trans Z0 (Nat.le_trans (Nat.le_trans (Nat.le_trans (Nat.le_trans (Nat.le_trans s0 s1) s2) s3) s4) s5)
  obtain ⟨_, T13, L13, X13, hQ13, st13⟩ := own_virtual X6 hx hZ hown (y := y_9) (z := y_9) Ex7 (w_45 hw) (w_46 hw) (notFace_of_selects (args := #[]) (mvT hZ (w_48 hw))) (w_48 hw) (w_47 hw) (w_23 hw) (w_49 hw) (rm10 l Z a0 hw [] b3 b1 sa2 sk11 T6.heap n0 z6 Fl8 Ex7 g_b3 Fl9 Fl10 Va11 ne_sa2_b3 S10_DEFAULTCAPACITY_EMPTY_ELEMENTDATA Od6 Ex12) rfl (Ls := #[.val (.int p1), .val (.int p2), .val (.int p3), .val (.int p4), .val (.int p5), .val (.int p6), .val (.int (3 : Int32)), .val (.ref b1), .val (.ref b3), .val (.ref b5), .unset, .unset, .unset, .unset]) (by rw [hml]; rfl) (argsL := [(.ref b1)]) (rest := []) (lenOf pd_6 rfl) (hb hby at_44) (W := 0)
  obtain ⟨b13_b14_b6_b5_b9, k13_k14_k6_k5_k9, rfl, Nq13, K13, o13_0, o13_1, o13_2, o13_3, o13_4, o13_5, o13_6, o13_7⟩ := hQ13
  have N13 := Fr.app N6 Nq13
  have s6 := K13.1
  have ne_b3_b13_b14_b6_b5_b9 := Nat.ne_of_lt (Nat.lt_of_lt_of_le Fl9.lt o13_4)
  have Ex14 := (Ex12.keep K13)
  have g_b13_b14_b6_b5_b9 : n0 ≤ b13_b14_b6_b5_b9 := Nat.le_trans z6 o13_4
  have z7 := Nat.le_trans Z0 (Nat.le_trans (Nat.le_trans (Nat.le_trans (Nat.le_trans (Nat.le_trans (Nat.le_trans s0 s1) s2) s3) s4) s5) s6)
  obtain ⟨_, T15, L15, X15, hQ15, st15⟩ := own_virtual X13 hx hZ hown (y := y_9) (z := y_9) o13_0 (w_45 hw) (w_46 hw) (notFace_of_selects (args := #[]) (mvT hZ (w_48 hw))) (w_48 hw) (w_47 hw) (w_23 hw) (w_49 hw) (rm12 l Z a0 hw [] b3 b1 b13_b14_b6_b5_b9 k13_k14_k6_k5_k9 T13.heap n0 z7 o13_1 o13_0 g_b3 o13_2 o13_3 o13_7 (Ne.symm ne_b3_b13_b14_b6_b5_b9) o13_6 Ex14 g_b13_b14_b6_b5_b9 o13_5) rfl (Ls := #[.val (.int p1), .val (.int p2), .val (.int p3), .val (.int p4), .val (.int p5), .val (.int p6), .val (.int (3 : Int32)), .val (.ref b1), .val (.ref b3), .val (.ref b5), .unset, .unset, .unset, .unset]) (by rw [hml]; rfl) (argsL := [(.ref b1)]) (rest := []) (lenOf pd_6 rfl) (hb hby at_52) (W := 0)
  obtain ⟨rfl, Nq15, K15, o15_0, o15_1, o15_2, o15_3, o15_4, o15_5⟩ := hQ15
  have N15 := Fr.app N13 Nq15
  have s7 := K15.1
  have z8 := Nat.le_trans Z0 (Nat.le_trans (Nat.le_trans (Nat.le_trans (Nat.le_trans (Nat.le_trans (Nat.le_trans (Nat.le_trans s0 s1) s2) s3) s4) s5) s6) s7)
  obtain ⟨_, T16, L16, X16, hQ16, st16⟩ := own_callS X15 hx hZ hown (y := y_12) (w_76 hw) (w_77 hw) (w_78 hw) (w_79 hw) (rm15 l Z a0 hw [] (FP.i2d p2) T15.heap n0 z8) rfl (Ls := #[.val (.int p1), .val (.int p2), .val (.int p3), .val (.int p4), .val (.int p5), .val (.int p6), .val (.int (3 : Int32)), .val (.ref b1), .val (.ref b3), .val (.ref b5), .unset, .unset, .unset, .unset]) (by rw [hml]; rfl) (argsL := [(.double (FP.i2d p2))]) (rest := [(.ref b5)]) (lenOf pd_8 rfl) (hb hby at_60) (W := 1)
  obtain ⟨b16_b2, rfl, Nq16, K16, o16_0, o16_1, o16_2⟩ := hQ16
  have N16 := Fr.app N15 Nq16
  have s8 := K16.1
  have Ex17 := (((o6_0.keep K13).keep K15).keep K16)
  have ne_b5_b13_b14_b6_b5_b9 := Nat.ne_of_lt (Nat.lt_of_lt_of_le o6_3.lt o13_4)
  have Fl18 := (((o6_1.keep K13 (ninS (Ne.symm ne_b3_b5) nin0)).keep K15 (ninS (Ne.symm ne_b3_b5) (ninS ne_b5_b13_b14_b6_b5_b9 nin0))).keep K16 nin0)
  have Fl19 := (((o6_2.keep K13 (ninS (Ne.symm ne_b3_b5) nin0)).keep K15 (ninS (Ne.symm ne_b3_b5) (ninS ne_b5_b13_b14_b6_b5_b9 nin0))).keep K16 nin0)
  have Fl20 := (((o6_3.keep K13 (ninS (Ne.symm ne_b3_b5) nin0)).keep K15 (ninS (Ne.symm ne_b3_b5) (ninS ne_b5_b13_b14_b6_b5_b9 nin0))).keep K16 nin0)
  have ne_sa2_b13_b14_b6_b5_b9 := Nat.ne_of_lt (Nat.lt_of_lt_of_le Va11.lt o13_4)
  have Va21 := (((Va11.keep K13 (ninS ne_sa2_b3 nin0)).keep K15 (ninS ne_sa2_b3 (ninS ne_sa2_b13_b14_b6_b5_b9 nin0))).keep K16 nin0)
  have Od7 : Old Z n0 T13.heap := Od6.keep K13 (allS g_b3 all0)
  have Od8 : Old Z n0 T15.heap := Od7.keep K15 (allS g_b3 (allS g_b13_b14_b6_b5_b9 all0))
  have Od9 : Old Z n0 T16.heap := Od8.keep K16 all0
  have z9 := Nat.le_trans Z0 (Nat.le_trans (Nat.le_trans (Nat.le_trans (Nat.le_trans (Nat.le_trans (Nat.le_trans (Nat.le_trans (Nat.le_trans s0 s1) s2) s3) s4) s5) s6) s7) s8)
  obtain ⟨_, T22, L22, X22, hQ22, st22⟩ := own_virtual X16 hx hZ hown (y := y_9) (z := y_9) Ex17 (w_45 hw) (w_46 hw) (notFace_of_selects (args := #[]) (mvT hZ (w_48 hw))) (w_48 hw) (w_47 hw) (w_23 hw) (w_49 hw) (rm17 l Z a0 hw [] b5 b16_b2 sa2 sk11 T16.heap n0 z9 Fl18 Ex17 g_b5 Fl19 Fl20 Va21 ne_sa2_b5 S10_DEFAULTCAPACITY_EMPTY_ELEMENTDATA Od9 o16_1) rfl (Ls := #[.val (.int p1), .val (.int p2), .val (.int p3), .val (.int p4), .val (.int p5), .val (.int p6), .val (.int (3 : Int32)), .val (.ref b1), .val (.ref b3), .val (.ref b5), .unset, .unset, .unset, .unset]) (by rw [hml]; rfl) (argsL := [(.ref b16_b2)]) (rest := []) (lenOf pd_6 rfl) (hb hby at_63) (W := 0)
  obtain ⟨b22_b14_b6_b5_b9, k22_k14_k6_k5_k9, rfl, Nq22, K22, o22_0, o22_1, o22_2, o22_3, o22_4, o22_5, o22_6, o22_7⟩ := hQ22
  have N22 := Fr.app N16 Nq22
  have s9 := K22.1
  have z10 := Nat.le_trans Z0 (Nat.le_trans (Nat.le_trans (Nat.le_trans (Nat.le_trans (Nat.le_trans (Nat.le_trans (Nat.le_trans (Nat.le_trans (Nat.le_trans s0 s1) s2) s3) s4) s5) s6) s7) s8) s9)
  obtain ⟨_, T23, L23, X23, hQ23, st23⟩ := own_callS X22 hx hZ hown (y := y_12) (w_76 hw) (w_77 hw) (w_78 hw) (w_79 hw) (rm15 l Z a0 hw [] (FP.i2d p3) T22.heap n0 z10) rfl (Ls := #[.val (.int p1), .val (.int p2), .val (.int p3), .val (.int p4), .val (.int p5), .val (.int p6), .val (.int (3 : Int32)), .val (.ref b1), .val (.ref b3), .val (.ref b5), .unset, .unset, .unset, .unset]) (by rw [hml]; rfl) (argsL := [(.double (FP.i2d p3))]) (rest := [(.ref b5)]) (lenOf pd_8 rfl) (hb hby at_71) (W := 1)
  obtain ⟨b23_b2, rfl, Nq23, K23, o23_0, o23_1, o23_2⟩ := hQ23
  have N23 := Fr.app N22 Nq23
  have s10 := K23.1
  have Ex24 := (o22_0.keep K23)
  have Fl25 := (o22_1.keep K23 nin0)
  have Fl26 := (o22_2.keep K23 nin0)
  have Fl27 := (o22_3.keep K23 nin0)
  have Va28 := (o22_7.keep K23 nin0)
  have ne_b5_b22_b14_b6_b5_b9 := Nat.ne_of_lt (Nat.lt_of_lt_of_le Fl20.lt o22_4)
  have g_b22_b14_b6_b5_b9 : n0 ≤ b22_b14_b6_b5_b9 := Nat.le_trans z9 o22_4
  have Ex29 := (o22_5.keep K23)
  have z11 := Nat.le_trans Z0 (Nat.le_trans (Nat.le_trans (Nat.le_trans (Nat.le_trans (Nat.le_trans (Nat.le_trans (Nat.le_trans (Nat.le_trans (Nat.le_trans (Nat.le_trans s0 s1) s2) s3) s4) s5) s6) s7) s8) s9) s10)
  obtain ⟨_, T30, L30, X30, hQ30, st30⟩ := own_virtual X23 hx hZ hown (y := y_9) (z := y_9) Ex24 (w_45 hw) (w_46 hw) (notFace_of_selects (args := #[]) (mvT hZ (w_48 hw))) (w_48 hw) (w_47 hw) (w_23 hw) (w_49 hw) (rm19 l Z a0 hw [] b5 b23_b2 b22_b14_b6_b5_b9 b16_b2 k22_k14_k6_k5_k9 T23.heap n0 z11 Fl25 Ex24 g_b5 Fl26 Fl27 Va28 (Ne.symm ne_b5_b22_b14_b6_b5_b9) o22_6 o23_1 g_b22_b14_b6_b5_b9 Ex29) rfl (Ls := #[.val (.int p1), .val (.int p2), .val (.int p3), .val (.int p4), .val (.int p5), .val (.int p6), .val (.int (3 : Int32)), .val (.ref b1), .val (.ref b3), .val (.ref b5), .unset, .unset, .unset, .unset]) (by rw [hml]; rfl) (argsL := [(.ref b23_b2)]) (rest := []) (lenOf pd_6 rfl) (hb hby at_74) (W := 0)
  obtain ⟨rfl, Nq30, K30, o30_0, o30_1, o30_2, o30_3, o30_4, o30_5⟩ := hQ30
  have N30 := Fr.app N23 Nq30
  have s11 := K30.1
  have Ex31 := ((((o15_0.keep K16).keep K22).keep K23).keep K30)
  have ne_b3_b22_b14_b6_b5_b9 := Nat.ne_of_lt (Nat.lt_of_lt_of_le (Nat.lt_of_lt_of_le o15_3.lt s8) o22_4)
  have Fl32 := ((((o15_1.keep K16 nin0).keep K22 (ninS ne_b3_b5 nin0)).keep K23 nin0).keep K30 (ninS ne_b3_b5 (ninS ne_b3_b22_b14_b6_b5_b9 nin0)))
  have Fl33 := ((((o15_2.keep K16 nin0).keep K22 (ninS ne_b3_b5 nin0)).keep K23 nin0).keep K30 (ninS ne_b3_b5 (ninS ne_b3_b22_b14_b6_b5_b9 nin0)))
  have Fl34 := ((((o15_3.keep K16 nin0).keep K22 (ninS ne_b3_b5 nin0)).keep K23 nin0).keep K30 (ninS ne_b3_b5 (ninS ne_b3_b22_b14_b6_b5_b9 nin0)))
  have ne_b13_b14_b6_b5_b9_b22_b14_b6_b5_b9 := Nat.ne_of_lt (Nat.lt_of_lt_of_le (Nat.lt_of_lt_of_le o15_5.lt s8) o22_4)
  have Va35 := ((((o15_5.keep K16 nin0).keep K22 (ninS (Ne.symm ne_b5_b13_b14_b6_b5_b9) nin0)).keep K23 nin0).keep K30 (ninS (Ne.symm ne_b5_b13_b14_b6_b5_b9) (ninS ne_b13_b14_b6_b5_b9_b22_b14_b6_b5_b9 nin0)))
  have Ex36 := (((((Ex14.keep K15).keep K16).keep K22).keep K23).keep K30)
  have Ex37 := ((((o15_4.keep K16).keep K22).keep K23).keep K30)
  have z12 := Nat.le_trans Z0 (Nat.le_trans (Nat.le_trans (Nat.le_trans (Nat.le_trans (Nat.le_trans (Nat.le_trans (Nat.le_trans (Nat.le_trans (Nat.le_trans (Nat.le_trans (Nat.le_trans s0 s1) s2) s3) s4) s5) s6) s7) s8) s9) s10) s11)
  obtain ⟨_, T38, L38, X38, hQ38, st38⟩ := own_virtual X30 hx hZ hown (y := y_9) (z := y_9) Ex31 (w_45 hw) (w_46 hw) (notFace_of_selects (args := #[]) (mvT hZ (w_48 hw))) (w_48 hw) (w_47 hw) (w_23 hw) (w_49 hw) (rm50 l Z a0 hw [] b3 b1 b13_b14_b6_b5_b9 k13_k14_k6_k5_k9 T30.heap n0 z12 Fl32 Ex31 g_b3 Fl33 Fl34 Va35 (Ne.symm ne_b3_b13_b14_b6_b5_b9) o13_6 Ex36 g_b13_b14_b6_b5_b9 Ex37) rfl (Ls := #[.val (.int p1), .val (.int p2), .val (.int p3), .val (.int p4), .val (.int p5), .val (.int p6), .val (.int (3 : Int32)), .val (.ref b1), .val (.ref b3), .val (.ref b5), .unset, .unset, .unset, .unset]) (by rw [hml]; rfl) (argsL := [(.ref b1)]) (rest := []) (lenOf pd_6 rfl) (hb hby at_88) (W := 0)
  obtain ⟨rfl, Nq38, K38, o38_0, o38_1, o38_2, o38_3, o38_4, o38_5⟩ := hQ38
  have N38 := Fr.app N30 Nq38
  have s12 := K38.1
  have z13 := Nat.le_trans Z0 (Nat.le_trans (Nat.le_trans (Nat.le_trans (Nat.le_trans (Nat.le_trans (Nat.le_trans (Nat.le_trans (Nat.le_trans (Nat.le_trans (Nat.le_trans (Nat.le_trans (Nat.le_trans s0 s1) s2) s3) s4) s5) s6) s7) s8) s9) s10) s11) s12)
  obtain ⟨_, T39, L39, X39, hQ39, st39⟩ := own_callS X38 hx hZ hown (y := y_12) (w_76 hw) (w_77 hw) (w_78 hw) (w_79 hw) (rm15 l Z a0 hw [] (FP.i2d p4) T38.heap n0 z13) rfl (Ls := #[.val (.int p1), .val (.int p2), .val (.int p3), .val (.int p4), .val (.int p5), .val (.int p6), .val (.int (3 : Int32)), .val (.ref b1), .val (.ref b3), .val (.ref b5), .unset, .unset, .unset, .unset]) (by rw [hml]; rfl) (argsL := [(.double (FP.i2d p4))]) (rest := [(.ref b5)]) (lenOf pd_8 rfl) (hb hby at_96) (W := 1)
  obtain ⟨b39_b2, rfl, Nq39, K39, o39_0, o39_1, o39_2⟩ := hQ39
  have N39 := Fr.app N38 Nq39
  have s13 := K39.1
  have Ex40 := ((o30_0.keep K38).keep K39)
  have Fl41 := ((o30_1.keep K38 (ninS (Ne.symm ne_b3_b5) (ninS ne_b5_b13_b14_b6_b5_b9 nin0))).keep K39 nin0)
  have Fl42 := ((o30_2.keep K38 (ninS (Ne.symm ne_b3_b5) (ninS ne_b5_b13_b14_b6_b5_b9 nin0))).keep K39 nin0)
  have Fl43 := ((o30_3.keep K38 (ninS (Ne.symm ne_b3_b5) (ninS ne_b5_b13_b14_b6_b5_b9 nin0))).keep K39 nin0)
  have Va44 := ((o30_5.keep K38 (ninS (Ne.symm ne_b3_b22_b14_b6_b5_b9) (ninS (Ne.symm ne_b13_b14_b6_b5_b9_b22_b14_b6_b5_b9) nin0))).keep K39 nin0)
  have Ex45 := ((o30_4.keep K38).keep K39)
  have z14 := Nat.le_trans Z0 (Nat.le_trans (Nat.le_trans (Nat.le_trans (Nat.le_trans (Nat.le_trans (Nat.le_trans (Nat.le_trans (Nat.le_trans (Nat.le_trans (Nat.le_trans (Nat.le_trans (Nat.le_trans (Nat.le_trans s0 s1) s2) s3) s4) s5) s6) s7) s8) s9) s10) s11) s12) s13)
  obtain ⟨_, T46, L46, X46, hQ46, st46⟩ := own_virtual X39 hx hZ hown (y := y_9) (z := y_9) Ex40 (w_45 hw) (w_46 hw) (notFace_of_selects (args := #[]) (mvT hZ (w_48 hw))) (w_48 hw) (w_47 hw) (w_23 hw) (w_49 hw) (rm52 l Z a0 hw [] b5 b39_b2 b22_b14_b6_b5_b9 b16_b2 b23_b2 k22_k14_k6_k5_k9 T39.heap n0 z14 Fl41 Ex40 g_b5 Fl42 Fl43 Va44 (Ne.symm ne_b5_b22_b14_b6_b5_b9) o22_6 o39_1 g_b22_b14_b6_b5_b9 Ex45) rfl (Ls := #[.val (.int p1), .val (.int p2), .val (.int p3), .val (.int p4), .val (.int p5), .val (.int p6), .val (.int (3 : Int32)), .val (.ref b1), .val (.ref b3), .val (.ref b5), .unset, .unset, .unset, .unset]) (by rw [hml]; rfl) (argsL := [(.ref b39_b2)]) (rest := []) (lenOf pd_6 rfl) (hb hby at_99) (W := 0)
  obtain ⟨rfl, Nq46, K46, o46_0, o46_1, o46_2, o46_3, o46_4, o46_5⟩ := hQ46
  have N46 := Fr.app N39 Nq46
  have s14 := K46.1
  obtain ⟨T47, h47, X47, e47, E47, A47, D47, -, st47⟩ := newO X46 hx hZ hown (w_21 hw) (w_22 hw) (w_23 hw) rfl (g := (mkF m 129 #[.val (.int p1), .val (.int p2), .val (.int p3), .val (.int p4), .val (.int p5), .val (.int p6), .val (.int (3 : Int32)), .val (.ref b1), .val (.ref b3), .val (.ref b5), .unset, .unset, .unset, .unset] [])) rfl (hb hby at_129) (by decide) (by decide)
  obtain ⟨b47, g47⟩ : ∃ z, z = T46.heap.size := ⟨_, rfl⟩
  rw [← g47] at A47 D47 st47
  have s15 := E47.1
  have Fn47_modCount : Fld Z h47 b47 "java/util/AbstractList" "modCount" "I" (.int (0 : Int32)) := D47 (Or.inl (w_41 hw)) (ty := .int) (by decide)
  have Fn47_elementData : Fld Z h47 b47 "java/util/ArrayList" "elementData" "[Ljava/lang/Object;" .null := D47 (Or.inl (w_44 hw)) (ty := (.array (.object "java/lang/Object"))) (by decide)
  have Fn47_size : Fld Z h47 b47 "java/util/ArrayList" "size" "I" (.int (0 : Int32)) := D47 (Or.inl (w_53 hw)) (ty := .int) (by decide)
  have z15 := Nat.le_trans Z0 (Nat.le_trans (Nat.le_trans (Nat.le_trans (Nat.le_trans (Nat.le_trans (Nat.le_trans (Nat.le_trans (Nat.le_trans (Nat.le_trans (Nat.le_trans (Nat.le_trans (Nat.le_trans (Nat.le_trans (Nat.le_trans s0 s1) s2) s3) s4) s5) s6) s7) s8) s9) s10) s11) s12) s13) s14)
  have g_b47 : n0 ≤ b47 := Nat.le_trans z15 (Nat.le_of_eq g47.symm)
  have Od10 : Old Z n0 T22.heap := Od9.keep K22 (allS g_b5 all0)
  have Od11 : Old Z n0 T23.heap := Od10.keep K23 all0
  have Od12 : Old Z n0 T30.heap := Od11.keep K30 (allS g_b5 (allS g_b22_b14_b6_b5_b9 all0))
  have Od13 : Old Z n0 T38.heap := Od12.keep K38 (allS g_b3 (allS g_b13_b14_b6_b5_b9 all0))
  have Od14 : Old Z n0 T39.heap := Od13.keep K39 all0
  have Od15 : Old Z n0 T46.heap := Od14.keep K46 (allS g_b5 (allS g_b22_b14_b6_b5_b9 all0))
  have Od16 : Old Z n0 h47 := Od15.ext E47
  have z16 := Nat.le_trans Z0 (Nat.le_trans (Nat.le_trans (Nat.le_trans (Nat.le_trans (Nat.le_trans (Nat.le_trans (Nat.le_trans (Nat.le_trans (Nat.le_trans (Nat.le_trans (Nat.le_trans (Nat.le_trans (Nat.le_trans (Nat.le_trans (Nat.le_trans s0 s1) s2) s3) s4) s5) s6) s7) s8) s9) s10) s11) s12) s13) s14) s15)
  obtain ⟨_, T48, L48, X48, hQ48, st48⟩ := own_special X47 hx hZ hown (y := y_4) (a := b47) (w_24 hw) (w_25 hw) (w_23 hw) (w_26 hw) (rm5 l Z a0 hw [] b47 sa2 h47 n0 z16 Fn47_modCount A47 g_b47 Fn47_elementData Fn47_size S10_DEFAULTCAPACITY_EMPTY_ELEMENTDATA Od16) e47 (Ls := #[.val (.int p1), .val (.int p2), .val (.int p3), .val (.int p4), .val (.int p5), .val (.int p6), .val (.int (3 : Int32)), .val (.ref b1), .val (.ref b3), .val (.ref b5), .unset, .unset, .unset, .unset]) (by rw [hml]; rfl) (argsL := []) (rest := [(.ref b47)]) (lenOf pd_0 rfl) (hb hby at_133) (W := 1)
  obtain ⟨rfl, Nq48, K48, o48_0, o48_1, o48_2, o48_3⟩ := hQ48
  have N48 := Fr.app N46 Nq48
  have s16 := K48.1
  obtain ⟨T49, h49, X49, e49, E49, A49, D49, -, st49⟩ := newO X48 hx hZ hown (w_96 hw) (w_97 hw) (w_98 hw) rfl (g := (mkF m 138 #[.val (.int p1), .val (.int p2), .val (.int p3), .val (.int p4), .val (.int p5), .val (.int p6), .val (.int (3 : Int32)), .val (.ref b1), .val (.ref b3), .val (.ref b5), .val (.ref b47), .unset, .unset, .unset] [])) rfl (hb hby at_138) (by decide) (by decide)
  obtain ⟨b49, g49⟩ : ∃ z, z = T48.heap.size := ⟨_, rfl⟩
  rw [← g49] at A49 D49 st49
  have s17 := E49.1
  have Fn49_stops : Fld Z h49 b49 "com/example/feedergen/feedergen/core/DrivenLine" "stops" "Ljava/util/List;" .null := D49 (Or.inr (w_202 hw)) (ty := (.object "java/util/List")) (by decide)
  have Fn49_distances : Fld Z h49 b49 "com/example/feedergen/feedergen/core/DrivenLine" "distances" "Ljava/util/List;" .null := D49 (Or.inr (w_204 hw)) (ty := (.object "java/util/List")) (by decide)
  have Fn49_lengthBackward : Fld Z h49 b49 "com/example/feedergen/feedergen/core/DrivenLine" "lengthBackward" "D" (.double (0 : UInt64)) := D49 (Or.inr (w_206 hw)) (ty := .double) (by decide)
  have Fn49_route : Fld Z h49 b49 "com/example/feedergen/feedergen/core/DrivenLine" "route" "Ljava/util/List;" .null := D49 (Or.inr (w_208 hw)) (ty := (.object "java/util/List")) (by decide)
  have Ex50 := (((((o38_0.keep K39).keep K46).ext E47).keep K48).ext E49)
  have ne_b3_b47 := Nat.ne_of_lt (Nat.lt_of_lt_of_le (Nat.lt_of_lt_of_le o38_3.lt (Nat.le_trans s13 s14)) (Nat.le_of_eq g47.symm))
  have Fl51 := (((((o38_3.keep K39 nin0).keep K46 (ninS ne_b3_b5 (ninS ne_b3_b22_b14_b6_b5_b9 nin0))).ext E47).keep K48 (ninS ne_b3_b47 nin0)).ext E49)
  have Ex52 := (((o46_0.ext E47).keep K48).ext E49)
  have ne_b5_b47 := Nat.ne_of_lt (Nat.lt_of_lt_of_le o46_3.lt (Nat.le_of_eq g47.symm))
  have Fl53 := (((o46_3.ext E47).keep K48 (ninS ne_b5_b47 nin0)).ext E49)
  have Fl54 := (((((o38_2.keep K39 nin0).keep K46 (ninS ne_b3_b5 (ninS ne_b3_b22_b14_b6_b5_b9 nin0))).ext E47).keep K48 (ninS ne_b3_b47 nin0)).ext E49)
  have Ex55 := (((((o38_4.keep K39).keep K46).ext E47).keep K48).ext E49)
  have ne_b13_b14_b6_b5_b9_b47 := Nat.ne_of_lt (Nat.lt_of_lt_of_le (Nat.lt_of_lt_of_le o38_5.lt (Nat.le_trans s13 s14)) (Nat.le_of_eq g47.symm))
  have Va56 := (((((o38_5.keep K39 nin0).keep K46 (ninS (Ne.symm ne_b5_b13_b14_b6_b5_b9) (ninS ne_b13_b14_b6_b5_b9_b22_b14_b6_b5_b9 nin0))).ext E47).keep K48 (ninS ne_b13_b14_b6_b5_b9_b47 nin0)).ext E49)
  have Ex57 := ((((((Ex36.keep K38).keep K39).keep K46).ext E47).keep K48).ext E49)
  have Fl58 := (((o46_2.ext E47).keep K48 (ninS ne_b5_b47 nin0)).ext E49)
  have Ex59 := (((o46_4.ext E47).keep K48).ext E49)
  have ne_b22_b14_b6_b5_b9_b47 := Nat.ne_of_lt (Nat.lt_of_lt_of_le o46_5.lt (Nat.le_of_eq g47.symm))
  have Va60 := (((o46_5.ext E47).keep K48 (ninS ne_b22_b14_b6_b5_b9_b47 nin0)).ext E49)
  have Ex61 := ((((o39_1.keep K46).ext E47).keep K48).ext E49)
  have Ex62 := (((((((o23_1.keep K30).keep K38).keep K39).keep K46).ext E47).keep K48).ext E49)
  have Ex63 := (((((((((o16_1.keep K22).keep K23).keep K30).keep K38).keep K39).keep K46).ext E47).keep K48).ext E49)
  have Ex64 := (o48_0.ext E49)
  have Fl65 := (o48_3.ext E49)
  have Od17 : Old Z n0 T48.heap := Od16.keep K48 (allS g_b47 all0)
  have Od18 : Old Z n0 h49 := Od17.ext E49
  have z17 := Nat.le_trans Z0 (Nat.le_trans (Nat.le_trans (Nat.le_trans (Nat.le_trans (Nat.le_trans (Nat.le_trans (Nat.le_trans (Nat.le_trans (Nat.le_trans (Nat.le_trans (Nat.le_trans (Nat.le_trans (Nat.le_trans (Nat.le_trans (Nat.le_trans (Nat.le_trans s0 s1) s2) s3) s4) s5) s6) s7) s8) s9) s10) s11) s12) s13) s14) s15) s16)
  have g_b49 : n0 ≤ b49 := Nat.le_trans z17 (Nat.le_of_eq g49.symm)
  have z18 := Nat.le_trans Z0 (Nat.le_trans (Nat.le_trans (Nat.le_trans (Nat.le_trans (Nat.le_trans (Nat.le_trans (Nat.le_trans (Nat.le_trans (Nat.le_trans (Nat.le_trans (Nat.le_trans (Nat.le_trans (Nat.le_trans (Nat.le_trans (Nat.le_trans (Nat.le_trans (Nat.le_trans s0 s1) s2) s3) s4) s5) s6) s7) s8) s9) s10) s11) s12) s13) s14) s15) s16) s17)
  obtain ⟨_, T66, L66, X66, hQ66, st66⟩ := own_special X49 hx hZ hown (y := y_30) (a := b49) (w_99 hw) (w_100 hw) (w_98 hw) (w_101 hw) (rm71 l Z a0 hw [] b49 b3 b5 (FP.i2d p6) b47 b13_b14_b6_b5_b9 smr b1 k13_k14_k6_k5_k9 b22_b14_b6_b5_b9 b16_b2 b23_b2 b39_b2 k22_k14_k6_k5_k9 sa3 h49 n0 z18 Ex50 Fl51 Ex52 Fl53 Fl54 Ex55 M_top Va56 Ex57 Fl58 Ex59 Va60 Ex61 Ex62 Ex63 Ex64 Fl65 S12_EMPTY_LIST Od18 Fn49_stops A49 g_b49 Fn49_distances Fn49_lengthBackward Fn49_route) e49 (Ls := #[.val (.int p1), .val (.int p2), .val (.int p3), .val (.int p4), .val (.int p5), .val (.int p6), .val (.int (3 : Int32)), .val (.ref b1), .val (.ref b3), .val (.ref b5), .val (.ref b47), .unset, .unset, .unset]) (by rw [hml]; rfl) (argsL := [(.ref b3), (.ref b5), (.double (FP.i2d p6)), (.ref b47)]) (rest := [(.ref b49)]) (lenOf pd_18 rfl) (hb hby at_151) (W := 1)
  obtain ⟨b66_b28_b8_b15_b7_b34, b66_b14_b6_b11_b5_b32, b66_b28_b8_b15_b7_b7, k66_k28_k8_k15_k7_k7, b66_b14_b6_b11_b5_b5, k66_k14_k6_k11_k5_k5, rfl, Nq66, K66, o66_0, o66_1, o66_2, o66_3, o66_4, o66_5, o66_6, o66_7, o66_8, o66_9, o66_10, o66_11, o66_12, o66_13, o66_14, o66_15, o66_16, o66_17, o66_18, o66_19, o66_20, o66_21, o66_22, o66_23, o66_24, o66_25, o66_26⟩ := hQ66
  have N66 := Fr.app N48 Nq66
  have s18 := K66.1
  have Ex67 := (Ex61.keep K66)
  have ne_b5_b39_b2 := Nat.ne_of_lt (Nat.lt_of_lt_of_le (Nat.lt_of_lt_of_le o30_3.lt s12) o39_0)
  have ne_b22_b14_b6_b5_b9_b39_b2 := Nat.ne_of_lt (Nat.lt_of_lt_of_le (Nat.lt_of_lt_of_le o30_5.lt s12) o39_0)
  have ne_b39_b2_b47 := Nat.ne_of_lt (Nat.lt_of_lt_of_le (Nat.lt_of_lt_of_le o39_2.lt s14) (Nat.le_of_eq g47.symm))
  have ne_b39_b2_b49 := Nat.ne_of_lt (Nat.lt_of_lt_of_le (Nat.lt_of_lt_of_le o39_2.lt (Nat.le_trans (Nat.le_trans s14 s15) s16)) (Nat.le_of_eq g49.symm))
  have Fl68 := (((((o39_2.keep K46 (ninS (Ne.symm ne_b5_b39_b2) (ninS (Ne.symm ne_b22_b14_b6_b5_b9_b39_b2) nin0))).ext E47).keep K48 (ninS ne_b39_b2_b47 nin0)).ext E49).keep K66 (ninS ne_b39_b2_b49 nin0))
  have z19 := Nat.le_trans Z0 (Nat.le_trans (Nat.le_trans (Nat.le_trans (Nat.le_trans (Nat.le_trans (Nat.le_trans (Nat.le_trans (Nat.le_trans (Nat.le_trans (Nat.le_trans (Nat.le_trans (Nat.le_trans (Nat.le_trans (Nat.le_trans (Nat.le_trans (Nat.le_trans (Nat.le_trans (Nat.le_trans s0 s1) s2) s3) s4) s5) s6) s7) s8) s9) s10) s11) s12) s13) s14) s15) s16) s17) s18)
  obtain ⟨_, T69, L69, X69, hQ69, st69⟩ := own_virtual X66 hx hZ hown (y := y_35) (z := y_35) o66_0 (w_209 hw) (w_210 hw) (notFace_of_selects (args := #[]) (mvT hZ (w_212 hw))) (w_212 hw) (w_211 hw) (w_98 hw) (w_213 hw) (rm74 l Z a0 hw [] b49 b66_b28_b8_b15_b7_b34 b66_b28_b8_b15_b7_b7 b16_b2 b23_b2 b39_b2 k66_k28_k8_k15_k7_k7 (FP.i2d p4) T66.heap n0 z19 o66_1 o66_6 o66_8 o66_16 Ex67 Fl68) rfl (Ls := #[.val (.int p1), .val (.int p2), .val (.int p3), .val (.int p4), .val (.int p5), .val (.int p6), .val (.int (3 : Int32)), .val (.ref b1), .val (.ref b3), .val (.ref b5), .val (.ref b47), .val (.ref b49), .val (.double (FP.i2d p4)), .second]) (by rw [hml]; rfl) (argsL := []) (rest := []) (lenOf pd_20 rfl) (hb hby at_189) (W := 0)
  obtain ⟨rfl, Nq69, e69⟩ := hQ69
  have N69 := Fr.app N66 Nq69
  refine ⟨T69, _, _, _, (some (.int (1 : Int32))), X69, nofun, by decide, by decide, ?_, fun fs hr => ?_⟩
  · show Q0 n0 _ T69.heap _
    rw [e69]
    exact ⟨rfl, N69⟩
  · show Steps p.tables e below (s₁.setTop (mkF m 0 #[.val (.int p1), .val (.int p2), .val (.int p3), .val (.int p4), .val (.int p5), .val (.int p6), .unset, .unset, .unset, .unset, .unset, .unset, .unset, .unset] [])) _
    refine XS.iconst X0.here hx rfl (hb hby at_0) ?_
    refine XS.iloadN X0.here hx rfl (hb hby at_1) rfl ?_
    refine X0.ldcInt hx hown (mvT hZ (w_0 hw)) (g := (mkF m 2 #[.val (.int p1), .val (.int p2), .val (.int p3), .val (.int p4), .val (.int p5), .val (.int p6), .unset, .unset, .unset, .unset, .unset, .unset, .unset, .unset] [(.int p1), (.int (2 : Int32))])) rfl (hb hby at_2) _ ?_
    refine XS.iand X0.here hx rfl (hb hby at_4) rfl ?_
    refine XS.iconst X0.here hx rfl (hb hby at_5) ?_
    refine XS.irem X0.here hx rfl (hb hby at_6) rfl (by decide : ¬ ((3 : Int32) = (0 : Int32))) ?_
    show Steps p.tables e below (s₁.setTop (mkF m 7 #[.val (.int p1), .val (.int p2), .val (.int p3), .val (.int p4), .val (.int p5), .val (.int p6), .unset, .unset, .unset, .unset, .unset, .unset, .unset, .unset] [(.int ((p1 &&& (2147483647 : Int32)) - ((p1 &&& (2147483647 : Int32)) / (3 : Int32)) * (3 : Int32))), (.int (2 : Int32))])) _
    rw [hk]
    refine XS.iadd X0.here hx rfl (hb hby at_7) rfl ?_
    refine XS.istore X0.here hx rfl (hb hby at_8) rfl (l' := #[.val (.int p1), .val (.int p2), .val (.int p3), .val (.int p4), .val (.int p5), .val (.int p6), .val (.int (3 : Int32)), .unset, .unset, .unset, .unset, .unset, .unset, .unset]) rfl ?_
    refine st1 _ ?_
    refine XS.dup X1.here hx rfl (hb hby at_13) rfl rfl ?_
    refine XS.iconst X1.here hx rfl (hb hby at_14) ?_
    refine XS.aconstNull X1.here hx rfl (hb hby at_15) ?_
    refine XS.dconst0 X1.here hx rfl (hb hby at_16) rfl ?_
    refine st2 _ ?_
    refine XS.astore X2.here hx rfl (hb hby at_20) rfl rfl (l' := #[.val (.int p1), .val (.int p2), .val (.int p3), .val (.int p4), .val (.int p5), .val (.int p6), .val (.int (3 : Int32)), .val (.ref b1), .unset, .unset, .unset, .unset, .unset, .unset]) rfl ?_
    refine st3 _ ?_
    refine XS.dup X3.here hx rfl (hb hby at_25) rfl rfl ?_
    show Steps p.tables e below (T3.setTop (mkF m 26 #[.val (.int p1), .val (.int p2), .val (.int p3), .val (.int p4), .val (.int p5), .val (.int p6), .val (.int (3 : Int32)), .val (.ref b1), .unset, .unset, .unset, .unset, .unset, .unset] [(.ref b3), (.ref b3)])) _
    refine st4 _ ?_
    refine XS.astore X4.here hx rfl (hb hby at_29) rfl rfl (l' := #[.val (.int p1), .val (.int p2), .val (.int p3), .val (.int p4), .val (.int p5), .val (.int p6), .val (.int (3 : Int32)), .val (.ref b1), .val (.ref b3), .unset, .unset, .unset, .unset, .unset]) rfl ?_
    refine st5 _ ?_
    refine XS.dup X5.here hx rfl (hb hby at_34) rfl rfl ?_
    refine st6 _ ?_
    refine XS.astore X6.here hx rfl (hb hby at_38) rfl rfl (l' := #[.val (.int p1), .val (.int p2), .val (.int p3), .val (.int p4), .val (.int p5), .val (.int p6), .val (.int (3 : Int32)), .val (.ref b1), .val (.ref b3), .val (.ref b5), .unset, .unset, .unset, .unset]) rfl ?_
    refine XS.aload X6.here hx rfl (hb hby at_40) rfl rfl ?_
    refine XS.aload X6.here hx rfl (hb hby at_42) rfl rfl ?_
    refine st13 _ ?_
    refine XS.pop X13.here hx rfl (hb hby at_47) rfl rfl ?_
    refine XS.aload X13.here hx rfl (hb hby at_48) rfl rfl ?_
    refine XS.aload X13.here hx rfl (hb hby at_50) rfl rfl ?_
    show Steps p.tables e below (T13.setTop (mkF m 52 #[.val (.int p1), .val (.int p2), .val (.int p3), .val (.int p4), .val (.int p5), .val (.int p6), .val (.int (3 : Int32)), .val (.ref b1), .val (.ref b3), .val (.ref b5), .unset, .unset, .unset, .unset] [(.ref b1), (.ref b3)])) _
    refine st15 _ ?_
    refine XS.pop X15.here hx rfl (hb hby at_55) rfl rfl ?_
    refine XS.aload X15.here hx rfl (hb hby at_56) rfl rfl ?_
    refine XS.iloadN X15.here hx rfl (hb hby at_58) rfl ?_
    refine XS.i2dS X15.here hx rfl (hb hby at_59) rfl rfl ?_
    refine st16 _ ?_
    refine st22 _ ?_
    refine XS.pop X22.here hx rfl (hb hby at_66) rfl rfl ?_
    refine XS.aload X22.here hx rfl (hb hby at_67) rfl rfl ?_
    refine XS.iloadN X22.here hx rfl (hb hby at_69) rfl ?_
    refine XS.i2dS X22.here hx rfl (hb hby at_70) rfl rfl ?_
    refine st23 _ ?_
    show Steps p.tables e below (T23.setTop (mkF m 74 #[.val (.int p1), .val (.int p2), .val (.int p3), .val (.int p4), .val (.int p5), .val (.int p6), .val (.int (3 : Int32)), .val (.ref b1), .val (.ref b3), .val (.ref b5), .unset, .unset, .unset, .unset] [(.ref b23_b2), (.ref b5)])) _
    refine st30 _ ?_
    refine XS.pop X30.here hx rfl (hb hby at_77) rfl rfl ?_
    refine XS.iload X30.here hx rfl (hb hby at_78) rfl ?_
    refine XS.iconst X30.here hx rfl (hb hby at_80) ?_
    refine XS.icmpNo X30.here hx rfl (hb hby at_81) rfl (flt ((by decide : ¬ ((3 : Int32) < (3 : Int32))) : ¬ ((3 : Int32) < (3 : Int32)))).1 ?_
    refine XS.aload X30.here hx rfl (hb hby at_84) rfl rfl ?_
    refine XS.aload X30.here hx rfl (hb hby at_86) rfl rfl ?_
    refine st38 _ ?_
    refine XS.pop X38.here hx rfl (hb hby at_91) rfl rfl ?_
    refine XS.aload X38.here hx rfl (hb hby at_92) rfl rfl ?_
    refine XS.iloadN X38.here hx rfl (hb hby at_94) rfl ?_
    refine XS.i2dS X38.here hx rfl (hb hby at_95) rfl rfl ?_
    show Steps p.tables e below (T38.setTop (mkF m 96 #[.val (.int p1), .val (.int p2), .val (.int p3), .val (.int p4), .val (.int p5), .val (.int p6), .val (.int (3 : Int32)), .val (.ref b1), .val (.ref b3), .val (.ref b5), .unset, .unset, .unset, .unset] [(.double (FP.i2d p4)), (.ref b5)])) _
    refine st39 _ ?_
    refine st46 _ ?_
    refine XS.pop X46.here hx rfl (hb hby at_102) rfl rfl ?_
    refine XS.iload X46.here hx rfl (hb hby at_103) rfl ?_
    refine XS.iconst X46.here hx rfl (hb hby at_105) ?_
    refine XS.icmpYes X46.here hx rfl (pc0 := 106) (pc' := 129) rfl (hb hby at_106) rfl (tlt ((by decide : (3 : Int32) < (4 : Int32)) : (3 : Int32) < (4 : Int32))).1 (by decide) (by decide) ?_
    refine st47 _ ?_
    refine XS.dup X47.here hx rfl (hb hby at_132) rfl rfl ?_
    refine st48 _ ?_
    refine XS.astore X48.here hx rfl (hb hby at_136) rfl rfl (l' := #[.val (.int p1), .val (.int p2), .val (.int p3), .val (.int p4), .val (.int p5), .val (.int p6), .val (.int (3 : Int32)), .val (.ref b1), .val (.ref b3), .val (.ref b5), .val (.ref b47), .unset, .unset, .unset]) rfl ?_
    refine st49 _ ?_
    refine XS.dup X49.here hx rfl (hb hby at_141) rfl rfl ?_
    show Steps p.tables e below (T49.setTop (mkF m 142 #[.val (.int p1), .val (.int p2), .val (.int p3), .val (.int p4), .val (.int p5), .val (.int p6), .val (.int (3 : Int32)), .val (.ref b1), .val (.ref b3), .val (.ref b5), .val (.ref b47), .unset, .unset, .unset] [(.ref b49), (.ref b49)])) _
    refine XS.aload X49.here hx rfl (hb hby at_142) rfl rfl ?_
    refine XS.aload X49.here hx rfl (hb hby at_144) rfl rfl ?_
    refine XS.iload X49.here hx rfl (hb hby at_146) rfl ?_
    refine XS.i2dS X49.here hx rfl (hb hby at_148) rfl rfl ?_
    refine XS.aload X49.here hx rfl (hb hby at_149) rfl rfl ?_
    refine st66 _ ?_
    refine XS.astore X66.here hx rfl (hb hby at_154) rfl rfl (l' := #[.val (.int p1), .val (.int p2), .val (.int p3), .val (.int p4), .val (.int p5), .val (.int p6), .val (.int (3 : Int32)), .val (.ref b1), .val (.ref b3), .val (.ref b5), .val (.ref b47), .val (.ref b49), .unset, .unset]) rfl ?_
    refine XS.iload X66.here hx rfl (hb hby at_156) rfl ?_
    refine XS.iconst X66.here hx rfl (hb hby at_158) ?_
    refine XS.icmpYes X66.here hx rfl (pc0 := 159) (pc' := 169) rfl (hb hby at_159) rfl (feq ((by decide : ¬ ((3 : Int32) = (2 : Int32))) : ¬ ((3 : Int32) = (2 : Int32)))).2 (by decide) (by decide) ?_
    refine XS.iload X66.here hx rfl (hb hby at_169) rfl ?_
    refine XS.iconst X66.here hx rfl (hb hby at_171) ?_
    show Steps p.tables e below (T66.setTop (mkF m 172 #[.val (.int p1), .val (.int p2), .val (.int p3), .val (.int p4), .val (.int p5), .val (.int p6), .val (.int (3 : Int32)), .val (.ref b1), .val (.ref b3), .val (.ref b5), .val (.ref b47), .val (.ref b49), .unset, .unset] [(.int (3 : Int32)), (.int (3 : Int32))])) _
    refine XS.icmpNo X66.here hx rfl (hb hby at_172) rfl (teq ((by decide : (3 : Int32) = (3 : Int32)) : (3 : Int32) = (3 : Int32))).2 ?_
    refine XS.iloadN X66.here hx rfl (hb hby at_175) rfl ?_
    refine XS.i2dS X66.here hx rfl (hb hby at_176) rfl rfl ?_
    refine XS.dstore X66.here hx rfl (hb hby at_177) rfl (l' := #[.val (.int p1), .val (.int p2), .val (.int p3), .val (.int p4), .val (.int p5), .val (.int p6), .val (.int (3 : Int32)), .val (.ref b1), .val (.ref b3), .val (.ref b5), .val (.ref b47), .val (.ref b49), .val (.double (FP.i2d p4)), .second]) rfl ?_
    refine XS.goto X66.here hx rfl (pc0 := 179) (pc' := 187) rfl (hb hby at_179) (by decide) (by decide) ?_
    refine XS.aload X66.here hx rfl (hb hby at_187) rfl rfl ?_
    refine st69 _ ?_
    refine XS.dload X69.here hx rfl (hb hby at_192) rfl ?_
    refine XS.dcmpS X69.here hx rfl (hb hby at_194) rfl (dcmpV_self (nn_w (i2d_w _)) .l) ?_
    refine XS.ifNo X69.here hx rfl (hb hby at_195) rfl ((if0 _ _).trans (teq ((by decide : (0 : Int32) = (0 : Int32)) : (0 : Int32) = (0 : Int32))).2) ?_
    refine XS.iconst X69.here hx rfl (hb hby at_198) ?_
    refine XS.goto X69.here hx rfl (pc0 := 199) (pc' := 203) rfl (hb hby at_199) (by decide) (by decide) ?_
    show Steps p.tables e below (T69.setTop (mkF m 203 #[.val (.int p1), .val (.int p2), .val (.int p3), .val (.int p4), .val (.int p5), .val (.int p6), .val (.int (3 : Int32)), .val (.ref b1), .val (.ref b3), .val (.ref b5), .val (.ref b47), .val (.ref b49), .val (.double (FP.i2d p4)), .second] [(.int (1 : Int32))])) _
    exact retN X69 hx (t := .boolean) hret (by simp) (hb hby at_203) hr
-- java/util/ArrayList.add(Ljava/lang/Object;[Ljava/lang/Object;I)V
abbrev Rm75 : Room := { frames := 0, cells := 0, slots := 0, locals := 0 }
def Q75 (Z : State) (a1 : Addr) (a2 : Addr) (a3 : Addr) (k4 : ClassId) (h0 : Heap) (n0 : Nat) (v : Option Value) (h : Heap) (L : List Loc) : Prop := v = none ∧ Fr n0 L ∧ Keep h0 h [a3, a1] ∧ Exa Z h a3 "[Ljava/lang/Object;" ∧ Arv Z h a3 k4 (.object "java/lang/Object") (10 : Int32) [(.ref a2), (.ref a2), (.ref a2), (.ref a2), .null, .null, .null, .null, .null, .null] .null ∧ Exa Z h a1 "java/util/ArrayList" ∧ Fld Z h a1 "java/util/AbstractList" "modCount" "I" (.int (4 : Int32)) ∧ Fld Z h a1 "java/util/ArrayList" "elementData" "[Ljava/lang/Object;" (.ref a3) ∧ Fld Z h a1 "java/util/ArrayList" "size" "I" (.int (4 : Int32))
theorem ef75 (a1 : Addr) (a2 : Addr) (a3 : Addr) (m : MethodId) : entryFrame m #[(.ref a1), (.ref a2), (.ref a3), (.int (3 : Int32))] 4 = mkF m 0 #[.val (.ref a1), .val (.ref a2), .val (.ref a3), .val (.int (3 : Int32))] [] := by first | (simp [entryFrame, mkF, argsToLocals, Value.category]; done) | rfl
theorem rm75 (l : Launch) (Z : State) (a0 : Array Value) (hw : ∀ d ∈ tables_1, d.before a0 Z = true) (ws : List Jvm.Cond) (a1 : Addr) (a2 : Addr) (a3 : Addr) (k4 : ClassId) (h0 : Heap) (n0 : Nat) (Z0 : n0 ≤ h0.size) (V_a3 : Arv Z h0 a3 k4 (.object "java/lang/Object") (10 : Int32) [(.ref a2), (.ref a2), (.ref a2), .null, .null, .null, .null, .null, .null, .null] .null) (O_k4 : Ovr Z k4 "java/lang/Object") (E_a2 : Exa Z h0 a2 "com/example/feedergen/feedergen/core/StopCandidate") (g_a3 : n0 ≤ a3) (F_size_a1 : Fld Z h0 a1 "java/util/ArrayList" "size" "I" (.int (3 : Int32))) (ne_a1_a3 : a1 ≠ a3) (E_a1 : Exa Z h0 a1 "java/util/ArrayList") (g_a1 : n0 ≤ a1) (E_a3 : Exa Z h0 a3 "[Ljava/lang/Object;") (F_modCount_a1 : Fld Z h0 a1 "java/util/AbstractList" "modCount" "I" (.int (4 : Int32))) (F_elementData_a1 : Fld Z h0 a1 "java/util/ArrayList" "elementData" "[Ljava/lang/Object;" (.ref a3)) :
    OwnMet l Z y_8 jdk_38_method_24_code 4 none ws Rm75 #[(.ref a1), (.ref a2), (.ref a3), (.int (3 : Int32))] h0 (Q75 Z a1 a2 a3 k4 h0 n0) := by
  refine own_body (plainFor_of_name pn_4) (ef75 a1 a2 a3) ?_
  intro p e s m below meth c s₁ hx hby hml hown hnm hret hZ X0 e0
  have N0 := Fr.nil n0
  obtain ⟨cl5, Ar5, q5, S5, M5, Hs5, G5⟩ := id V_a3
  have hin6 : ¬ ((3 : Int32) < 0 ∨ cl5.slots.size ≤ ((3 : Int32)).toNatClampNeg) := inb_of S5 ⟨(by decide : ¬ ((3 : Int32) < (0 : Int32))), (by decide : (3 : Int32) < (10 : Int32))⟩
  obtain ⟨T7, h7, X7, e7, W7, st7⟩ := stR X0 hx hZ e0 Ar5 (j := (3 : Int32)) hin6 rfl (Sto.ofV Ar5 q5 O_k4 (Ins.of_exa E_a2 (w_75 hw))) (g := (mkF m 14 #[.val (.ref a1), .val (.ref a2), .val (.ref a3), .val (.int (3 : Int32))] [(.ref a2), (.int (3 : Int32)), (.ref a3)])) rfl rfl (hb hby d8_14)
  have s0 := (Keep.of_wr W7).1
  have N7 := Fr.snoc X7 N0 g_a3
  have Vs7 : Arv Z h7 a3 k4 (.object "java/lang/Object") (10 : Int32) [(.ref a2), (.ref a2), (.ref a2), (.ref a2), .null, .null, .null, .null, .null, .null] .null := Arv.set Ar5 q5 S5 M5 Hs5 G5 rfl W7 3 rfl (Nat.le_of_ble_eq_true rfl)
  have Fl8 := (F_size_a1.other W7 (Or.inl ne_a1_a3))
  have Ex9 := (E_a1.wr W7)
  obtain ⟨T10, h10, X10, e10, W10, st10⟩ := putF X7 hx hZ hown (host := "") (Or.inl (w_52 hw)) Via.refl e7 Fl8 Ex9 (Or.inl (w_53 hw)) (w_22 hw) (ty := .int) (by decide) rfl rfl (g := (mkF m 19 #[.val (.ref a1), .val (.ref a2), .val (.ref a3), .val (.int (3 : Int32))] [(.int (4 : Int32)), (.ref a1)])) rfl rfl (hb hby d8_19)
  have s1 := (Keep.of_wr W10).1
  have N10 := Fr.snoc X10 N7 g_a1
  have Fw10 : Fld Z h10 a1 "java/util/ArrayList" "size" "I" (.int (4 : Int32)) := Fl8.same W10
  have Ex11 := ((E_a3.wr W7).wr W10)
  have Va12 := (Vs7.other W10 (Ne.symm ne_a1_a3))
  have Ex13 := (Ex9.wr W10)
  have Fl14 := ((F_modCount_a1.other W7 (Or.inl ne_a1_a3)).other W10 (Or.inr (slot_ne (Or.inl (w_41 hw)) (Or.inl (w_53 hw)) (by decide) (t := .int) (t' := .int) (by decide) (by decide))))
  have Fl15 := ((F_elementData_a1.other W7 (Or.inl ne_a1_a3)).other W10 (Or.inr (slot_ne (Or.inl (w_44 hw)) (Or.inl (w_53 hw)) (by decide) (t := (.array (.object "java/lang/Object"))) (t' := .int) (by decide) (by decide))))
  have Kp0 : Keep h0 h7 [a3, a1] := (Keep.refl h0 [a3, a1]).wr W7 (Or.inl (List.mem_of_getElem? (i := 0) rfl))
  have Kp1 : Keep h0 h10 [a3, a1] := Kp0.wr W10 (Or.inl (List.mem_of_getElem? (i := 1) rfl))
  refine ⟨T10, _, _, _, none, X10, (fun _ => rfl), by decide, by decide, ?_, fun fs hr => ?_⟩
  · show Q75 Z a1 a2 a3 k4 h0 n0 _ T10.heap _
    rw [e10]
    exact ⟨rfl, N10, Kp1, Ex11, Va12, Ex13, Fl14, Fl15, Fw10⟩
  · show Steps p.tables e below (s₁.setTop (mkF m 0 #[.val (.ref a1), .val (.ref a2), .val (.ref a3), .val (.int (3 : Int32))] [])) _
    refine XS.iloadN X0.here hx rfl (hb hby d8_0) rfl ?_
    refine XS.aloadN X0.here hx rfl (hb hby d8_1) rfl rfl ?_
    refine X0.arraylength hx (by rw [e0]; exact Ar5.1) (State.isArrayOf_alike hZ.alike Ar5.2.1) (g := (mkF m 2 #[.val (.ref a1), .val (.ref a2), .val (.ref a3), .val (.int (3 : Int32))] [(.ref a3), (.int (3 : Int32))])) rfl rfl (hb hby d8_2) _ ?_
    show Steps p.tables e below (s₁.setTop (mkF m 3 #[.val (.ref a1), .val (.ref a2), .val (.ref a3), .val (.int (3 : Int32))] [(.int cl5.slots.size.toInt32), (.int (3 : Int32))])) _
    rw [len_of S5 M5]
    refine XS.icmpYes X0.here hx rfl (pc0 := 3) (pc' := 11) rfl (hb hby d8_3) rfl (feq ((by decide : ¬ ((3 : Int32) = (10 : Int32))) : ¬ ((3 : Int32) = (10 : Int32)))).2 (by decide) (by decide) ?_
    refine XS.aloadN X0.here hx rfl (hb hby d8_11) rfl rfl ?_
    refine XS.iloadN X0.here hx rfl (hb hby d8_12) rfl ?_
    refine XS.aloadN X0.here hx rfl (hb hby d8_13) rfl rfl ?_
    refine st7 _ ?_
    refine XS.aloadN X7.here hx rfl (hb hby d8_15) rfl rfl ?_
    refine XS.iloadN X7.here hx rfl (hb hby d8_16) rfl ?_
    refine XS.iconst X7.here hx rfl (hb hby d8_17) ?_
    refine XS.iadd X7.here hx rfl (hb hby d8_18) rfl ?_
    refine st10 _ ?_
    exact X10.returnOut hx hret (hb hby d8_22) hr
-- java/util/ArrayList.add(Ljava/lang/Object;)Z
abbrev Rm76 : Room := { frames := 1, cells := 0, slots := 0, locals := 15 }
def Q76 (Z : State) (a1 : Addr) (a2 : Addr) (a5 : Addr) (k11 : ClassId) (h0 : Heap) (n0 : Nat) (v : Option Value) (h : Heap) (L : List Loc) : Prop := v = some (.int (1 : Int32)) ∧ Fr n0 L ∧ Keep h0 h [a1, a5] ∧ Exa Z h a1 "java/util/ArrayList" ∧ Fld Z h a1 "java/util/AbstractList" "modCount" "I" (.int (4 : Int32)) ∧ Fld Z h a1 "java/util/ArrayList" "elementData" "[Ljava/lang/Object;" (.ref a5) ∧ Fld Z h a1 "java/util/ArrayList" "size" "I" (.int (4 : Int32)) ∧ Exa Z h a5 "[Ljava/lang/Object;" ∧ Arv Z h a5 k11 (.object "java/lang/Object") (10 : Int32) [(.ref a2), (.ref a2), (.ref a2), (.ref a2), .null, .null, .null, .null, .null, .null] .null
theorem ef76 (a1 : Addr) (a2 : Addr) (m : MethodId) : entryFrame m #[(.ref a1), (.ref a2)] 2 = mkF m 0 #[.val (.ref a1), .val (.ref a2)] [] := by first | (simp [entryFrame, mkF, argsToLocals, Value.category]; done) | rfl
theorem rm76 (l : Launch) (Z : State) (a0 : Array Value) (hw : ∀ d ∈ tables_1, d.before a0 Z = true) (ws : List Jvm.Cond) (a1 : Addr) (a2 : Addr) (a5 : Addr) (k11 : ClassId) (h0 : Heap) (n0 : Nat) (Z0 : n0 ≤ h0.size) (F_modCount_a1 : Fld Z h0 a1 "java/util/AbstractList" "modCount" "I" (.int (3 : Int32))) (E_a1 : Exa Z h0 a1 "java/util/ArrayList") (g_a1 : n0 ≤ a1) (F_elementData_a1 : Fld Z h0 a1 "java/util/ArrayList" "elementData" "[Ljava/lang/Object;" (.ref a5)) (F_size_a1 : Fld Z h0 a1 "java/util/ArrayList" "size" "I" (.int (3 : Int32))) (V_a5 : Arv Z h0 a5 k11 (.object "java/lang/Object") (10 : Int32) [(.ref a2), (.ref a2), (.ref a2), .null, .null, .null, .null, .null, .null, .null] .null) (ne_a5_a1 : a5 ≠ a1) (O_k11 : Ovr Z k11 "java/lang/Object") (E_a2 : Exa Z h0 a2 "com/example/feedergen/feedergen/core/StopCandidate") (g_a5 : n0 ≤ a5) (E_a5 : Exa Z h0 a5 "[Ljava/lang/Object;") :
    OwnMet l Z y_9 jdk_38_method_25_code 2 (some .boolean) ws Rm76 #[(.ref a1), (.ref a2)] h0 (Q76 Z a1 a2 a5 k11 h0 n0) := by
  refine own_body (plainFor_of_name pn_4) (ef76 a1 a2) ?_
  intro p e s m below meth c s₁ hx hby hml hown hnm hret hZ X0 e0
  have N0 := Fr.nil n0
  obtain ⟨T3, X3, e3, st3⟩ := getF X0 hx hZ hown (host := "") (Or.inl (w_50 hw)) (Via.of (w_51 hw)) e0 F_modCount_a1 (g := (mkF m 2 #[.val (.ref a1), .val (.ref a2)] [(.ref a1), (.ref a1)])) rfl rfl (hb hby d7_2)
  obtain ⟨T4, h4, X4, e4, W4, st4⟩ := putF X3 hx hZ hown (host := "") (Or.inl (w_50 hw)) (Via.of (w_51 hw)) e3 F_modCount_a1 E_a1 (Or.inl (w_41 hw)) (w_22 hw) (ty := .int) (by decide) rfl rfl (g := (mkF m 7 #[.val (.ref a1), .val (.ref a2)] [(.int (4 : Int32)), (.ref a1)])) rfl rfl (hb hby d7_7)
  have s0 := (Keep.of_wr W4).1
  have N4 := Fr.snoc X4 N0 g_a1
  have Fw4 : Fld Z h4 a1 "java/util/AbstractList" "modCount" "I" (.int (4 : Int32)) := F_modCount_a1.same W4
  have Ex6 := (E_a1.wr W4)
  have Fl7 := (F_elementData_a1.other W4 (Or.inr (slot_ne (Or.inl (w_44 hw)) (Or.inl (w_41 hw)) (by decide) (t := (.array (.object "java/lang/Object"))) (t' := .int) (by decide) (by decide))))
  obtain ⟨T8, X8, e8, st8⟩ := getF X4 hx hZ hown (host := "") (Or.inl (w_43 hw)) Via.refl e4 Fl7 (g := (mkF m 13 #[.val (.ref a1), .val (.ref a2)] [(.ref a1), (.ref a2), (.ref a1)])) rfl rfl (hb hby d7_13)
  have Fl9 := (F_size_a1.other W4 (Or.inr (slot_ne (Or.inl (w_53 hw)) (Or.inl (w_41 hw)) (by decide) (t := .int) (t' := .int) (by decide) (by decide))))
  obtain ⟨T10, X10, e10, st10⟩ := getF X8 hx hZ hown (host := "") (Or.inl (w_52 hw)) Via.refl e8 Fl9 (g := (mkF m 17 #[.val (.ref a1), .val (.ref a2)] [(.ref a1), (.ref a5), (.ref a2), (.ref a1)])) rfl rfl (hb hby d7_17)
  have Va12 := (V_a5.other W4 ne_a5_a1)
  have Ex13 := (E_a2.wr W4)
  have Ex14 := (E_a5.wr W4)
  have z1 := Nat.le_trans Z0 s0
  obtain ⟨_, T15, L15, X15, hQ15, st15⟩ := own_private X10 hx hZ hown (y := y_8) Ex6 (w_54 hw) (w_55 hw) (mvT hZ (w_57 hw)) (w_56 hw) (w_23 hw) (w_58 hw) (rm75 l Z a0 hw [] a1 a2 a5 k11 h4 n0 z1 Va12 O_k11 Ex13 g_a5 Fl9 (Ne.symm ne_a5_a1) Ex6 g_a1 Ex14 Fw4 Fl7) e10 (Ls := #[.val (.ref a1), .val (.ref a2)]) (by rw [hml]; rfl) (argsL := [(.ref a2), (.ref a5), (.int (3 : Int32))]) (rest := []) (lenOf pd_5 rfl) (hb hby d7_20) (W := 0)
  obtain ⟨rfl, Nq15, K15, o15_0, o15_1, o15_2, o15_3, o15_4, o15_5⟩ := hQ15
  have N15 := Fr.app N4 Nq15
  have s1 := K15.1
  have Kp0 : Keep h0 h4 [a1, a5] := (Keep.refl h0 [a1, a5]).wr W4 (Or.inl (List.mem_of_getElem? (i := 0) rfl))
  have Kp1 : Keep h0 T15.heap [a1, a5] := Kp0.trans K15 (allS (Or.inl (List.mem_of_getElem? (i := 1) rfl)) (allS (Or.inl (List.mem_of_getElem? (i := 0) rfl)) all0))
  refine ⟨T15, _, _, _, (some (.int (1 : Int32))), X15, nofun, by decide, by decide, ?_, fun fs hr => ?_⟩
  · show Q76 Z a1 a2 a5 k11 h0 n0 _ T15.heap _
    exact ⟨rfl, N15, Kp1, o15_2, o15_3, o15_4, o15_5, o15_0, o15_1⟩
  · show Steps p.tables e below (s₁.setTop (mkF m 0 #[.val (.ref a1), .val (.ref a2)] [])) _
    refine XS.aloadN X0.here hx rfl (hb hby d7_0) rfl rfl ?_
    refine XS.dup X0.here hx rfl (hb hby d7_1) rfl rfl ?_
    refine st3 _ ?_
    refine XS.iconst X3.here hx rfl (hb hby d7_5) ?_
    refine XS.iadd X3.here hx rfl (hb hby d7_6) rfl ?_
    refine st4 _ ?_
    refine XS.aloadN X4.here hx rfl (hb hby d7_10) rfl rfl ?_
    refine XS.aloadN X4.here hx rfl (hb hby d7_11) rfl rfl ?_
    refine XS.aloadN X4.here hx rfl (hb hby d7_12) rfl rfl ?_
    refine st8 _ ?_
    refine XS.aloadN X8.here hx rfl (hb hby d7_16) rfl rfl ?_
    refine st10 _ ?_
    show Steps p.tables e below (T10.setTop (mkF m 20 #[.val (.ref a1), .val (.ref a2)] [(.int (3 : Int32)), (.ref a5), (.ref a2), (.ref a1)])) _
    refine st15 _ ?_
    refine XS.iconst X15.here hx rfl (hb hby d7_23) ?_
    exact retN X15 hx (t := .boolean) hret (by simp) (hb hby d7_24) hr
-- java/util/ArrayList.add(Ljava/lang/Object;[Ljava/lang/Object;I)V
abbrev Rm77 : Room := { frames := 0, cells := 0, slots := 0, locals := 0 }
def Q77 (Z : State) (a1 : Addr) (a2 : Addr) (a3 : Addr) (a4 : Addr) (a5 : Addr) (a6 : Addr) (k7 : ClassId) (h0 : Heap) (n0 : Nat) (v : Option Value) (h : Heap) (L : List Loc) : Prop := v = none ∧ Fr n0 L ∧ Keep h0 h [a3, a1] ∧ Exa Z h a3 "[Ljava/lang/Object;" ∧ Arv Z h a3 k7 (.object "java/lang/Object") (10 : Int32) [(.ref a4), (.ref a5), (.ref a6), (.ref a2), .null, .null, .null, .null, .null, .null] .null ∧ Exa Z h a1 "java/util/ArrayList" ∧ Fld Z h a1 "java/util/AbstractList" "modCount" "I" (.int (4 : Int32)) ∧ Fld Z h a1 "java/util/ArrayList" "elementData" "[Ljava/lang/Object;" (.ref a3) ∧ Fld Z h a1 "java/util/ArrayList" "size" "I" (.int (4 : Int32))
theorem ef77 (a1 : Addr) (a2 : Addr) (a3 : Addr) (m : MethodId) : entryFrame m #[(.ref a1), (.ref a2), (.ref a3), (.int (3 : Int32))] 4 = mkF m 0 #[.val (.ref a1), .val (.ref a2), .val (.ref a3), .val (.int (3 : Int32))] [] := by first | (simp [entryFrame, mkF, argsToLocals, Value.category]; done) | rfl
theorem rm77 (l : Launch) (Z : State) (a0 : Array Value) (hw : ∀ d ∈ tables_1, d.before a0 Z = true) (ws : List Jvm.Cond) (a1 : Addr) (a2 : Addr) (a3 : Addr) (a4 : Addr) (a5 : Addr) (a6 : Addr) (k7 : ClassId) (h0 : Heap) (n0 : Nat) (Z0 : n0 ≤ h0.size) (V_a3 : Arv Z h0 a3 k7 (.object "java/lang/Object") (10 : Int32) [(.ref a4), (.ref a5), (.ref a6), .null, .null, .null, .null, .null, .null, .null] .null) (O_k7 : Ovr Z k7 "java/lang/Object") (E_a2 : Exa Z h0 a2 "java/lang/Double") (g_a3 : n0 ≤ a3) (F_size_a1 : Fld Z h0 a1 "java/util/ArrayList" "size" "I" (.int (3 : Int32))) (ne_a1_a3 : a1 ≠ a3) (E_a1 : Exa Z h0 a1 "java/util/ArrayList") (g_a1 : n0 ≤ a1) (E_a3 : Exa Z h0 a3 "[Ljava/lang/Object;") (F_modCount_a1 : Fld Z h0 a1 "java/util/AbstractList" "modCount" "I" (.int (4 : Int32))) (F_elementData_a1 : Fld Z h0 a1 "java/util/ArrayList" "elementData" "[Ljava/lang/Object;" (.ref a3)) :
    OwnMet l Z y_8 jdk_38_method_24_code 4 none ws Rm77 #[(.ref a1), (.ref a2), (.ref a3), (.int (3 : Int32))] h0 (Q77 Z a1 a2 a3 a4 a5 a6 k7 h0 n0) := by
  refine own_body (plainFor_of_name pn_4) (ef77 a1 a2 a3) ?_
  intro p e s m below meth c s₁ hx hby hml hown hnm hret hZ X0 e0
  have N0 := Fr.nil n0
  obtain ⟨cl8, Ar8, q8, S8, M8, Hs8, G8⟩ := id V_a3
  have hin9 : ¬ ((3 : Int32) < 0 ∨ cl8.slots.size ≤ ((3 : Int32)).toNatClampNeg) := inb_of S8 ⟨(by decide : ¬ ((3 : Int32) < (0 : Int32))), (by decide : (3 : Int32) < (10 : Int32))⟩
  obtain ⟨T10, h10, X10, e10, W10, st10⟩ := stR X0 hx hZ e0 Ar8 (j := (3 : Int32)) hin9 rfl (Sto.ofV Ar8 q8 O_k7 (Ins.of_exa E_a2 (w_95 hw))) (g := (mkF m 14 #[.val (.ref a1), .val (.ref a2), .val (.ref a3), .val (.int (3 : Int32))] [(.ref a2), (.int (3 : Int32)), (.ref a3)])) rfl rfl (hb hby d8_14)
  have s0 := (Keep.of_wr W10).1
  have N10 := Fr.snoc X10 N0 g_a3
  have Vs10 : Arv Z h10 a3 k7 (.object "java/lang/Object") (10 : Int32) [(.ref a4), (.ref a5), (.ref a6), (.ref a2), .null, .null, .null, .null, .null, .null] .null := Arv.set Ar8 q8 S8 M8 Hs8 G8 rfl W10 3 rfl (Nat.le_of_ble_eq_true rfl)
  have Fl11 := (F_size_a1.other W10 (Or.inl ne_a1_a3))
  have Ex12 := (E_a1.wr W10)
  obtain ⟨T13, h13, X13, e13, W13, st13⟩ := putF X10 hx hZ hown (host := "") (Or.inl (w_52 hw)) Via.refl e10 Fl11 Ex12 (Or.inl (w_53 hw)) (w_22 hw) (ty := .int) (by decide) rfl rfl (g := (mkF m 19 #[.val (.ref a1), .val (.ref a2), .val (.ref a3), .val (.int (3 : Int32))] [(.int (4 : Int32)), (.ref a1)])) rfl rfl (hb hby d8_19)
  have s1 := (Keep.of_wr W13).1
  have N13 := Fr.snoc X13 N10 g_a1
  have Fw13 : Fld Z h13 a1 "java/util/ArrayList" "size" "I" (.int (4 : Int32)) := Fl11.same W13
  have Ex14 := ((E_a3.wr W10).wr W13)
  have Va15 := (Vs10.other W13 (Ne.symm ne_a1_a3))
  have Ex16 := (Ex12.wr W13)
  have Fl17 := ((F_modCount_a1.other W10 (Or.inl ne_a1_a3)).other W13 (Or.inr (slot_ne (Or.inl (w_41 hw)) (Or.inl (w_53 hw)) (by decide) (t := .int) (t' := .int) (by decide) (by decide))))
  have Fl18 := ((F_elementData_a1.other W10 (Or.inl ne_a1_a3)).other W13 (Or.inr (slot_ne (Or.inl (w_44 hw)) (Or.inl (w_53 hw)) (by decide) (t := (.array (.object "java/lang/Object"))) (t' := .int) (by decide) (by decide))))
  have Kp0 : Keep h0 h10 [a3, a1] := (Keep.refl h0 [a3, a1]).wr W10 (Or.inl (List.mem_of_getElem? (i := 0) rfl))
  have Kp1 : Keep h0 h13 [a3, a1] := Kp0.wr W13 (Or.inl (List.mem_of_getElem? (i := 1) rfl))
  refine ⟨T13, _, _, _, none, X13, (fun _ => rfl), by decide, by decide, ?_, fun fs hr => ?_⟩
  · show Q77 Z a1 a2 a3 a4 a5 a6 k7 h0 n0 _ T13.heap _
    rw [e13]
    exact ⟨rfl, N13, Kp1, Ex14, Va15, Ex16, Fl17, Fl18, Fw13⟩
  · show Steps p.tables e below (s₁.setTop (mkF m 0 #[.val (.ref a1), .val (.ref a2), .val (.ref a3), .val (.int (3 : Int32))] [])) _
    refine XS.iloadN X0.here hx rfl (hb hby d8_0) rfl ?_
    refine XS.aloadN X0.here hx rfl (hb hby d8_1) rfl rfl ?_
    refine X0.arraylength hx (by rw [e0]; exact Ar8.1) (State.isArrayOf_alike hZ.alike Ar8.2.1) (g := (mkF m 2 #[.val (.ref a1), .val (.ref a2), .val (.ref a3), .val (.int (3 : Int32))] [(.ref a3), (.int (3 : Int32))])) rfl rfl (hb hby d8_2) _ ?_
    show Steps p.tables e below (s₁.setTop (mkF m 3 #[.val (.ref a1), .val (.ref a2), .val (.ref a3), .val (.int (3 : Int32))] [(.int cl8.slots.size.toInt32), (.int (3 : Int32))])) _
    rw [len_of S8 M8]
    refine XS.icmpYes X0.here hx rfl (pc0 := 3) (pc' := 11) rfl (hb hby d8_3) rfl (feq ((by decide : ¬ ((3 : Int32) = (10 : Int32))) : ¬ ((3 : Int32) = (10 : Int32)))).2 (by decide) (by decide) ?_
    refine XS.aloadN X0.here hx rfl (hb hby d8_11) rfl rfl ?_
    refine XS.iloadN X0.here hx rfl (hb hby d8_12) rfl ?_
    refine XS.aloadN X0.here hx rfl (hb hby d8_13) rfl rfl ?_
    refine st10 _ ?_
    refine XS.aloadN X10.here hx rfl (hb hby d8_15) rfl rfl ?_
    refine XS.iloadN X10.here hx rfl (hb hby d8_16) rfl ?_
    refine XS.iconst X10.here hx rfl (hb hby d8_17) ?_
    refine XS.iadd X10.here hx rfl (hb hby d8_18) rfl ?_
    refine st13 _ ?_
    exact X13.returnOut hx hret (hb hby d8_22) hr
-- java/util/ArrayList.add(Ljava/lang/Object;)Z
abbrev Rm78 : Room := { frames := 1, cells := 0, slots := 0, locals := 15 }
def Q78 (Z : State) (a1 : Addr) (a2 : Addr) (a5 : Addr) (a11 : Addr) (a12 : Addr) (a13 : Addr) (k14 : ClassId) (h0 : Heap) (n0 : Nat) (v : Option Value) (h : Heap) (L : List Loc) : Prop := v = some (.int (1 : Int32)) ∧ Fr n0 L ∧ Keep h0 h [a1, a5] ∧ Exa Z h a1 "java/util/ArrayList" ∧ Fld Z h a1 "java/util/AbstractList" "modCount" "I" (.int (4 : Int32)) ∧ Fld Z h a1 "java/util/ArrayList" "elementData" "[Ljava/lang/Object;" (.ref a5) ∧ Fld Z h a1 "java/util/ArrayList" "size" "I" (.int (4 : Int32)) ∧ Exa Z h a5 "[Ljava/lang/Object;" ∧ Arv Z h a5 k14 (.object "java/lang/Object") (10 : Int32) [(.ref a11), (.ref a12), (.ref a13), (.ref a2), .null, .null, .null, .null, .null, .null] .null
theorem ef78 (a1 : Addr) (a2 : Addr) (m : MethodId) : entryFrame m #[(.ref a1), (.ref a2)] 2 = mkF m 0 #[.val (.ref a1), .val (.ref a2)] [] := by first | (simp [entryFrame, mkF, argsToLocals, Value.category]; done) | rfl
theorem rm78 (l : Launch) (Z : State) (a0 : Array Value) (hw : ∀ d ∈ tables_1, d.before a0 Z = true) (ws : List Jvm.Cond) (a1 : Addr) (a2 : Addr) (a5 : Addr) (a11 : Addr) (a12 : Addr) (a13 : Addr) (k14 : ClassId) (h0 : Heap) (n0 : Nat) (Z0 : n0 ≤ h0.size) (F_modCount_a1 : Fld Z h0 a1 "java/util/AbstractList" "modCount" "I" (.int (3 : Int32))) (E_a1 : Exa Z h0 a1 "java/util/ArrayList") (g_a1 : n0 ≤ a1) (F_elementData_a1 : Fld Z h0 a1 "java/util/ArrayList" "elementData" "[Ljava/lang/Object;" (.ref a5)) (F_size_a1 : Fld Z h0 a1 "java/util/ArrayList" "size" "I" (.int (3 : Int32))) (V_a5 : Arv Z h0 a5 k14 (.object "java/lang/Object") (10 : Int32) [(.ref a11), (.ref a12), (.ref a13), .null, .null, .null, .null, .null, .null, .null] .null) (ne_a5_a1 : a5 ≠ a1) (O_k14 : Ovr Z k14 "java/lang/Object") (E_a2 : Exa Z h0 a2 "java/lang/Double") (g_a5 : n0 ≤ a5) (E_a5 : Exa Z h0 a5 "[Ljava/lang/Object;") :
    OwnMet l Z y_9 jdk_38_method_25_code 2 (some .boolean) ws Rm78 #[(.ref a1), (.ref a2)] h0 (Q78 Z a1 a2 a5 a11 a12 a13 k14 h0 n0) := by
  refine own_body (plainFor_of_name pn_4) (ef78 a1 a2) ?_
  intro p e s m below meth c s₁ hx hby hml hown hnm hret hZ X0 e0
  have N0 := Fr.nil n0
  obtain ⟨T3, X3, e3, st3⟩ := getF X0 hx hZ hown (host := "") (Or.inl (w_50 hw)) (Via.of (w_51 hw)) e0 F_modCount_a1 (g := (mkF m 2 #[.val (.ref a1), .val (.ref a2)] [(.ref a1), (.ref a1)])) rfl rfl (hb hby d7_2)
  obtain ⟨T4, h4, X4, e4, W4, st4⟩ := putF X3 hx hZ hown (host := "") (Or.inl (w_50 hw)) (Via.of (w_51 hw)) e3 F_modCount_a1 E_a1 (Or.inl (w_41 hw)) (w_22 hw) (ty := .int) (by decide) rfl rfl (g := (mkF m 7 #[.val (.ref a1), .val (.ref a2)] [(.int (4 : Int32)), (.ref a1)])) rfl rfl (hb hby d7_7)
  have s0 := (Keep.of_wr W4).1
  have N4 := Fr.snoc X4 N0 g_a1
  have Fw4 : Fld Z h4 a1 "java/util/AbstractList" "modCount" "I" (.int (4 : Int32)) := F_modCount_a1.same W4
  have Ex6 := (E_a1.wr W4)
  have Fl7 := (F_elementData_a1.other W4 (Or.inr (slot_ne (Or.inl (w_44 hw)) (Or.inl (w_41 hw)) (by decide) (t := (.array (.object "java/lang/Object"))) (t' := .int) (by decide) (by decide))))
  obtain ⟨T8, X8, e8, st8⟩ := getF X4 hx hZ hown (host := "") (Or.inl (w_43 hw)) Via.refl e4 Fl7 (g := (mkF m 13 #[.val (.ref a1), .val (.ref a2)] [(.ref a1), (.ref a2), (.ref a1)])) rfl rfl (hb hby d7_13)
  have Fl9 := (F_size_a1.other W4 (Or.inr (slot_ne (Or.inl (w_53 hw)) (Or.inl (w_41 hw)) (by decide) (t := .int) (t' := .int) (by decide) (by decide))))
  obtain ⟨T10, X10, e10, st10⟩ := getF X8 hx hZ hown (host := "") (Or.inl (w_52 hw)) Via.refl e8 Fl9 (g := (mkF m 17 #[.val (.ref a1), .val (.ref a2)] [(.ref a1), (.ref a5), (.ref a2), (.ref a1)])) rfl rfl (hb hby d7_17)
  have Va15 := (V_a5.other W4 ne_a5_a1)
  have Ex16 := (E_a2.wr W4)
  have Ex17 := (E_a5.wr W4)
  have z1 := Nat.le_trans Z0 s0
  obtain ⟨_, T18, L18, X18, hQ18, st18⟩ := own_private X10 hx hZ hown (y := y_8) Ex6 (w_54 hw) (w_55 hw) (mvT hZ (w_57 hw)) (w_56 hw) (w_23 hw) (w_58 hw) (rm77 l Z a0 hw [] a1 a2 a5 a11 a12 a13 k14 h4 n0 z1 Va15 O_k14 Ex16 g_a5 Fl9 (Ne.symm ne_a5_a1) Ex6 g_a1 Ex17 Fw4 Fl7) e10 (Ls := #[.val (.ref a1), .val (.ref a2)]) (by rw [hml]; rfl) (argsL := [(.ref a2), (.ref a5), (.int (3 : Int32))]) (rest := []) (lenOf pd_5 rfl) (hb hby d7_20) (W := 0)
  obtain ⟨rfl, Nq18, K18, o18_0, o18_1, o18_2, o18_3, o18_4, o18_5⟩ := hQ18
  have N18 := Fr.app N4 Nq18
  have s1 := K18.1
  have Kp0 : Keep h0 h4 [a1, a5] := (Keep.refl h0 [a1, a5]).wr W4 (Or.inl (List.mem_of_getElem? (i := 0) rfl))
  have Kp1 : Keep h0 T18.heap [a1, a5] := Kp0.trans K18 (allS (Or.inl (List.mem_of_getElem? (i := 1) rfl)) (allS (Or.inl (List.mem_of_getElem? (i := 0) rfl)) all0))
  refine ⟨T18, _, _, _, (some (.int (1 : Int32))), X18, nofun, by decide, by decide, ?_, fun fs hr => ?_⟩
  · show Q78 Z a1 a2 a5 a11 a12 a13 k14 h0 n0 _ T18.heap _
    exact ⟨rfl, N18, Kp1, o18_2, o18_3, o18_4, o18_5, o18_0, o18_1⟩
  · show Steps p.tables e below (s₁.setTop (mkF m 0 #[.val (.ref a1), .val (.ref a2)] [])) _
    refine XS.aloadN X0.here hx rfl (hb hby d7_0) rfl rfl ?_
    refine XS.dup X0.here hx rfl (hb hby d7_1) rfl rfl ?_
    refine st3 _ ?_
    refine XS.iconst X3.here hx rfl (hb hby d7_5) ?_
    refine XS.iadd X3.here hx rfl (hb hby d7_6) rfl ?_
    refine st4 _ ?_
    refine XS.aloadN X4.here hx rfl (hb hby d7_10) rfl rfl ?_
    refine XS.aloadN X4.here hx rfl (hb hby d7_11) rfl rfl ?_
    refine XS.aloadN X4.here hx rfl (hb hby d7_12) rfl rfl ?_
    refine st8 _ ?_
    refine XS.aloadN X8.here hx rfl (hb hby d7_16) rfl rfl ?_
    refine st10 _ ?_
    show Steps p.tables e below (T10.setTop (mkF m 20 #[.val (.ref a1), .val (.ref a2)] [(.int (3 : Int32)), (.ref a5), (.ref a2), (.ref a1)])) _
    refine st18 _ ?_
    refine XS.iconst X18.here hx rfl (hb hby d7_23) ?_
    exact retN X18 hx (t := .boolean) hret (by simp) (hb hby d7_24) hr
-- java/util/ArrayList.size()I
abbrev Rm79 : Room := { frames := 0, cells := 0, slots := 0, locals := 0 }
def Q79 (Z : State) (a1 : Addr) (h0 : Heap) (n0 : Nat) (v : Option Value) (h : Heap) (L : List Loc) : Prop := v = some (.int (4 : Int32)) ∧ Fr n0 L ∧ h = h0
theorem ef79 (a1 : Addr) (m : MethodId) : entryFrame m #[(.ref a1)] 1 = mkF m 0 #[.val (.ref a1)] [] := by first | (simp [entryFrame, mkF, argsToLocals, Value.category]; done) | rfl
theorem rm79 (l : Launch) (Z : State) (a0 : Array Value) (hw : ∀ d ∈ tables_1, d.before a0 Z = true) (ws : List Jvm.Cond) (a1 : Addr) (h0 : Heap) (n0 : Nat) (Z0 : n0 ≤ h0.size) (F_size_a1 : Fld Z h0 a1 "java/util/ArrayList" "size" "I" (.int (4 : Int32))) :
    OwnMet l Z y_13 jdk_38_method_8_code 1 (some .int) ws Rm79 #[(.ref a1)] h0 (Q79 Z a1 h0 n0) := by
  refine own_body (plainFor_of_name pn_4) (ef79 a1) ?_
  intro p e s m below meth c s₁ hx hby hml hown hnm hret hZ X0 e0
  have N0 := Fr.nil n0
  obtain ⟨T2, X2, e2, st2⟩ := getF X0 hx hZ hown (host := "") (Or.inl (w_52 hw)) Via.refl e0 F_size_a1 (g := (mkF m 1 #[.val (.ref a1)] [(.ref a1)])) rfl rfl (hb hby d16_1)
  refine ⟨T2, _, _, _, (some (.int (4 : Int32))), X2, nofun, by decide, by decide, ?_, fun fs hr => ?_⟩
  · show Q79 Z a1 h0 n0 _ T2.heap _
    rw [e2]
    exact ⟨rfl, N0, rfl⟩
  · show Steps p.tables e below (s₁.setTop (mkF m 0 #[.val (.ref a1)] [])) _
    refine XS.aloadN X0.here hx rfl (hb hby d16_0) rfl rfl ?_
    refine st2 _ ?_
    exact retI X2 hx hret (hb hby d16_4) hr
-- java/util/ArrayList.isEmpty()Z
abbrev Rm80 : Room := { frames := 0, cells := 0, slots := 0, locals := 0 }
def Q80 (Z : State) (a1 : Addr) (h0 : Heap) (n0 : Nat) (v : Option Value) (h : Heap) (L : List Loc) : Prop := v = some (.int (0 : Int32)) ∧ Fr n0 L ∧ h = h0
theorem ef80 (a1 : Addr) (m : MethodId) : entryFrame m #[(.ref a1)] 1 = mkF m 0 #[.val (.ref a1)] [] := by first | (simp [entryFrame, mkF, argsToLocals, Value.category]; done) | rfl
theorem rm80 (l : Launch) (Z : State) (a0 : Array Value) (hw : ∀ d ∈ tables_1, d.before a0 Z = true) (ws : List Jvm.Cond) (a1 : Addr) (h0 : Heap) (n0 : Nat) (Z0 : n0 ≤ h0.size) (F_size_a1 : Fld Z h0 a1 "java/util/ArrayList" "size" "I" (.int (4 : Int32))) :
    OwnMet l Z y_15 jdk_38_method_9_code 1 (some .boolean) ws Rm80 #[(.ref a1)] h0 (Q80 Z a1 h0 n0) := by
  refine own_body (plainFor_of_name pn_4) (ef80 a1) ?_
  intro p e s m below meth c s₁ hx hby hml hown hnm hret hZ X0 e0
  have N0 := Fr.nil n0
  obtain ⟨T2, X2, e2, st2⟩ := getF X0 hx hZ hown (host := "") (Or.inl (w_52 hw)) Via.refl e0 F_size_a1 (g := (mkF m 1 #[.val (.ref a1)] [(.ref a1)])) rfl rfl (hb hby d19_1)
  refine ⟨T2, _, _, _, (some (.int (0 : Int32))), X2, nofun, by decide, by decide, ?_, fun fs hr => ?_⟩
  · show Q80 Z a1 h0 n0 _ T2.heap _
    rw [e2]
    exact ⟨rfl, N0, rfl⟩
  · show Steps p.tables e below (s₁.setTop (mkF m 0 #[.val (.ref a1)] [])) _
    refine XS.aloadN X0.here hx rfl (hb hby d19_0) rfl rfl ?_
    refine st2 _ ?_
    refine XS.ifYes X2.here hx rfl (pc0 := 4) (pc' := 11) rfl (hb hby d19_4) rfl ((if0 _ _).trans (feq ((by decide : ¬ ((4 : Int32) = (0 : Int32))) : ¬ ((4 : Int32) = (0 : Int32)))).2) (by decide) (by decide) ?_
    refine XS.iconst X2.here hx rfl (hb hby d19_11) ?_
    exact retN X2 hx (t := .boolean) hret (by simp) (hb hby d19_12) hr
-- java/lang/Math.min(II)I
abbrev Rm81 : Room := { frames := 0, cells := 0, slots := 0, locals := 0 }
def Q81 (Z : State)  (h0 : Heap) (n0 : Nat) (v : Option Value) (h : Heap) (L : List Loc) : Prop := v = some (.int (4 : Int32)) ∧ Fr n0 L ∧ h = h0
theorem ef81  (m : MethodId) : entryFrame m #[(.int (10 : Int32)), (.int (4 : Int32))] 2 = mkF m 0 #[.val (.int (10 : Int32)), .val (.int (4 : Int32))] [] := by first | (simp [entryFrame, mkF, argsToLocals, Value.category]; done) | rfl
theorem rm81 (l : Launch) (Z : State) (a0 : Array Value) (hw : ∀ d ∈ tables_1, d.before a0 Z = true) (ws : List Jvm.Cond)  (h0 : Heap) (n0 : Nat) (Z0 : n0 ≤ h0.size) :
    OwnMet l Z y_17 jdk_29_method_69_code 2 (some .int) ws Rm81 #[(.int (10 : Int32)), (.int (4 : Int32))] h0 (Q81 Z  h0 n0) := by
  refine own_body (Jvm.Free.JP.mathPlain rfl (by decide +kernel)) (ef81) ?_
  intro p e s m below meth c s₁ hx hby hml hown hnm hret hZ X0 e0
  have N0 := Fr.nil n0
  refine ⟨s₁, _, _, _, (some (.int (4 : Int32))), X0, nofun, by decide, by decide, ?_, fun fs hr => ?_⟩
  · show Q81 Z  h0 n0 _ s₁.heap _
    rw [e0]
    exact ⟨rfl, N0, rfl⟩
  · show Steps p.tables e below (s₁.setTop (mkF m 0 #[.val (.int (10 : Int32)), .val (.int (4 : Int32))] [])) _
    refine XS.iloadN X0.here hx rfl (hb hby d23_0) rfl ?_
    refine XS.iloadN X0.here hx rfl (hb hby d23_1) rfl ?_
    refine XS.icmpYes X0.here hx rfl (pc0 := 2) (pc' := 9) rfl (hb hby d23_2) rfl (tlt ((by decide : (4 : Int32) < (10 : Int32)) : (4 : Int32) < (10 : Int32))).2.2.1 (by decide) (by decide) ?_
    refine XS.iloadN X0.here hx rfl (hb hby d23_9) rfl ?_
    exact retI X0 hx hret (hb hby d23_10) hr
-- java/util/Arrays.copyOf([Ljava/lang/Object;ILjava/lang/Class;)[Ljava/lang/Object;
abbrev Rm82 : Room := { frames := 1, cells := 1, slots := 4, locals := 18 }
def Q82 (Z : State) (a1 : Addr) (a2 : Addr) (a5 : Addr) (k6 : ClassId) (h0 : Heap) (n0 : Nat) (v : Option Value) (h : Heap) (L : List Loc) : Prop := ∃ b4 : Addr, ∃ k4 : ClassId, v = some (.ref b4) ∧ Fr n0 L ∧ Keep h0 h [] ∧ h0.size ≤ b4 ∧ Exa Z h b4 "[Ljava/lang/Object;" ∧ Ovr Z k4 "java/lang/Object" ∧ Arv Z h b4 k4 (.object "java/lang/Object") (4 : Int32) [(.ref a5), (.ref a5), (.ref a5), (.ref a5)] .null
theorem ef82 (a1 : Addr) (a2 : Addr) (m : MethodId) : entryFrame m #[(.ref a1), (.int (4 : Int32)), (.ref a2)] 4 = mkF m 0 #[.val (.ref a1), .val (.int (4 : Int32)), .val (.ref a2), .unset] [] := by first | (simp [entryFrame, mkF, argsToLocals, Value.category]; done) | rfl
theorem rm82 (l : Launch) (Z : State) (a0 : Array Value) (hw : ∀ d ∈ tables_1, d.before a0 Z = true) (ws : List Jvm.Cond) (a1 : Addr) (a2 : Addr) (a5 : Addr) (k6 : ClassId) (h0 : Heap) (n0 : Nat) (Z0 : n0 ≤ h0.size) (M_1 : OwnMir Z "[Ljava/lang/Object;" a2) (V_a1 : Arv Z h0 a1 k6 (.object "java/lang/Object") (10 : Int32) [(.ref a5), (.ref a5), (.ref a5), (.ref a5), .null, .null, .null, .null, .null, .null] .null) (E_a5 : Exa Z h0 a5 "com/example/feedergen/feedergen/core/StopCandidate") :
    OwnMet l Z y_18 jdk_65_method_120_code 4 (some (.array (.object "java/lang/Object"))) ws Rm82 #[(.ref a1), (.int (4 : Int32)), (.ref a2)] h0 (Q82 Z a1 a2 a5 k6 h0 n0) := by
  refine own_body (plainFor_of_name pn_7) (ef82 a1 a2) ?_
  intro p e s m below meth c s₁ hx hby hml hown hnm hret hZ X0 e0
  have N0 := Fr.nil n0
  obtain ⟨T3, X3, e3, st3⟩ := own_ldcM X0 hx hZ hown (w_156 hw) M_1 e0 (g := (mkF m 1 #[.val (.ref a1), .val (.int (4 : Int32)), .val (.ref a2), .unset] [(.ref a2)])) rfl (hb hby d22_1)
  obtain ⟨T4, h4, k4, X4, e4, E4, A4, B4, O4, st4⟩ := newRE X3 hx hZ hown (w_157 hw) (w_74 hw) e3 (g := (mkF m 7 #[.val (.ref a1), .val (.int (4 : Int32)), .val (.ref a2), .unset] [(.int (4 : Int32))])) rfl (hb hby d22_7) rfl (by decide) (cap := 4) (by decide) (by decide) (by decide) (by decide) (ad := "[Ljava/lang/Object;") (by decide)
  obtain ⟨b4, g4⟩ : ∃ z, z = h0.size := ⟨_, rfl⟩
  rw [← g4] at A4 B4 st4
  have s0 := E4.1
  have Vn4 : Arv Z h4 b4 k4 (.object "java/lang/Object") (4 : Int32) [.null, .null, .null, .null] .null := (Arv.new A4 (by decide)).pad (pad_rep [] .null 4)
  have Va7 := (V_a1.ext E4)
  obtain ⟨cl8, Ar8, q8, S8, M8, Hs8, G8⟩ := id Va7
  have z1 := Nat.le_trans Z0 s0
  obtain ⟨_, T9, L9, X9, hQ9, st9⟩ := own_callS X4 hx hZ hown (y := y_17) (w_158 hw) (w_159 hw) (w_71 hw) (w_160 hw) (rm81 l Z a0 hw []  h4 n0 z1) e4 (Ls := #[.val (.ref a1), .val (.int (4 : Int32)), .val (.ref a2), .val (.ref b4)]) (by rw [hml]; rfl) (argsL := [(.int (10 : Int32)), (.int (4 : Int32))]) (rest := [(.int (0 : Int32)), (.ref b4), (.int (0 : Int32)), (.ref a1)]) (lenOf pd_2 rfl) (hb hby d22_32) (W := 4)
  obtain ⟨rfl, Nq9, e9⟩ := hQ9
  have N9 := Fr.app N0 Nq9
  obtain ⟨cl10, Ar10, q10, S10, M10, Hs10, G10⟩ := id Vn4
  have Ex11 := (E_a5.ext E4)
  have g_b4 : n0 ≤ b4 := Nat.le_trans Z0 (Nat.le_of_eq g4.symm)
  obtain ⟨T12, h12, L12, X12, e12, N12, K12, V12, st12⟩ := cpA X9 hx hZ hown (w_161 hw) (w_164 hw) (w_162 hw) (w_163 hw) e9 Va7 Vn4 (us := [(.ref a5), (.ref a5), (.ref a5), (.ref a5)]) (Or.inr ⟨rfl, rfl, ⟨(Sto.ofV Ar10 q10 O4 (Ins.of_exa Ex11 (w_75 hw))), ⟨(Sto.ofV Ar10 q10 O4 (Ins.of_exa Ex11 (w_75 hw))), ⟨(Sto.ofV Ar10 q10 O4 (Ins.of_exa Ex11 (w_75 hw))), ⟨(Sto.ofV Ar10 q10 O4 (Ins.of_exa Ex11 (w_75 hw))), trivial⟩⟩⟩⟩⟩) (by decide) (by decide) (by decide) (by decide) (by decide) (by rfl) (by decide) N9 g_b4 (g := (mkF m 35 #[.val (.ref a1), .val (.int (4 : Int32)), .val (.ref a2), .val (.ref b4)] [(.int (4 : Int32)), (.int (0 : Int32)), (.ref b4), (.int (0 : Int32)), (.ref a1)])) rfl (by rw [hml]; rfl) rfl (hb hby d22_35) (by decide) (W := 0) (by show 2 * 0 + _ ≤ _; exact Nat.le_of_eq rfl) (by decide)
  have s1 := K12.1
  have Vc12 : Arv Z h12 b4 k4 (.object "java/lang/Object") (4 : Int32) [(.ref a5), (.ref a5), (.ref a5), (.ref a5)] .null := V12
  have sz_b4 : h0.size ≤ b4 := (Nat.le_of_eq g4.symm)
  have Ex13 := (B4.keep K12)
  have Kp0 : Keep h0 h4 [] := (Keep.refl h0 []).ext E4
  have Kp1 : Keep h0 h12 [] := Kp0.trans K12 (allS (Or.inr sz_b4) all0)
  refine ⟨T12, _, _, _, (some (.ref b4)), X12, nofun, by decide, by decide, ?_, fun fs hr => ?_⟩
  · show Q82 Z a1 a2 a5 k6 h0 n0 _ T12.heap _
    rw [e12]
    exact ⟨b4, k4, rfl, N12, Kp1, sz_b4, Ex13, O4, Vc12⟩
  · show Steps p.tables e below (s₁.setTop (mkF m 0 #[.val (.ref a1), .val (.int (4 : Int32)), .val (.ref a2), .unset] [])) _
    refine XS.aloadN X0.here hx rfl (hb hby d22_0) rfl rfl ?_
    refine st3 _ ?_
    refine Jvm.RoadKit.acmp (g := (mkF m 3 #[.val (.ref a1), .val (.int (4 : Int32)), .val (.ref a2), .unset] [(.ref a2), (.ref a2)])) X3 hx rfl rfl rfl (pc0 := 3) (pc' := 6) (same := true) rfl (hb hby d22_3) rfl (decide_eq_true rfl) (by decide) (by decide) ?_
    refine XS.iloadN X3.here hx rfl (hb hby d22_6) rfl ?_
    refine st4 _ ?_
    refine XS.goto X4.here hx rfl (pc0 := 10) (pc' := 24) rfl (hb hby d22_10) (by decide) (by decide) ?_
    refine XS.astoreN X4.here hx rfl (hb hby d22_24) rfl rfl (l' := #[.val (.ref a1), .val (.int (4 : Int32)), .val (.ref a2), .val (.ref b4)]) rfl ?_
    refine XS.aloadN X4.here hx rfl (hb hby d22_25) rfl rfl ?_
    refine XS.iconst X4.here hx rfl (hb hby d22_26) ?_
    refine XS.aloadN X4.here hx rfl (hb hby d22_27) rfl rfl ?_
    refine XS.iconst X4.here hx rfl (hb hby d22_28) ?_
    refine XS.aloadN X4.here hx rfl (hb hby d22_29) rfl rfl ?_
    show Steps p.tables e below (T4.setTop (mkF m 30 #[.val (.ref a1), .val (.int (4 : Int32)), .val (.ref a2), .val (.ref b4)] [(.ref a1), (.int (0 : Int32)), (.ref b4), (.int (0 : Int32)), (.ref a1)])) _
    refine X4.arraylength hx (by rw [e4]; exact Ar8.1) (State.isArrayOf_alike hZ.alike Ar8.2.1) (g := (mkF m 30 #[.val (.ref a1), .val (.int (4 : Int32)), .val (.ref a2), .val (.ref b4)] [(.ref a1), (.int (0 : Int32)), (.ref b4), (.int (0 : Int32)), (.ref a1)])) rfl rfl (hb hby d22_30) _ ?_
    show Steps p.tables e below (T4.setTop (mkF m 31 #[.val (.ref a1), .val (.int (4 : Int32)), .val (.ref a2), .val (.ref b4)] [(.int cl8.slots.size.toInt32), (.int (0 : Int32)), (.ref b4), (.int (0 : Int32)), (.ref a1)])) _
    rw [len_of S8 M8]
    refine XS.iloadN X4.here hx rfl (hb hby d22_31) rfl ?_
    refine st9 _ ?_
    refine st12 _ ?_
    refine XS.aloadN X12.here hx rfl (hb hby d22_38) rfl rfl ?_
    exact retOut X12 hx hret rfl (Or.inr (Or.inr (Or.inr (Or.inr ⟨rfl, rfl, rfl⟩)))) (hb hby d22_39) hr
-- java/util/Arrays.copyOf([Ljava/lang/Object;I)[Ljava/lang/Object;
abbrev Rm83 : Room := { frames := 2, cells := 1, slots := 4, locals := 33 }
def Q83 (Z : State) (a1 : Addr) (a2 : Addr) (a4 : Addr) (k5 : ClassId) (h0 : Heap) (n0 : Nat) (v : Option Value) (h : Heap) (L : List Loc) : Prop := ∃ b6_b4 : Addr, ∃ k6_k4 : ClassId, v = some (.ref b6_b4) ∧ Fr n0 L ∧ Keep h0 h [] ∧ h0.size ≤ b6_b4 ∧ Exa Z h b6_b4 "[Ljava/lang/Object;" ∧ Ovr Z k6_k4 "java/lang/Object" ∧ Arv Z h b6_b4 k6_k4 (.object "java/lang/Object") (4 : Int32) [(.ref a4), (.ref a4), (.ref a4), (.ref a4)] .null
theorem ef83 (a1 : Addr) (m : MethodId) : entryFrame m #[(.ref a1), (.int (4 : Int32))] 2 = mkF m 0 #[.val (.ref a1), .val (.int (4 : Int32))] [] := by first | (simp [entryFrame, mkF, argsToLocals, Value.category]; done) | rfl
theorem rm83 (l : Launch) (Z : State) (a0 : Array Value) (hw : ∀ d ∈ tables_1, d.before a0 Z = true) (ws : List Jvm.Cond) (a1 : Addr) (a2 : Addr) (a4 : Addr) (k5 : ClassId) (h0 : Heap) (n0 : Nat) (Z0 : n0 ≤ h0.size) (E_a1 : Exa Z h0 a1 "[Ljava/lang/Object;") (M_1 : OwnMir Z "[Ljava/lang/Object;" a2) (V_a1 : Arv Z h0 a1 k5 (.object "java/lang/Object") (10 : Int32) [(.ref a4), (.ref a4), (.ref a4), (.ref a4), .null, .null, .null, .null, .null, .null] .null) (E_a4 : Exa Z h0 a4 "com/example/feedergen/feedergen/core/StopCandidate") :
    OwnMet l Z y_19 jdk_65_method_119_code 2 (some (.array (.object "java/lang/Object"))) ws Rm83 #[(.ref a1), (.int (4 : Int32))] h0 (Q83 Z a1 a2 a4 k5 h0 n0) := by
  refine own_body (plainFor_of_name pn_7) (ef83 a1) ?_
  intro p e s m below meth c s₁ hx hby hml hown hnm hret hZ X0 e0
  have N0 := Fr.nil n0
  obtain ⟨T3, X3, e3, st3⟩ := own_gcls X0 hx hZ hown (w_147 hw) (w_148 hw) (w_124 hw) (w_150 hw) (w_149 hw) (w_151 hw) e0 E_a1 M_1 (g := (mkF m 3 #[.val (.ref a1), .val (.int (4 : Int32))] [(.ref a1), (.int (4 : Int32)), (.ref a1)])) rfl (by rw [hml]; rfl) rfl (hb hby d21_3) (by decide) (W := 2) (by show 2 * 0 + _ ≤ _; exact Nat.le_of_eq rfl) (by decide)
  obtain ⟨_, T6, L6, X6, hQ6, st6⟩ := own_callS X3 hx hZ hown (y := y_18) (w_153 hw) (w_154 hw) (w_145 hw) (w_155 hw) (rm82 l Z a0 hw [] a1 a2 a4 k5 h0 n0 Z0 M_1 V_a1 E_a4) e3 (Ls := #[.val (.ref a1), .val (.int (4 : Int32))]) (by rw [hml]; rfl) (argsL := [(.ref a1), (.int (4 : Int32)), (.ref a2)]) (rest := []) (lenOf pd_11 rfl) (hb hby d21_6) (W := 0)
  obtain ⟨b6_b4, k6_k4, rfl, Nq6, K6, o6_0, o6_1, o6_2, o6_3⟩ := hQ6
  have N6 := Fr.app N0 Nq6
  have s0 := K6.1
  have sz_b6_b4 : h0.size ≤ b6_b4 := o6_0
  have Kp0 : Keep h0 T6.heap [] := (Keep.refl h0 []).trans K6 all0
  refine ⟨T6, _, _, _, (some (.ref b6_b4)), X6, nofun, by decide, by decide, ?_, fun fs hr => ?_⟩
  · show Q83 Z a1 a2 a4 k5 h0 n0 _ T6.heap _
    exact ⟨b6_b4, k6_k4, rfl, N6, Kp0, sz_b6_b4, o6_1, o6_2, o6_3⟩
  · show Steps p.tables e below (s₁.setTop (mkF m 0 #[.val (.ref a1), .val (.int (4 : Int32))] [])) _
    refine XS.aloadN X0.here hx rfl (hb hby d21_0) rfl rfl ?_
    refine XS.iloadN X0.here hx rfl (hb hby d21_1) rfl ?_
    refine XS.aloadN X0.here hx rfl (hb hby d21_2) rfl rfl ?_
    refine st3 _ ?_
    refine st6 _ ?_
    exact retOut X6 hx hret rfl (Or.inr (Or.inr (Or.inr (Or.inr ⟨rfl, rfl, rfl⟩)))) (hb hby d21_9) hr
-- java/util/ArrayList.toArray()[Ljava/lang/Object;
abbrev Rm84 : Room := { frames := 3, cells := 1, slots := 4, locals := 46 }
def Q84 (Z : State) (a1 : Addr) (a2 : Addr) (a5 : Addr) (a6 : Addr) (k7 : ClassId) (h0 : Heap) (n0 : Nat) (v : Option Value) (h : Heap) (L : List Loc) : Prop := ∃ b8_b6_b4 : Addr, ∃ k8_k6_k4 : ClassId, v = some (.ref b8_b6_b4) ∧ Fr n0 L ∧ Keep h0 h [] ∧ h0.size ≤ b8_b6_b4 ∧ Exa Z h b8_b6_b4 "[Ljava/lang/Object;" ∧ Ovr Z k8_k6_k4 "java/lang/Object" ∧ Arv Z h b8_b6_b4 k8_k6_k4 (.object "java/lang/Object") (4 : Int32) [(.ref a6), (.ref a6), (.ref a6), (.ref a6)] .null
theorem ef84 (a1 : Addr) (m : MethodId) : entryFrame m #[(.ref a1)] 1 = mkF m 0 #[.val (.ref a1)] [] := by first | (simp [entryFrame, mkF, argsToLocals, Value.category]; done) | rfl
theorem rm84 (l : Launch) (Z : State) (a0 : Array Value) (hw : ∀ d ∈ tables_1, d.before a0 Z = true) (ws : List Jvm.Cond) (a1 : Addr) (a2 : Addr) (a5 : Addr) (a6 : Addr) (k7 : ClassId) (h0 : Heap) (n0 : Nat) (Z0 : n0 ≤ h0.size) (F_elementData_a1 : Fld Z h0 a1 "java/util/ArrayList" "elementData" "[Ljava/lang/Object;" (.ref a2)) (F_size_a1 : Fld Z h0 a1 "java/util/ArrayList" "size" "I" (.int (4 : Int32))) (E_a2 : Exa Z h0 a2 "[Ljava/lang/Object;") (M_1 : OwnMir Z "[Ljava/lang/Object;" a5) (V_a2 : Arv Z h0 a2 k7 (.object "java/lang/Object") (10 : Int32) [(.ref a6), (.ref a6), (.ref a6), (.ref a6), .null, .null, .null, .null, .null, .null] .null) (E_a6 : Exa Z h0 a6 "com/example/feedergen/feedergen/core/StopCandidate") :
    OwnMet l Z y_20 jdk_38_method_16_code 1 (some (.array (.object "java/lang/Object"))) ws Rm84 #[(.ref a1)] h0 (Q84 Z a1 a2 a5 a6 k7 h0 n0) := by
  refine own_body (plainFor_of_name pn_4) (ef84 a1) ?_
  intro p e s m below meth c s₁ hx hby hml hown hnm hret hZ X0 e0
  have N0 := Fr.nil n0
  obtain ⟨T3, X3, e3, st3⟩ := getF X0 hx hZ hown (host := "") (Or.inl (w_43 hw)) Via.refl e0 F_elementData_a1 (g := (mkF m 1 #[.val (.ref a1)] [(.ref a1)])) rfl rfl (hb hby d20_1)
  obtain ⟨T4, X4, e4, st4⟩ := getF X3 hx hZ hown (host := "") (Or.inl (w_52 hw)) Via.refl e3 F_size_a1 (g := (mkF m 5 #[.val (.ref a1)] [(.ref a1), (.ref a2)])) rfl rfl (hb hby d20_5)
  obtain ⟨_, T8, L8, X8, hQ8, st8⟩ := own_callS X4 hx hZ hown (y := y_19) (w_143 hw) (w_144 hw) (w_145 hw) (w_146 hw) (rm83 l Z a0 hw [] a2 a5 a6 k7 h0 n0 Z0 E_a2 M_1 V_a2 E_a6) e4 (Ls := #[.val (.ref a1)]) (by rw [hml]; rfl) (argsL := [(.ref a2), (.int (4 : Int32))]) (rest := []) (lenOf pd_12 rfl) (hb hby d20_8) (W := 0)
  obtain ⟨b8_b6_b4, k8_k6_k4, rfl, Nq8, K8, o8_0, o8_1, o8_2, o8_3⟩ := hQ8
  have N8 := Fr.app N0 Nq8
  have s0 := K8.1
  have sz_b8_b6_b4 : h0.size ≤ b8_b6_b4 := o8_0
  have Kp0 : Keep h0 T8.heap [] := (Keep.refl h0 []).trans K8 all0
  refine ⟨T8, _, _, _, (some (.ref b8_b6_b4)), X8, nofun, by decide, by decide, ?_, fun fs hr => ?_⟩
  · show Q84 Z a1 a2 a5 a6 k7 h0 n0 _ T8.heap _
    exact ⟨b8_b6_b4, k8_k6_k4, rfl, N8, Kp0, sz_b8_b6_b4, o8_1, o8_2, o8_3⟩
  · show Steps p.tables e below (s₁.setTop (mkF m 0 #[.val (.ref a1)] [])) _
    refine XS.aloadN X0.here hx rfl (hb hby d20_0) rfl rfl ?_
    refine st3 _ ?_
    refine XS.aloadN X3.here hx rfl (hb hby d20_4) rfl rfl ?_
    refine st4 _ ?_
    refine st8 _ ?_
    exact retOut X8 hx hret rfl (Or.inr (Or.inr (Or.inr (Or.inr ⟨rfl, rfl, rfl⟩)))) (hb hby d20_11) hr
-- java/util/ImmutableCollections.listFromArray([Ljava/lang/Object;)Ljava/util/List;
abbrev Rm85 : Room := { frames := 5, cells := 2, slots := 6, locals := 63 }
def Q85 (Z : State) (a1 : Addr) (a2 : Addr) (k3 : ClassId) (h0 : Heap) (n0 : Nat) (v : Option Value) (h : Heap) (L : List Loc) : Prop := ∃ b40 : Addr, ∃ b5 : Addr, ∃ k5 : ClassId, v = some (.ref b40) ∧ Fr n0 L ∧ Keep h0 h [] ∧ h0.size ≤ b40 ∧ Exa Z h b40 "java/util/ImmutableCollections$ListN" ∧ Fld Z h b40 "java/util/ImmutableCollections$ListN" "allowNulls" "Z" (.int (0 : Int32)) ∧ Fld Z h b40 "java/util/ImmutableCollections$ListN" "elements" "[Ljava/lang/Object;" (.ref b5) ∧ h0.size ≤ b5 ∧ Exa Z h b5 "[Ljava/lang/Object;" ∧ Ovr Z k5 "java/lang/Object" ∧ Arv Z h b5 k5 (.object "java/lang/Object") (4 : Int32) [(.ref a2), (.ref a2), (.ref a2), (.ref a2)] .null ∧ b40 ≠ b5
theorem ef85 (a1 : Addr) (m : MethodId) : entryFrame m #[(.ref a1)] 3 = mkF m 0 #[.val (.ref a1), .unset, .unset] [] := by first | (simp [entryFrame, mkF, argsToLocals, Value.category]; done) | rfl
theorem rm85 (l : Launch) (Z : State) (a0 : Array Value) (hw : ∀ d ∈ tables_1, d.before a0 Z = true) (ws : List Jvm.Cond) (a1 : Addr) (a2 : Addr) (k3 : ClassId) (h0 : Heap) (n0 : Nat) (Z0 : n0 ≤ h0.size) (V_a1 : Arv Z h0 a1 k3 (.object "java/lang/Object") (4 : Int32) [(.ref a2), (.ref a2), (.ref a2), (.ref a2)] .null) (E_a2 : Exa Z h0 a2 "com/example/feedergen/feedergen/core/StopCandidate") :
    OwnMet l Z y_37 jdk_56_method_4_code 3 (some (.object "java/util/List")) ws Rm85 #[(.ref a1)] h0 (Q85 Z a1 a2 k3 h0 n0) := by
  refine own_body (plainFor_of_name pn_13) (ef85 a1) ?_
  intro p e s m below meth c s₁ hx hby hml hown hnm hret hZ X0 e0
  have N0 := Fr.nil n0
  obtain ⟨cl4, Ar4, q4, S4, M4, Hs4, G4⟩ := id V_a1
  obtain ⟨T5, h5, k5, X5, e5, E5, A5, B5, O5, st5⟩ := newRE X0 hx hZ hown (w_238 hw) (w_74 hw) e0 (g := (mkF m 2 #[.val (.ref a1), .unset, .unset] [(.int (4 : Int32))])) rfl (hb hby d34_2) rfl (by decide) (cap := 4) (by decide) (by decide) (by decide) (by decide) (ad := "[Ljava/lang/Object;") (by decide)
  obtain ⟨b5, g5⟩ : ∃ z, z = h0.size := ⟨_, rfl⟩
  rw [← g5] at A5 B5 st5
  have s0 := E5.1
  have Vn5 : Arv Z h5 b5 k5 (.object "java/lang/Object") (4 : Int32) [.null, .null, .null, .null] .null := (Arv.new A5 (by decide)).pad (pad_rep [] .null 4)
  have Va6 := (V_a1.ext E5)
  obtain ⟨cl7, Ar7, q7, S7, M7, Hs7, G7⟩ := id Va6
  have hin8 : ¬ ((0 : Int32) < 0 ∨ cl7.slots.size ≤ ((0 : Int32)).toNatClampNeg) := inb_of S7 ⟨(by decide : ¬ ((0 : Int32) < (0 : Int32))), (by decide : (0 : Int32) < (4 : Int32))⟩
  have z1 := Nat.le_trans Z0 s0
  obtain ⟨_, T9, L9, X9, hQ9, st9⟩ := own_callS X5 hx hZ hown (y := y_24) (w_239 hw) (w_190 hw) (w_191 hw) (w_192 hw) (rm28 l Z a0 hw [] a2 h5 n0 z1) e5 (Ls := #[.val (.ref a1), .val (.ref b5), .val (.int (0 : Int32))]) (by rw [hml]; rfl) (argsL := [(.ref a2)]) (rest := [(.int (0 : Int32)), (.ref b5)]) (lenOf pd_13 rfl) (hb hby d34_19) (W := 2)
  obtain ⟨rfl, Nq9, e9⟩ := hQ9
  have N9 := Fr.app N0 Nq9
  obtain ⟨cl10, Ar10, q10, S10, M10, Hs10, G10⟩ := id Vn5
  have hin11 : ¬ ((0 : Int32) < 0 ∨ cl10.slots.size ≤ ((0 : Int32)).toNatClampNeg) := inb_of S10 ⟨(by decide : ¬ ((0 : Int32) < (0 : Int32))), (by decide : (0 : Int32) < (4 : Int32))⟩
  have Ex12 := (E_a2.ext E5)
  obtain ⟨T13, h13, X13, e13, W13, st13⟩ := stR X9 hx hZ e9 Ar10 (j := (0 : Int32)) hin11 rfl (Sto.ofV Ar10 q10 O5 (Ins.of_exa Ex12 (w_75 hw))) (g := (mkF m 22 #[.val (.ref a1), .val (.ref b5), .val (.int (0 : Int32))] [(.ref a2), (.int (0 : Int32)), (.ref b5)])) rfl rfl (hb hby d34_22)
  have s1 := (Keep.of_wr W13).1
  have g_b5 : n0 ≤ b5 := Nat.le_trans Z0 (Nat.le_of_eq g5.symm)
  have N13 := Fr.snoc X13 N9 g_b5
  have Vs13 : Arv Z h13 b5 k5 (.object "java/lang/Object") (4 : Int32) [(.ref a2), .null, .null, .null] .null := Arv.set Ar10 q10 S10 M10 Hs10 G10 rfl W13 0 rfl (Nat.le_of_ble_eq_true rfl)
  have ne_a1_b5 := Nat.ne_of_lt (Nat.lt_of_lt_of_le V_a1.lt (Nat.le_of_eq g5.symm))
  have Va14 := (Va6.other W13 ne_a1_b5)
  obtain ⟨cl15, Ar15, q15, S15, M15, Hs15, G15⟩ := id Va14
  have hin16 : ¬ ((1 : Int32) < 0 ∨ cl15.slots.size ≤ ((1 : Int32)).toNatClampNeg) := inb_of S15 ⟨(by decide : ¬ ((1 : Int32) < (0 : Int32))), (by decide : (1 : Int32) < (4 : Int32))⟩
  have z2 := Nat.le_trans Z0 (Nat.le_trans s0 s1)
  obtain ⟨_, T17, L17, X17, hQ17, st17⟩ := own_callS X13 hx hZ hown (y := y_24) (w_239 hw) (w_190 hw) (w_191 hw) (w_192 hw) (rm28 l Z a0 hw [] a2 h13 n0 z2) e13 (Ls := #[.val (.ref a1), .val (.ref b5), .val (.int (1 : Int32))]) (by rw [hml]; rfl) (argsL := [(.ref a2)]) (rest := [(.int (1 : Int32)), (.ref b5)]) (lenOf pd_13 rfl) (hb hby d34_19) (W := 2)
  obtain ⟨rfl, Nq17, e17⟩ := hQ17
  have N17 := Fr.app N13 Nq17
  obtain ⟨cl18, Ar18, q18, S18, M18, Hs18, G18⟩ := id Vs13
  have hin19 : ¬ ((1 : Int32) < 0 ∨ cl18.slots.size ≤ ((1 : Int32)).toNatClampNeg) := inb_of S18 ⟨(by decide : ¬ ((1 : Int32) < (0 : Int32))), (by decide : (1 : Int32) < (4 : Int32))⟩
  have Ex20 := (Ex12.wr W13)
  obtain ⟨T21, h21, X21, e21, W21, st21⟩ := stR X17 hx hZ e17 Ar18 (j := (1 : Int32)) hin19 rfl (Sto.ofV Ar18 q18 O5 (Ins.of_exa Ex20 (w_75 hw))) (g := (mkF m 22 #[.val (.ref a1), .val (.ref b5), .val (.int (1 : Int32))] [(.ref a2), (.int (1 : Int32)), (.ref b5)])) rfl rfl (hb hby d34_22)
  have s2 := (Keep.of_wr W21).1
  have N21 := Fr.snoc X21 N17 g_b5
  have Vs21 : Arv Z h21 b5 k5 (.object "java/lang/Object") (4 : Int32) [(.ref a2), (.ref a2), .null, .null] .null := Arv.set Ar18 q18 S18 M18 Hs18 G18 rfl W21 1 rfl (Nat.le_of_ble_eq_true rfl)
  have Va22 := (Va14.other W21 ne_a1_b5)
  obtain ⟨cl23, Ar23, q23, S23, M23, Hs23, G23⟩ := id Va22
  have hin24 : ¬ ((2 : Int32) < 0 ∨ cl23.slots.size ≤ ((2 : Int32)).toNatClampNeg) := inb_of S23 ⟨(by decide : ¬ ((2 : Int32) < (0 : Int32))), (by decide : (2 : Int32) < (4 : Int32))⟩
  have z3 := Nat.le_trans Z0 (Nat.le_trans (Nat.le_trans s0 s1) s2)
  obtain ⟨_, T25, L25, X25, hQ25, st25⟩ := own_callS X21 hx hZ hown (y := y_24) (w_239 hw) (w_190 hw) (w_191 hw) (w_192 hw) (rm28 l Z a0 hw [] a2 h21 n0 z3) e21 (Ls := #[.val (.ref a1), .val (.ref b5), .val (.int (2 : Int32))]) (by rw [hml]; rfl) (argsL := [(.ref a2)]) (rest := [(.int (2 : Int32)), (.ref b5)]) (lenOf pd_13 rfl) (hb hby d34_19) (W := 2)
  obtain ⟨rfl, Nq25, e25⟩ := hQ25
  have N25 := Fr.app N21 Nq25
  obtain ⟨cl26, Ar26, q26, S26, M26, Hs26, G26⟩ := id Vs21
  have hin27 : ¬ ((2 : Int32) < 0 ∨ cl26.slots.size ≤ ((2 : Int32)).toNatClampNeg) := inb_of S26 ⟨(by decide : ¬ ((2 : Int32) < (0 : Int32))), (by decide : (2 : Int32) < (4 : Int32))⟩
  have Ex28 := (Ex20.wr W21)
  obtain ⟨T29, h29, X29, e29, W29, st29⟩ := stR X25 hx hZ e25 Ar26 (j := (2 : Int32)) hin27 rfl (Sto.ofV Ar26 q26 O5 (Ins.of_exa Ex28 (w_75 hw))) (g := (mkF m 22 #[.val (.ref a1), .val (.ref b5), .val (.int (2 : Int32))] [(.ref a2), (.int (2 : Int32)), (.ref b5)])) rfl rfl (hb hby d34_22)
  have s3 := (Keep.of_wr W29).1
  have N29 := Fr.snoc X29 N25 g_b5
  have Vs29 : Arv Z h29 b5 k5 (.object "java/lang/Object") (4 : Int32) [(.ref a2), (.ref a2), (.ref a2), .null] .null := Arv.set Ar26 q26 S26 M26 Hs26 G26 rfl W29 2 rfl (Nat.le_of_ble_eq_true rfl)
  have Va30 := (Va22.other W29 ne_a1_b5)
  obtain ⟨cl31, Ar31, q31, S31, M31, Hs31, G31⟩ := id Va30
  have hin32 : ¬ ((3 : Int32) < 0 ∨ cl31.slots.size ≤ ((3 : Int32)).toNatClampNeg) := inb_of S31 ⟨(by decide : ¬ ((3 : Int32) < (0 : Int32))), (by decide : (3 : Int32) < (4 : Int32))⟩
  have z4 := Nat.le_trans Z0 (Nat.le_trans (Nat.le_trans (Nat.le_trans s0 s1) s2) s3)
  obtain ⟨_, T33, L33, X33, hQ33, st33⟩ := own_callS X29 hx hZ hown (y := y_24) (w_239 hw) (w_190 hw) (w_191 hw) (w_192 hw) (rm28 l Z a0 hw [] a2 h29 n0 z4) e29 (Ls := #[.val (.ref a1), .val (.ref b5), .val (.int (3 : Int32))]) (by rw [hml]; rfl) (argsL := [(.ref a2)]) (rest := [(.int (3 : Int32)), (.ref b5)]) (lenOf pd_13 rfl) (hb hby d34_19) (W := 2)
  obtain ⟨rfl, Nq33, e33⟩ := hQ33
  have N33 := Fr.app N29 Nq33
  obtain ⟨cl34, Ar34, q34, S34, M34, Hs34, G34⟩ := id Vs29
  have hin35 : ¬ ((3 : Int32) < 0 ∨ cl34.slots.size ≤ ((3 : Int32)).toNatClampNeg) := inb_of S34 ⟨(by decide : ¬ ((3 : Int32) < (0 : Int32))), (by decide : (3 : Int32) < (4 : Int32))⟩
  have Ex36 := (Ex28.wr W29)
  obtain ⟨T37, h37, X37, e37, W37, st37⟩ := stR X33 hx hZ e33 Ar34 (j := (3 : Int32)) hin35 rfl (Sto.ofV Ar34 q34 O5 (Ins.of_exa Ex36 (w_75 hw))) (g := (mkF m 22 #[.val (.ref a1), .val (.ref b5), .val (.int (3 : Int32))] [(.ref a2), (.int (3 : Int32)), (.ref b5)])) rfl rfl (hb hby d34_22)
  have s4 := (Keep.of_wr W37).1
  have N37 := Fr.snoc X37 N33 g_b5
  have Vs37 : Arv Z h37 b5 k5 (.object "java/lang/Object") (4 : Int32) [(.ref a2), (.ref a2), (.ref a2), (.ref a2)] .null := Arv.set Ar34 q34 S34 M34 Hs34 G34 rfl W37 3 rfl (Nat.le_of_ble_eq_true rfl)
  have Va38 := (Va30.other W37 ne_a1_b5)
  obtain ⟨cl39, Ar39, q39, S39, M39, Hs39, G39⟩ := id Va38
  obtain ⟨T40, h40, X40, e40, E40, A40, D40, -, st40⟩ := newO X37 hx hZ hown (w_125 hw) (w_240 hw) (w_241 hw) e37 (g := (mkF m 29 #[.val (.ref a1), .val (.ref b5), .val (.int (4 : Int32))] [])) rfl (hb hby d34_29) (by decide) (by decide)
  obtain ⟨b40, g40⟩ : ∃ z, z = h37.size := ⟨_, rfl⟩
  rw [← g40] at A40 D40 st40
  have s5 := E40.1
  have Fn40_elements : Fld Z h40 b40 "java/util/ImmutableCollections$ListN" "elements" "[Ljava/lang/Object;" .null := D40 (Or.inr (w_251 hw)) (ty := (.array (.object "java/lang/Object"))) (by decide)
  have Fn40_allowNulls : Fld Z h40 b40 "java/util/ImmutableCollections$ListN" "allowNulls" "Z" (.int (0 : Int32)) := D40 (Or.inr (w_253 hw)) (ty := .boolean) (by decide)
  have z5 := Nat.le_trans Z0 (Nat.le_trans (Nat.le_trans (Nat.le_trans (Nat.le_trans s0 s1) s2) s3) s4)
  have g_b40 : n0 ≤ b40 := Nat.le_trans z5 (Nat.le_of_eq g40.symm)
  have z6 := Nat.le_trans Z0 (Nat.le_trans (Nat.le_trans (Nat.le_trans (Nat.le_trans (Nat.le_trans s0 s1) s2) s3) s4) s5)
  obtain ⟨_, T41, L41, X41, hQ41, st41⟩ := own_specialNest X40 hx hZ hown (y := y_36) (a := b40) (own_mvNest hZ (w_242 hw)) (w_243 hw) (w_241 hw) (w_245 hw) (rm59 l Z a0 hw [] b40 b5 h40 n0 z6 Fn40_elements A40 g_b40 Fn40_allowNulls) e40 (Ls := #[.val (.ref a1), .val (.ref b5), .val (.int (4 : Int32))]) (by rw [hml]; rfl) (argsL := [(.ref b5), (.int (0 : Int32))]) (rest := [(.ref b40)]) (lenOf pd_21 rfl) (hb hby d34_35) (W := 1)
  obtain ⟨rfl, Nq41, K41, o41_0, o41_1, o41_2⟩ := hQ41
  have N41 := Fr.app N37 Nq41
  have s6 := K41.1
  have sz_b40 : h0.size ≤ b40 := Nat.le_trans (Nat.le_trans (Nat.le_trans (Nat.le_trans (Nat.le_trans s0 s1) s2) s3) s4) (Nat.le_of_eq g40.symm)
  have sz_b5 : h0.size ≤ b5 := (Nat.le_of_eq g5.symm)
  have Ex42 := ((((((B5.wr W13).wr W21).wr W29).wr W37).ext E40).keep K41)
  have ne_b5_b40 := Nat.ne_of_lt (Nat.lt_of_lt_of_le Vs37.lt (Nat.le_of_eq g40.symm))
  have Va43 := ((Vs37.ext E40).keep K41 (ninS ne_b5_b40 nin0))
  have Kp0 : Keep h0 h5 [] := (Keep.refl h0 []).ext E5
  have Kp1 : Keep h0 h13 [] := Kp0.wr W13 (Or.inr sz_b5)
  have Kp2 : Keep h0 h21 [] := Kp1.wr W21 (Or.inr sz_b5)
  have Kp3 : Keep h0 h29 [] := Kp2.wr W29 (Or.inr sz_b5)
  have Kp4 : Keep h0 h37 [] := Kp3.wr W37 (Or.inr sz_b5)
  have Kp5 : Keep h0 h40 [] := Kp4.ext E40
  have Kp6 : Keep h0 T41.heap [] := Kp5.trans K41 (allS (Or.inr sz_b40) all0)
  refine ⟨T41, _, _, _, (some (.ref b40)), X41, nofun, by decide, by decide, ?_, fun fs hr => ?_⟩
  · show Q85 Z a1 a2 k3 h0 n0 _ T41.heap _
    exact ⟨b40, b5, k5, rfl, N41, Kp6, sz_b40, o41_0, o41_1, o41_2, sz_b5, Ex42, O5, Va43, (Ne.symm ne_b5_b40)⟩
  · show Steps p.tables e below (s₁.setTop (mkF m 0 #[.val (.ref a1), .unset, .unset] [])) _
    refine XS.aloadN X0.here hx rfl (hb hby d34_0) rfl rfl ?_
    refine X0.arraylength hx (by rw [e0]; exact Ar4.1) (State.isArrayOf_alike hZ.alike Ar4.2.1) (g := (mkF m 1 #[.val (.ref a1), .unset, .unset] [(.ref a1)])) rfl rfl (hb hby d34_1) _ ?_
    show Steps p.tables e below (s₁.setTop (mkF m 2 #[.val (.ref a1), .unset, .unset] [(.int cl4.slots.size.toInt32)])) _
    rw [len_of S4 M4]
    refine st5 _ ?_
    refine XS.astoreN X5.here hx rfl (hb hby d34_5) rfl rfl (l' := #[.val (.ref a1), .val (.ref b5), .unset]) rfl ?_
    refine XS.iconst X5.here hx rfl (hb hby d34_6) ?_
    refine XS.istoreN X5.here hx rfl (hb hby d34_7) rfl (l' := #[.val (.ref a1), .val (.ref b5), .val (.int (0 : Int32))]) rfl ?_
    refine XS.iloadN X5.here hx rfl (hb hby d34_8) rfl ?_
    refine XS.aloadN X5.here hx rfl (hb hby d34_9) rfl rfl ?_
    refine X5.arraylength hx (by rw [e5]; exact Ar7.1) (State.isArrayOf_alike hZ.alike Ar7.2.1) (g := (mkF m 10 #[.val (.ref a1), .val (.ref b5), .val (.int (0 : Int32))] [(.ref a1), (.int (0 : Int32))])) rfl rfl (hb hby d34_10) _ ?_
    show Steps p.tables e below (T5.setTop (mkF m 11 #[.val (.ref a1), .val (.ref b5), .val (.int (0 : Int32))] [(.int cl7.slots.size.toInt32), (.int (0 : Int32))])) _
    rw [len_of S7 M7]
    refine XS.icmpNo X5.here hx rfl (hb hby d34_11) rfl (tlt ((by decide : (0 : Int32) < (4 : Int32)) : (0 : Int32) < (4 : Int32))).2.1 ?_
    refine XS.aloadN X5.here hx rfl (hb hby d34_14) rfl rfl ?_
    refine XS.iloadN X5.here hx rfl (hb hby d34_15) rfl ?_
    refine XS.aloadN X5.here hx rfl (hb hby d34_16) rfl rfl ?_
    refine XS.iloadN X5.here hx rfl (hb hby d34_17) rfl ?_
    refine X5.aaload hx (j := (0 : Int32)) (v := (.ref a2)) (by rw [e5]; exact Ar7.1) (State.isArrayOf_alike hZ.alike Ar7.2.1) rfl Ar7.2.2 hin8 (Has.at Hs7 hin8 rfl) (g := (mkF m 18 #[.val (.ref a1), .val (.ref b5), .val (.int (0 : Int32))] [(.int (0 : Int32)), (.ref a1), (.int (0 : Int32)), (.ref b5)])) rfl rfl (hb hby d34_18) _ ?_
    refine st9 _ ?_
    refine st13 _ ?_
    refine XS.iinc X13.here hx rfl (hb hby d34_23) rfl (l' := #[.val (.ref a1), .val (.ref b5), .val (.int (1 : Int32))]) rfl ?_
    refine XS.goto X13.here hx rfl (pc0 := 26) (pc' := 8) rfl (hb hby d34_26) (by decide) (by decide) ?_
    refine XS.iloadN X13.here hx rfl (hb hby d34_8) rfl ?_
    show Steps p.tables e below (T13.setTop (mkF m 9 #[.val (.ref a1), .val (.ref b5), .val (.int (1 : Int32))] [(.int (1 : Int32))])) _
    refine XS.aloadN X13.here hx rfl (hb hby d34_9) rfl rfl ?_
    refine X13.arraylength hx (by rw [e13]; exact Ar15.1) (State.isArrayOf_alike hZ.alike Ar15.2.1) (g := (mkF m 10 #[.val (.ref a1), .val (.ref b5), .val (.int (1 : Int32))] [(.ref a1), (.int (1 : Int32))])) rfl rfl (hb hby d34_10) _ ?_
    show Steps p.tables e below (T13.setTop (mkF m 11 #[.val (.ref a1), .val (.ref b5), .val (.int (1 : Int32))] [(.int cl15.slots.size.toInt32), (.int (1 : Int32))])) _
    rw [len_of S15 M15]
    refine XS.icmpNo X13.here hx rfl (hb hby d34_11) rfl (tlt ((by decide : (1 : Int32) < (4 : Int32)) : (1 : Int32) < (4 : Int32))).2.1 ?_
    refine XS.aloadN X13.here hx rfl (hb hby d34_14) rfl rfl ?_
    refine XS.iloadN X13.here hx rfl (hb hby d34_15) rfl ?_
    refine XS.aloadN X13.here hx rfl (hb hby d34_16) rfl rfl ?_
    refine XS.iloadN X13.here hx rfl (hb hby d34_17) rfl ?_
    refine X13.aaload hx (j := (1 : Int32)) (v := (.ref a2)) (by rw [e13]; exact Ar15.1) (State.isArrayOf_alike hZ.alike Ar15.2.1) rfl Ar15.2.2 hin16 (Has.at Hs15 hin16 rfl) (g := (mkF m 18 #[.val (.ref a1), .val (.ref b5), .val (.int (1 : Int32))] [(.int (1 : Int32)), (.ref a1), (.int (1 : Int32)), (.ref b5)])) rfl rfl (hb hby d34_18) _ ?_
    refine st17 _ ?_
    refine st21 _ ?_
    refine XS.iinc X21.here hx rfl (hb hby d34_23) rfl (l' := #[.val (.ref a1), .val (.ref b5), .val (.int (2 : Int32))]) rfl ?_
    refine XS.goto X21.here hx rfl (pc0 := 26) (pc' := 8) rfl (hb hby d34_26) (by decide) (by decide) ?_
    refine XS.iloadN X21.here hx rfl (hb hby d34_8) rfl ?_
    show Steps p.tables e below (T21.setTop (mkF m 9 #[.val (.ref a1), .val (.ref b5), .val (.int (2 : Int32))] [(.int (2 : Int32))])) _
    refine XS.aloadN X21.here hx rfl (hb hby d34_9) rfl rfl ?_
    refine X21.arraylength hx (by rw [e21]; exact Ar23.1) (State.isArrayOf_alike hZ.alike Ar23.2.1) (g := (mkF m 10 #[.val (.ref a1), .val (.ref b5), .val (.int (2 : Int32))] [(.ref a1), (.int (2 : Int32))])) rfl rfl (hb hby d34_10) _ ?_
    show Steps p.tables e below (T21.setTop (mkF m 11 #[.val (.ref a1), .val (.ref b5), .val (.int (2 : Int32))] [(.int cl23.slots.size.toInt32), (.int (2 : Int32))])) _
    rw [len_of S23 M23]
    refine XS.icmpNo X21.here hx rfl (hb hby d34_11) rfl (tlt ((by decide : (2 : Int32) < (4 : Int32)) : (2 : Int32) < (4 : Int32))).2.1 ?_
    refine XS.aloadN X21.here hx rfl (hb hby d34_14) rfl rfl ?_
    refine XS.iloadN X21.here hx rfl (hb hby d34_15) rfl ?_
    refine XS.aloadN X21.here hx rfl (hb hby d34_16) rfl rfl ?_
    refine XS.iloadN X21.here hx rfl (hb hby d34_17) rfl ?_
    refine X21.aaload hx (j := (2 : Int32)) (v := (.ref a2)) (by rw [e21]; exact Ar23.1) (State.isArrayOf_alike hZ.alike Ar23.2.1) rfl Ar23.2.2 hin24 (Has.at Hs23 hin24 rfl) (g := (mkF m 18 #[.val (.ref a1), .val (.ref b5), .val (.int (2 : Int32))] [(.int (2 : Int32)), (.ref a1), (.int (2 : Int32)), (.ref b5)])) rfl rfl (hb hby d34_18) _ ?_
    refine st25 _ ?_
    refine st29 _ ?_
    refine XS.iinc X29.here hx rfl (hb hby d34_23) rfl (l' := #[.val (.ref a1), .val (.ref b5), .val (.int (3 : Int32))]) rfl ?_
    refine XS.goto X29.here hx rfl (pc0 := 26) (pc' := 8) rfl (hb hby d34_26) (by decide) (by decide) ?_
    refine XS.iloadN X29.here hx rfl (hb hby d34_8) rfl ?_
    show Steps p.tables e below (T29.setTop (mkF m 9 #[.val (.ref a1), .val (.ref b5), .val (.int (3 : Int32))] [(.int (3 : Int32))])) _
    refine XS.aloadN X29.here hx rfl (hb hby d34_9) rfl rfl ?_
    refine X29.arraylength hx (by rw [e29]; exact Ar31.1) (State.isArrayOf_alike hZ.alike Ar31.2.1) (g := (mkF m 10 #[.val (.ref a1), .val (.ref b5), .val (.int (3 : Int32))] [(.ref a1), (.int (3 : Int32))])) rfl rfl (hb hby d34_10) _ ?_
    show Steps p.tables e below (T29.setTop (mkF m 11 #[.val (.ref a1), .val (.ref b5), .val (.int (3 : Int32))] [(.int cl31.slots.size.toInt32), (.int (3 : Int32))])) _
    rw [len_of S31 M31]
    refine XS.icmpNo X29.here hx rfl (hb hby d34_11) rfl (tlt ((by decide : (3 : Int32) < (4 : Int32)) : (3 : Int32) < (4 : Int32))).2.1 ?_
    refine XS.aloadN X29.here hx rfl (hb hby d34_14) rfl rfl ?_
    refine XS.iloadN X29.here hx rfl (hb hby d34_15) rfl ?_
    refine XS.aloadN X29.here hx rfl (hb hby d34_16) rfl rfl ?_
    refine XS.iloadN X29.here hx rfl (hb hby d34_17) rfl ?_
    refine X29.aaload hx (j := (3 : Int32)) (v := (.ref a2)) (by rw [e29]; exact Ar31.1) (State.isArrayOf_alike hZ.alike Ar31.2.1) rfl Ar31.2.2 hin32 (Has.at Hs31 hin32 rfl) (g := (mkF m 18 #[.val (.ref a1), .val (.ref b5), .val (.int (3 : Int32))] [(.int (3 : Int32)), (.ref a1), (.int (3 : Int32)), (.ref b5)])) rfl rfl (hb hby d34_18) _ ?_
    refine st33 _ ?_
    refine st37 _ ?_
    refine XS.iinc X37.here hx rfl (hb hby d34_23) rfl (l' := #[.val (.ref a1), .val (.ref b5), .val (.int (4 : Int32))]) rfl ?_
    refine XS.goto X37.here hx rfl (pc0 := 26) (pc' := 8) rfl (hb hby d34_26) (by decide) (by decide) ?_
    refine XS.iloadN X37.here hx rfl (hb hby d34_8) rfl ?_
    show Steps p.tables e below (T37.setTop (mkF m 9 #[.val (.ref a1), .val (.ref b5), .val (.int (4 : Int32))] [(.int (4 : Int32))])) _
    refine XS.aloadN X37.here hx rfl (hb hby d34_9) rfl rfl ?_
    refine X37.arraylength hx (by rw [e37]; exact Ar39.1) (State.isArrayOf_alike hZ.alike Ar39.2.1) (g := (mkF m 10 #[.val (.ref a1), .val (.ref b5), .val (.int (4 : Int32))] [(.ref a1), (.int (4 : Int32))])) rfl rfl (hb hby d34_10) _ ?_
    show Steps p.tables e below (T37.setTop (mkF m 11 #[.val (.ref a1), .val (.ref b5), .val (.int (4 : Int32))] [(.int cl39.slots.size.toInt32), (.int (4 : Int32))])) _
    rw [len_of S39 M39]
    refine XS.icmpYes X37.here hx rfl (pc0 := 11) (pc' := 29) rfl (hb hby d34_11) rfl (flt ((by decide : ¬ ((4 : Int32) < (4 : Int32))) : ¬ ((4 : Int32) < (4 : Int32)))).2.1 (by decide) (by decide) ?_
    refine st40 _ ?_
    refine XS.dup X40.here hx rfl (hb hby d34_32) rfl rfl ?_
    refine XS.aloadN X40.here hx rfl (hb hby d34_33) rfl rfl ?_
    refine XS.iconst X40.here hx rfl (hb hby d34_34) ?_
    refine st41 _ ?_
    exact retOut X41 hx hret rfl (Or.inr (Or.inr (Or.inr (Or.inr ⟨rfl, rfl, rfl⟩)))) (hb hby d34_38) hr
-- java/util/List.of([Ljava/lang/Object;)Ljava/util/List;
abbrev Rm86 : Room := { frames := 6, cells := 2, slots := 6, locals := 77 }
def Q86 (Z : State) (a1 : Addr) (a2 : Addr) (k3 : ClassId) (h0 : Heap) (n0 : Nat) (v : Option Value) (h : Heap) (L : List Loc) : Prop := ∃ b5_b40 : Addr, ∃ b5_b5 : Addr, ∃ k5_k5 : ClassId, v = some (.ref b5_b40) ∧ Fr n0 L ∧ Keep h0 h [] ∧ h0.size ≤ b5_b40 ∧ Exa Z h b5_b40 "java/util/ImmutableCollections$ListN" ∧ Fld Z h b5_b40 "java/util/ImmutableCollections$ListN" "allowNulls" "Z" (.int (0 : Int32)) ∧ Fld Z h b5_b40 "java/util/ImmutableCollections$ListN" "elements" "[Ljava/lang/Object;" (.ref b5_b5) ∧ h0.size ≤ b5_b5 ∧ Exa Z h b5_b5 "[Ljava/lang/Object;" ∧ Ovr Z k5_k5 "java/lang/Object" ∧ Arv Z h b5_b5 k5_k5 (.object "java/lang/Object") (4 : Int32) [(.ref a2), (.ref a2), (.ref a2), (.ref a2)] .null ∧ b5_b40 ≠ b5_b5
theorem ef86 (a1 : Addr) (m : MethodId) : entryFrame m #[(.ref a1)] 2 = mkF m 0 #[.val (.ref a1), .unset] [] := by first | (simp [entryFrame, mkF, argsToLocals, Value.category]; done) | rfl
theorem rm86 (l : Launch) (Z : State) (a0 : Array Value) (hw : ∀ d ∈ tables_1, d.before a0 Z = true) (ws : List Jvm.Cond) (a1 : Addr) (a2 : Addr) (k3 : ClassId) (h0 : Heap) (n0 : Nat) (Z0 : n0 ≤ h0.size) (V_a1 : Arv Z h0 a1 k3 (.object "java/lang/Object") (4 : Int32) [(.ref a2), (.ref a2), (.ref a2), (.ref a2)] .null) (E_a2 : Exa Z h0 a2 "com/example/feedergen/feedergen/core/StopCandidate") :
    OwnMet l Z y_26 jdk_40_method_47_code 2 (some (.object "java/util/List")) ws Rm86 #[(.ref a1)] h0 (Q86 Z a1 a2 k3 h0 n0) := by
  refine own_body (plainFor_of_name pn_12) (ef86 a1) ?_
  intro p e s m below meth c s₁ hx hby hml hown hnm hret hZ X0 e0
  have N0 := Fr.nil n0
  obtain ⟨cl4, Ar4, q4, S4, M4, Hs4, G4⟩ := id V_a1
  obtain ⟨_, T5, L5, X5, hQ5, st5⟩ := own_callS X0 hx hZ hown (y := y_37) (w_235 hw) (w_236 hw) (w_118 hw) (w_237 hw) (rm85 l Z a0 hw [] a1 a2 k3 h0 n0 Z0 V_a1 E_a2) e0 (Ls := #[.val (.ref a1), .unset]) (by rw [hml]; rfl) (argsL := [(.ref a1)]) (rest := []) (lenOf pd_15 rfl) (hb hby d24_60) (W := 0)
  obtain ⟨b5_b40, b5_b5, k5_k5, rfl, Nq5, K5, o5_0, o5_1, o5_2, o5_3, o5_4, o5_5, o5_6, o5_7, o5_8⟩ := hQ5
  have N5 := Fr.app N0 Nq5
  have s0 := K5.1
  have sz_b5_b40 : h0.size ≤ b5_b40 := o5_0
  have sz_b5_b5 : h0.size ≤ b5_b5 := o5_4
  have Kp0 : Keep h0 T5.heap [] := (Keep.refl h0 []).trans K5 all0
  refine ⟨T5, _, _, _, (some (.ref b5_b40)), X5, nofun, by decide, by decide, ?_, fun fs hr => ?_⟩
  · show Q86 Z a1 a2 k3 h0 n0 _ T5.heap _
    exact ⟨b5_b40, b5_b5, k5_k5, rfl, N5, Kp0, sz_b5_b40, o5_1, o5_2, o5_3, sz_b5_b5, o5_5, o5_6, o5_7, o5_8⟩
  · show Steps p.tables e below (s₁.setTop (mkF m 0 #[.val (.ref a1), .unset] [])) _
    refine XS.aloadN X0.here hx rfl (hb hby d24_0) rfl rfl ?_
    refine X0.arraylength hx (by rw [e0]; exact Ar4.1) (State.isArrayOf_alike hZ.alike Ar4.2.1) (g := (mkF m 1 #[.val (.ref a1), .unset] [(.ref a1)])) rfl rfl (hb hby d24_1) _ ?_
    show Steps p.tables e below (s₁.setTop (mkF m 2 #[.val (.ref a1), .unset] [(.int cl4.slots.size.toInt32)])) _
    rw [len_of S4 M4]
    refine XS.tswOut X0.here hx rfl (pc0 := 2) (pc' := 59) rfl (hb hby d24_2) rfl (by decide) (by decide) (by decide) ?_
    refine XS.aloadN X0.here hx rfl (hb hby d24_59) rfl rfl ?_
    refine st5 _ ?_
    exact retOut X5 hx hret rfl (Or.inr (Or.inr (Or.inr (Or.inr ⟨rfl, rfl, rfl⟩)))) (hb hby d24_63) hr
-- java/util/ImmutableCollections.listCopy(Ljava/util/Collection;)Ljava/util/List;
abbrev Rm87 : Room := { frames := 7, cells := 3, slots := 10, locals := 90 }
def Q87 (Z : State) (a1 : Addr) (a5 : Addr) (a6 : Addr) (a7 : Addr) (k8 : ClassId) (h0 : Heap) (n0 : Nat) (v : Option Value) (h : Heap) (L : List Loc) : Prop := ∃ b11_b5_b40 : Addr, ∃ b11_b5_b5 : Addr, ∃ k11_k5_k5 : ClassId, v = some (.ref b11_b5_b40) ∧ Fr n0 L ∧ Keep h0 h [] ∧ h0.size ≤ b11_b5_b40 ∧ Exa Z h b11_b5_b40 "java/util/ImmutableCollections$ListN" ∧ Fld Z h b11_b5_b40 "java/util/ImmutableCollections$ListN" "allowNulls" "Z" (.int (0 : Int32)) ∧ Fld Z h b11_b5_b40 "java/util/ImmutableCollections$ListN" "elements" "[Ljava/lang/Object;" (.ref b11_b5_b5) ∧ h0.size ≤ b11_b5_b5 ∧ Exa Z h b11_b5_b5 "[Ljava/lang/Object;" ∧ Ovr Z k11_k5_k5 "java/lang/Object" ∧ Arv Z h b11_b5_b5 k11_k5_k5 (.object "java/lang/Object") (4 : Int32) [(.ref a7), (.ref a7), (.ref a7), (.ref a7)] .null ∧ b11_b5_b40 ≠ b11_b5_b5
theorem ef87 (a1 : Addr) (m : MethodId) : entryFrame m #[(.ref a1)] 2 = mkF m 0 #[.val (.ref a1), .unset] [] := by first | (simp [entryFrame, mkF, argsToLocals, Value.category]; done) | rfl
theorem rm87 (l : Launch) (Z : State) (a0 : Array Value) (hw : ∀ d ∈ tables_1, d.before a0 Z = true) (ws : List Jvm.Cond) (a1 : Addr) (a5 : Addr) (a6 : Addr) (a7 : Addr) (k8 : ClassId) (h0 : Heap) (n0 : Nat) (Z0 : n0 ≤ h0.size) (E_a1 : Exa Z h0 a1 "java/util/ArrayList") (F_size_a1 : Fld Z h0 a1 "java/util/ArrayList" "size" "I" (.int (4 : Int32))) (F_elementData_a1 : Fld Z h0 a1 "java/util/ArrayList" "elementData" "[Ljava/lang/Object;" (.ref a5)) (E_a5 : Exa Z h0 a5 "[Ljava/lang/Object;") (M_1 : OwnMir Z "[Ljava/lang/Object;" a6) (V_a5 : Arv Z h0 a5 k8 (.object "java/lang/Object") (10 : Int32) [(.ref a7), (.ref a7), (.ref a7), (.ref a7), .null, .null, .null, .null, .null, .null] .null) (E_a7 : Exa Z h0 a7 "com/example/feedergen/feedergen/core/StopCandidate") :
    OwnMet l Z y_27 jdk_56_method_3_code 2 (some (.object "java/util/List")) ws Rm87 #[(.ref a1)] h0 (Q87 Z a1 a5 a6 a7 k8 h0 n0) := by
  refine own_body (plainFor_of_name pn_13) (ef87 a1) ?_
  intro p e s m below meth c s₁ hx hby hml hown hnm hret hZ X0 e0
  have N0 := Fr.nil n0
  obtain ⟨T2, X2, e2, st2⟩ := instNo X0 hx hZ hown (w_120 hw) e0 E_a1 (own_NSno (w_121 hw) (w_169 hw) (NS.step (w_121 hw) (NS.step (w_122 hw) (NS.step (w_123 hw) (own_NSroot (w_124 hw) (w_169 hw) (by decide)) (by decide)) (by decide)) (by decide)) (by decide)) (g := (mkF m 1 #[.val (.ref a1), .unset] [(.ref a1)])) rfl rfl (hb hby d18_1)
  obtain ⟨T3, X3, e3, st3⟩ := instNo X2 hx hZ hown (w_125 hw) e2 E_a1 (own_NSno (w_121 hw) (w_240 hw) (NS.step (w_121 hw) (NS.step (w_122 hw) (NS.step (w_123 hw) (own_NSroot (w_124 hw) (w_240 hw) (by decide)) (by decide)) (by decide)) (by decide)) (by decide)) (g := (mkF m 8 #[.val (.ref a1), .unset] [(.ref a1)])) rfl rfl (hb hby d18_8)
  obtain ⟨_, T4, L4, X4, hQ4, st4⟩ := own_iface X3 hx hZ hown (y := y_16) (z := y_15) E_a1 (w_126 hw) (w_127 hw) (w_128 hw) (w_129 hw) (w_130 hw) (w_131 hw) (w_132 hw) (w_133 hw) (w_23 hw) (w_134 hw) (rm80 l Z a0 hw [] a1 h0 n0 Z0 F_size_a1) e3 (Ls := #[.val (.ref a1), .unset]) (by rw [hml]; rfl) (argsL := []) (rest := []) (lenOf pd_10 rfl) (hb hby d18_32) (W := 0)
  obtain ⟨rfl, Nq4, e4⟩ := hQ4
  have N4 := Fr.app N0 Nq4
  obtain ⟨_, T9, L9, X9, hQ9, st9⟩ := own_iface X4 hx hZ hown (y := y_21) (z := y_20) E_a1 (w_135 hw) (w_136 hw) (w_137 hw) (w_138 hw) (w_139 hw) (w_140 hw) (w_141 hw) (w_133 hw) (w_23 hw) (w_142 hw) (rm84 l Z a0 hw [] a1 a5 a6 a7 k8 h0 n0 Z0 F_elementData_a1 F_size_a1 E_a5 M_1 V_a5 E_a7) e4 (Ls := #[.val (.ref a1), .unset]) (by rw [hml]; rfl) (argsL := []) (rest := []) (lenOf pd_4 rfl) (hb hby d18_45) (W := 0)
  obtain ⟨b9_b8_b6_b4, k9_k8_k6_k4, rfl, Nq9, K9, o9_0, o9_1, o9_2, o9_3⟩ := hQ9
  have N9 := Fr.app N4 Nq9
  have s0 := K9.1
  have Ex10 := (E_a7.keep K9)
  have z1 := Nat.le_trans Z0 s0
  obtain ⟨_, T11, L11, X11, hQ11, st11⟩ := own_callS X9 hx hZ hown (y := y_26) (w_165 hw) (w_166 hw) (w_114 hw) (w_167 hw) (rm86 l Z a0 hw [] b9_b8_b6_b4 a7 k9_k8_k6_k4 T9.heap n0 z1 o9_3 Ex10) rfl (Ls := #[.val (.ref a1), .unset]) (by rw [hml]; rfl) (argsL := [(.ref b9_b8_b6_b4)]) (rest := []) (lenOf pd_15 rfl) (hb hby d18_50) (W := 0)
  obtain ⟨b11_b5_b40, b11_b5_b5, k11_k5_k5, rfl, Nq11, K11, o11_0, o11_1, o11_2, o11_3, o11_4, o11_5, o11_6, o11_7, o11_8⟩ := hQ11
  have N11 := Fr.app N9 Nq11
  have s1 := K11.1
  have sz_b11_b5_b40 : h0.size ≤ b11_b5_b40 := Nat.le_trans s0 o11_0
  have sz_b11_b5_b5 : h0.size ≤ b11_b5_b5 := Nat.le_trans s0 o11_4
  have Kp0 : Keep h0 T9.heap [] := (Keep.refl h0 []).trans K9 all0
  have Kp1 : Keep h0 T11.heap [] := Kp0.trans K11 all0
  refine ⟨T11, _, _, _, (some (.ref b11_b5_b40)), X11, nofun, by decide, by decide, ?_, fun fs hr => ?_⟩
  · show Q87 Z a1 a5 a6 a7 k8 h0 n0 _ T11.heap _
    exact ⟨b11_b5_b40, b11_b5_b5, k11_k5_k5, rfl, N11, Kp1, sz_b11_b5_b40, o11_1, o11_2, o11_3, sz_b11_b5_b5, o11_5, o11_6, o11_7, o11_8⟩
  · show Steps p.tables e below (s₁.setTop (mkF m 0 #[.val (.ref a1), .unset] [])) _
    refine XS.aloadN X0.here hx rfl (hb hby d18_0) rfl rfl ?_
    refine st2 _ ?_
    refine XS.ifNo X2.here hx rfl (hb hby d18_4) rfl ((if0 _ _).trans (teq ((by decide : (0 : Int32) = (0 : Int32)) : (0 : Int32) = (0 : Int32))).2) ?_
    refine XS.aloadN X2.here hx rfl (hb hby d18_7) rfl rfl ?_
    refine st3 _ ?_
    refine XS.ifYes X3.here hx rfl (pc0 := 11) (pc' := 31) rfl (hb hby d18_11) rfl ((if0 _ _).trans (teq ((by decide : (0 : Int32) = (0 : Int32)) : (0 : Int32) = (0 : Int32))).1) (by decide) (by decide) ?_
    refine XS.aloadN X3.here hx rfl (hb hby d18_31) rfl rfl ?_
    refine st4 _ ?_
    refine XS.ifYes X4.here hx rfl (pc0 := 37) (pc' := 44) rfl (hb hby d18_37) rfl ((if0 _ _).trans (teq ((by decide : (0 : Int32) = (0 : Int32)) : (0 : Int32) = (0 : Int32))).1) (by decide) (by decide) ?_
    refine XS.aloadN X4.here hx rfl (hb hby d18_44) rfl rfl ?_
    refine st9 _ ?_
    refine st11 _ ?_
    show Steps p.tables e below (T11.setTop (mkF m 53 #[.val (.ref a1), .unset] [(.ref b11_b5_b40)])) _
    exact retOut X11 hx hret rfl (Or.inr (Or.inr (Or.inr (Or.inr ⟨rfl, rfl, rfl⟩)))) (hb hby d18_53) hr
-- java/util/List.copyOf(Ljava/util/Collection;)Ljava/util/List;
abbrev Rm88 : Room := { frames := 8, cells := 3, slots := 10, locals := 103 }
def Q88 (Z : State) (a1 : Addr) (a2 : Addr) (a3 : Addr) (a4 : Addr) (k5 : ClassId) (h0 : Heap) (n0 : Nat) (v : Option Value) (h : Heap) (L : List Loc) : Prop := ∃ b6_b11_b5_b40 : Addr, ∃ b6_b11_b5_b5 : Addr, ∃ k6_k11_k5_k5 : ClassId, v = some (.ref b6_b11_b5_b40) ∧ Fr n0 L ∧ Keep h0 h [] ∧ h0.size ≤ b6_b11_b5_b40 ∧ Exa Z h b6_b11_b5_b40 "java/util/ImmutableCollections$ListN" ∧ Fld Z h b6_b11_b5_b40 "java/util/ImmutableCollections$ListN" "allowNulls" "Z" (.int (0 : Int32)) ∧ Fld Z h b6_b11_b5_b40 "java/util/ImmutableCollections$ListN" "elements" "[Ljava/lang/Object;" (.ref b6_b11_b5_b5) ∧ h0.size ≤ b6_b11_b5_b5 ∧ Exa Z h b6_b11_b5_b5 "[Ljava/lang/Object;" ∧ Ovr Z k6_k11_k5_k5 "java/lang/Object" ∧ Arv Z h b6_b11_b5_b5 k6_k11_k5_k5 (.object "java/lang/Object") (4 : Int32) [(.ref a4), (.ref a4), (.ref a4), (.ref a4)] .null ∧ b6_b11_b5_b40 ≠ b6_b11_b5_b5
theorem ef88 (a1 : Addr) (m : MethodId) : entryFrame m #[(.ref a1)] 1 = mkF m 0 #[.val (.ref a1)] [] := by first | (simp [entryFrame, mkF, argsToLocals, Value.category]; done) | rfl
theorem rm88 (l : Launch) (Z : State) (a0 : Array Value) (hw : ∀ d ∈ tables_1, d.before a0 Z = true) (ws : List Jvm.Cond) (a1 : Addr) (a2 : Addr) (a3 : Addr) (a4 : Addr) (k5 : ClassId) (h0 : Heap) (n0 : Nat) (Z0 : n0 ≤ h0.size) (E_a1 : Exa Z h0 a1 "java/util/ArrayList") (F_size_a1 : Fld Z h0 a1 "java/util/ArrayList" "size" "I" (.int (4 : Int32))) (F_elementData_a1 : Fld Z h0 a1 "java/util/ArrayList" "elementData" "[Ljava/lang/Object;" (.ref a2)) (E_a2 : Exa Z h0 a2 "[Ljava/lang/Object;") (M_1 : OwnMir Z "[Ljava/lang/Object;" a3) (V_a2 : Arv Z h0 a2 k5 (.object "java/lang/Object") (10 : Int32) [(.ref a4), (.ref a4), (.ref a4), (.ref a4), .null, .null, .null, .null, .null, .null] .null) (E_a4 : Exa Z h0 a4 "com/example/feedergen/feedergen/core/StopCandidate") :
    OwnMet l Z y_28 jdk_40_method_48_code 1 (some (.object "java/util/List")) ws Rm88 #[(.ref a1)] h0 (Q88 Z a1 a2 a3 a4 k5 h0 n0) := by
  refine own_body (plainFor_of_name pn_12) (ef88 a1) ?_
  intro p e s m below meth c s₁ hx hby hml hown hnm hret hZ X0 e0
  have N0 := Fr.nil n0
  obtain ⟨_, T6, L6, X6, hQ6, st6⟩ := own_callS X0 hx hZ hown (y := y_27) (w_116 hw) (w_117 hw) (w_118 hw) (w_119 hw) (rm87 l Z a0 hw [] a1 a2 a3 a4 k5 h0 n0 Z0 E_a1 F_size_a1 F_elementData_a1 E_a2 M_1 V_a2 E_a4) e0 (Ls := #[.val (.ref a1)]) (by rw [hml]; rfl) (argsL := [(.ref a1)]) (rest := []) (lenOf pd_16 rfl) (hb hby d17_1) (W := 0)
  obtain ⟨b6_b11_b5_b40, b6_b11_b5_b5, k6_k11_k5_k5, rfl, Nq6, K6, o6_0, o6_1, o6_2, o6_3, o6_4, o6_5, o6_6, o6_7, o6_8⟩ := hQ6
  have N6 := Fr.app N0 Nq6
  have s0 := K6.1
  have sz_b6_b11_b5_b40 : h0.size ≤ b6_b11_b5_b40 := o6_0
  have sz_b6_b11_b5_b5 : h0.size ≤ b6_b11_b5_b5 := o6_4
  have Kp0 : Keep h0 T6.heap [] := (Keep.refl h0 []).trans K6 all0
  refine ⟨T6, _, _, _, (some (.ref b6_b11_b5_b40)), X6, nofun, by decide, by decide, ?_, fun fs hr => ?_⟩
  · show Q88 Z a1 a2 a3 a4 k5 h0 n0 _ T6.heap _
    exact ⟨b6_b11_b5_b40, b6_b11_b5_b5, k6_k11_k5_k5, rfl, N6, Kp0, sz_b6_b11_b5_b40, o6_1, o6_2, o6_3, sz_b6_b11_b5_b5, o6_5, o6_6, o6_7, o6_8⟩
  · show Steps p.tables e below (s₁.setTop (mkF m 0 #[.val (.ref a1)] [])) _
    refine XS.aloadN X0.here hx rfl (hb hby d17_0) rfl rfl ?_
    refine st6 _ ?_
    exact retOut X6 hx hret rfl (Or.inr (Or.inr (Or.inr (Or.inr ⟨rfl, rfl, rfl⟩)))) (hb hby d17_4) hr
-- java/util/Arrays.copyOf([Ljava/lang/Object;ILjava/lang/Class;)[Ljava/lang/Object;
abbrev Rm89 : Room := { frames := 1, cells := 1, slots := 4, locals := 18 }
def Q89 (Z : State) (a1 : Addr) (a2 : Addr) (a5 : Addr) (a6 : Addr) (a7 : Addr) (a8 : Addr) (k9 : ClassId) (h0 : Heap) (n0 : Nat) (v : Option Value) (h : Heap) (L : List Loc) : Prop := ∃ b4 : Addr, ∃ k4 : ClassId, v = some (.ref b4) ∧ Fr n0 L ∧ Keep h0 h [] ∧ h0.size ≤ b4 ∧ Exa Z h b4 "[Ljava/lang/Object;" ∧ Ovr Z k4 "java/lang/Object" ∧ Arv Z h b4 k4 (.object "java/lang/Object") (4 : Int32) [(.ref a5), (.ref a6), (.ref a7), (.ref a8)] .null
theorem ef89 (a1 : Addr) (a2 : Addr) (m : MethodId) : entryFrame m #[(.ref a1), (.int (4 : Int32)), (.ref a2)] 4 = mkF m 0 #[.val (.ref a1), .val (.int (4 : Int32)), .val (.ref a2), .unset] [] := by first | (simp [entryFrame, mkF, argsToLocals, Value.category]; done) | rfl
theorem rm89 (l : Launch) (Z : State) (a0 : Array Value) (hw : ∀ d ∈ tables_1, d.before a0 Z = true) (ws : List Jvm.Cond) (a1 : Addr) (a2 : Addr) (a5 : Addr) (a6 : Addr) (a7 : Addr) (a8 : Addr) (k9 : ClassId) (h0 : Heap) (n0 : Nat) (Z0 : n0 ≤ h0.size) (M_1 : OwnMir Z "[Ljava/lang/Object;" a2) (V_a1 : Arv Z h0 a1 k9 (.object "java/lang/Object") (10 : Int32) [(.ref a5), (.ref a6), (.ref a7), (.ref a8), .null, .null, .null, .null, .null, .null] .null) (E_a8 : Exa Z h0 a8 "java/lang/Double") (E_a7 : Exa Z h0 a7 "java/lang/Double") (E_a6 : Exa Z h0 a6 "java/lang/Double") (E_a5 : Exa Z h0 a5 "java/lang/Double") :
    OwnMet l Z y_18 jdk_65_method_120_code 4 (some (.array (.object "java/lang/Object"))) ws Rm89 #[(.ref a1), (.int (4 : Int32)), (.ref a2)] h0 (Q89 Z a1 a2 a5 a6 a7 a8 k9 h0 n0) := by
  refine own_body (plainFor_of_name pn_7) (ef89 a1 a2) ?_
  intro p e s m below meth c s₁ hx hby hml hown hnm hret hZ X0 e0
  have N0 := Fr.nil n0
  obtain ⟨T3, X3, e3, st3⟩ := own_ldcM X0 hx hZ hown (w_156 hw) M_1 e0 (g := (mkF m 1 #[.val (.ref a1), .val (.int (4 : Int32)), .val (.ref a2), .unset] [(.ref a2)])) rfl (hb hby d22_1)
  obtain ⟨T4, h4, k4, X4, e4, E4, A4, B4, O4, st4⟩ := newRE X3 hx hZ hown (w_157 hw) (w_74 hw) e3 (g := (mkF m 7 #[.val (.ref a1), .val (.int (4 : Int32)), .val (.ref a2), .unset] [(.int (4 : Int32))])) rfl (hb hby d22_7) rfl (by decide) (cap := 4) (by decide) (by decide) (by decide) (by decide) (ad := "[Ljava/lang/Object;") (by decide)
  obtain ⟨b4, g4⟩ : ∃ z, z = h0.size := ⟨_, rfl⟩
  rw [← g4] at A4 B4 st4
  have s0 := E4.1
  have Vn4 : Arv Z h4 b4 k4 (.object "java/lang/Object") (4 : Int32) [.null, .null, .null, .null] .null := (Arv.new A4 (by decide)).pad (pad_rep [] .null 4)
  have Va10 := (V_a1.ext E4)
  obtain ⟨cl11, Ar11, q11, S11, M11, Hs11, G11⟩ := id Va10
  have z1 := Nat.le_trans Z0 s0
  obtain ⟨_, T12, L12, X12, hQ12, st12⟩ := own_callS X4 hx hZ hown (y := y_17) (w_158 hw) (w_159 hw) (w_71 hw) (w_160 hw) (rm81 l Z a0 hw []  h4 n0 z1) e4 (Ls := #[.val (.ref a1), .val (.int (4 : Int32)), .val (.ref a2), .val (.ref b4)]) (by rw [hml]; rfl) (argsL := [(.int (10 : Int32)), (.int (4 : Int32))]) (rest := [(.int (0 : Int32)), (.ref b4), (.int (0 : Int32)), (.ref a1)]) (lenOf pd_2 rfl) (hb hby d22_32) (W := 4)
  obtain ⟨rfl, Nq12, e12⟩ := hQ12
  have N12 := Fr.app N0 Nq12
  obtain ⟨cl13, Ar13, q13, S13, M13, Hs13, G13⟩ := id Vn4
  have Ex14 := (E_a8.ext E4)
  have Ex15 := (E_a7.ext E4)
  have Ex16 := (E_a6.ext E4)
  have Ex17 := (E_a5.ext E4)
  have g_b4 : n0 ≤ b4 := Nat.le_trans Z0 (Nat.le_of_eq g4.symm)
  obtain ⟨T18, h18, L18, X18, e18, N18, K18, V18, st18⟩ := cpA X12 hx hZ hown (w_161 hw) (w_164 hw) (w_162 hw) (w_163 hw) e12 Va10 Vn4 (us := [(.ref a5), (.ref a6), (.ref a7), (.ref a8)]) (Or.inr ⟨rfl, rfl, ⟨(Sto.ofV Ar13 q13 O4 (Ins.of_exa Ex17 (w_95 hw))), ⟨(Sto.ofV Ar13 q13 O4 (Ins.of_exa Ex16 (w_95 hw))), ⟨(Sto.ofV Ar13 q13 O4 (Ins.of_exa Ex15 (w_95 hw))), ⟨(Sto.ofV Ar13 q13 O4 (Ins.of_exa Ex14 (w_95 hw))), trivial⟩⟩⟩⟩⟩) (by decide) (by decide) (by decide) (by decide) (by decide) (by rfl) (by decide) N12 g_b4 (g := (mkF m 35 #[.val (.ref a1), .val (.int (4 : Int32)), .val (.ref a2), .val (.ref b4)] [(.int (4 : Int32)), (.int (0 : Int32)), (.ref b4), (.int (0 : Int32)), (.ref a1)])) rfl (by rw [hml]; rfl) rfl (hb hby d22_35) (by decide) (W := 0) (by show 2 * 0 + _ ≤ _; exact Nat.le_of_eq rfl) (by decide)
  have s1 := K18.1
  have Vc18 : Arv Z h18 b4 k4 (.object "java/lang/Object") (4 : Int32) [(.ref a5), (.ref a6), (.ref a7), (.ref a8)] .null := V18
  have sz_b4 : h0.size ≤ b4 := (Nat.le_of_eq g4.symm)
  have Ex19 := (B4.keep K18)
  have Kp0 : Keep h0 h4 [] := (Keep.refl h0 []).ext E4
  have Kp1 : Keep h0 h18 [] := Kp0.trans K18 (allS (Or.inr sz_b4) all0)
  refine ⟨T18, _, _, _, (some (.ref b4)), X18, nofun, by decide, by decide, ?_, fun fs hr => ?_⟩
  · show Q89 Z a1 a2 a5 a6 a7 a8 k9 h0 n0 _ T18.heap _
    rw [e18]
    exact ⟨b4, k4, rfl, N18, Kp1, sz_b4, Ex19, O4, Vc18⟩
  · show Steps p.tables e below (s₁.setTop (mkF m 0 #[.val (.ref a1), .val (.int (4 : Int32)), .val (.ref a2), .unset] [])) _
    refine XS.aloadN X0.here hx rfl (hb hby d22_0) rfl rfl ?_
    refine st3 _ ?_
    refine Jvm.RoadKit.acmp (g := (mkF m 3 #[.val (.ref a1), .val (.int (4 : Int32)), .val (.ref a2), .unset] [(.ref a2), (.ref a2)])) X3 hx rfl rfl rfl (pc0 := 3) (pc' := 6) (same := true) rfl (hb hby d22_3) rfl (decide_eq_true rfl) (by decide) (by decide) ?_
    refine XS.iloadN X3.here hx rfl (hb hby d22_6) rfl ?_
    refine st4 _ ?_
    refine XS.goto X4.here hx rfl (pc0 := 10) (pc' := 24) rfl (hb hby d22_10) (by decide) (by decide) ?_
    refine XS.astoreN X4.here hx rfl (hb hby d22_24) rfl rfl (l' := #[.val (.ref a1), .val (.int (4 : Int32)), .val (.ref a2), .val (.ref b4)]) rfl ?_
    refine XS.aloadN X4.here hx rfl (hb hby d22_25) rfl rfl ?_
    refine XS.iconst X4.here hx rfl (hb hby d22_26) ?_
    refine XS.aloadN X4.here hx rfl (hb hby d22_27) rfl rfl ?_
    refine XS.iconst X4.here hx rfl (hb hby d22_28) ?_
    refine XS.aloadN X4.here hx rfl (hb hby d22_29) rfl rfl ?_
    show Steps p.tables e below (T4.setTop (mkF m 30 #[.val (.ref a1), .val (.int (4 : Int32)), .val (.ref a2), .val (.ref b4)] [(.ref a1), (.int (0 : Int32)), (.ref b4), (.int (0 : Int32)), (.ref a1)])) _
    refine X4.arraylength hx (by rw [e4]; exact Ar11.1) (State.isArrayOf_alike hZ.alike Ar11.2.1) (g := (mkF m 30 #[.val (.ref a1), .val (.int (4 : Int32)), .val (.ref a2), .val (.ref b4)] [(.ref a1), (.int (0 : Int32)), (.ref b4), (.int (0 : Int32)), (.ref a1)])) rfl rfl (hb hby d22_30) _ ?_
    show Steps p.tables e below (T4.setTop (mkF m 31 #[.val (.ref a1), .val (.int (4 : Int32)), .val (.ref a2), .val (.ref b4)] [(.int cl11.slots.size.toInt32), (.int (0 : Int32)), (.ref b4), (.int (0 : Int32)), (.ref a1)])) _
    rw [len_of S11 M11]
    refine XS.iloadN X4.here hx rfl (hb hby d22_31) rfl ?_
    refine st12 _ ?_
    refine st18 _ ?_
    refine XS.aloadN X18.here hx rfl (hb hby d22_38) rfl rfl ?_
    exact retOut X18 hx hret rfl (Or.inr (Or.inr (Or.inr (Or.inr ⟨rfl, rfl, rfl⟩)))) (hb hby d22_39) hr
-- java/util/Arrays.copyOf([Ljava/lang/Object;I)[Ljava/lang/Object;
abbrev Rm90 : Room := { frames := 2, cells := 1, slots := 4, locals := 33 }
def Q90 (Z : State) (a1 : Addr) (a2 : Addr) (a4 : Addr) (a5 : Addr) (a6 : Addr) (a7 : Addr) (k8 : ClassId) (h0 : Heap) (n0 : Nat) (v : Option Value) (h : Heap) (L : List Loc) : Prop := ∃ b9_b4 : Addr, ∃ k9_k4 : ClassId, v = some (.ref b9_b4) ∧ Fr n0 L ∧ Keep h0 h [] ∧ h0.size ≤ b9_b4 ∧ Exa Z h b9_b4 "[Ljava/lang/Object;" ∧ Ovr Z k9_k4 "java/lang/Object" ∧ Arv Z h b9_b4 k9_k4 (.object "java/lang/Object") (4 : Int32) [(.ref a4), (.ref a5), (.ref a6), (.ref a7)] .null
theorem ef90 (a1 : Addr) (m : MethodId) : entryFrame m #[(.ref a1), (.int (4 : Int32))] 2 = mkF m 0 #[.val (.ref a1), .val (.int (4 : Int32))] [] := by first | (simp [entryFrame, mkF, argsToLocals, Value.category]; done) | rfl
theorem rm90 (l : Launch) (Z : State) (a0 : Array Value) (hw : ∀ d ∈ tables_1, d.before a0 Z = true) (ws : List Jvm.Cond) (a1 : Addr) (a2 : Addr) (a4 : Addr) (a5 : Addr) (a6 : Addr) (a7 : Addr) (k8 : ClassId) (h0 : Heap) (n0 : Nat) (Z0 : n0 ≤ h0.size) (E_a1 : Exa Z h0 a1 "[Ljava/lang/Object;") (M_1 : OwnMir Z "[Ljava/lang/Object;" a2) (V_a1 : Arv Z h0 a1 k8 (.object "java/lang/Object") (10 : Int32) [(.ref a4), (.ref a5), (.ref a6), (.ref a7), .null, .null, .null, .null, .null, .null] .null) (E_a7 : Exa Z h0 a7 "java/lang/Double") (E_a6 : Exa Z h0 a6 "java/lang/Double") (E_a5 : Exa Z h0 a5 "java/lang/Double") (E_a4 : Exa Z h0 a4 "java/lang/Double") :
    OwnMet l Z y_19 jdk_65_method_119_code 2 (some (.array (.object "java/lang/Object"))) ws Rm90 #[(.ref a1), (.int (4 : Int32))] h0 (Q90 Z a1 a2 a4 a5 a6 a7 k8 h0 n0) := by
  refine own_body (plainFor_of_name pn_7) (ef90 a1) ?_
  intro p e s m below meth c s₁ hx hby hml hown hnm hret hZ X0 e0
  have N0 := Fr.nil n0
  obtain ⟨T3, X3, e3, st3⟩ := own_gcls X0 hx hZ hown (w_147 hw) (w_148 hw) (w_124 hw) (w_150 hw) (w_149 hw) (w_151 hw) e0 E_a1 M_1 (g := (mkF m 3 #[.val (.ref a1), .val (.int (4 : Int32))] [(.ref a1), (.int (4 : Int32)), (.ref a1)])) rfl (by rw [hml]; rfl) rfl (hb hby d21_3) (by decide) (W := 2) (by show 2 * 0 + _ ≤ _; exact Nat.le_of_eq rfl) (by decide)
  obtain ⟨_, T9, L9, X9, hQ9, st9⟩ := own_callS X3 hx hZ hown (y := y_18) (w_153 hw) (w_154 hw) (w_145 hw) (w_155 hw) (rm89 l Z a0 hw [] a1 a2 a4 a5 a6 a7 k8 h0 n0 Z0 M_1 V_a1 E_a7 E_a6 E_a5 E_a4) e3 (Ls := #[.val (.ref a1), .val (.int (4 : Int32))]) (by rw [hml]; rfl) (argsL := [(.ref a1), (.int (4 : Int32)), (.ref a2)]) (rest := []) (lenOf pd_11 rfl) (hb hby d21_6) (W := 0)
  obtain ⟨b9_b4, k9_k4, rfl, Nq9, K9, o9_0, o9_1, o9_2, o9_3⟩ := hQ9
  have N9 := Fr.app N0 Nq9
  have s0 := K9.1
  have sz_b9_b4 : h0.size ≤ b9_b4 := o9_0
  have Kp0 : Keep h0 T9.heap [] := (Keep.refl h0 []).trans K9 all0
  refine ⟨T9, _, _, _, (some (.ref b9_b4)), X9, nofun, by decide, by decide, ?_, fun fs hr => ?_⟩
  · show Q90 Z a1 a2 a4 a5 a6 a7 k8 h0 n0 _ T9.heap _
    exact ⟨b9_b4, k9_k4, rfl, N9, Kp0, sz_b9_b4, o9_1, o9_2, o9_3⟩
  · show Steps p.tables e below (s₁.setTop (mkF m 0 #[.val (.ref a1), .val (.int (4 : Int32))] [])) _
    refine XS.aloadN X0.here hx rfl (hb hby d21_0) rfl rfl ?_
    refine XS.iloadN X0.here hx rfl (hb hby d21_1) rfl ?_
    refine XS.aloadN X0.here hx rfl (hb hby d21_2) rfl rfl ?_
    refine st3 _ ?_
    refine st9 _ ?_
    exact retOut X9 hx hret rfl (Or.inr (Or.inr (Or.inr (Or.inr ⟨rfl, rfl, rfl⟩)))) (hb hby d21_9) hr
-- java/util/ArrayList.toArray()[Ljava/lang/Object;
abbrev Rm91 : Room := { frames := 3, cells := 1, slots := 4, locals := 46 }
def Q91 (Z : State) (a1 : Addr) (a2 : Addr) (a5 : Addr) (a6 : Addr) (a7 : Addr) (a8 : Addr) (a9 : Addr) (k10 : ClassId) (h0 : Heap) (n0 : Nat) (v : Option Value) (h : Heap) (L : List Loc) : Prop := ∃ b11_b9_b4 : Addr, ∃ k11_k9_k4 : ClassId, v = some (.ref b11_b9_b4) ∧ Fr n0 L ∧ Keep h0 h [] ∧ h0.size ≤ b11_b9_b4 ∧ Exa Z h b11_b9_b4 "[Ljava/lang/Object;" ∧ Ovr Z k11_k9_k4 "java/lang/Object" ∧ Arv Z h b11_b9_b4 k11_k9_k4 (.object "java/lang/Object") (4 : Int32) [(.ref a6), (.ref a7), (.ref a8), (.ref a9)] .null
theorem ef91 (a1 : Addr) (m : MethodId) : entryFrame m #[(.ref a1)] 1 = mkF m 0 #[.val (.ref a1)] [] := by first | (simp [entryFrame, mkF, argsToLocals, Value.category]; done) | rfl
theorem rm91 (l : Launch) (Z : State) (a0 : Array Value) (hw : ∀ d ∈ tables_1, d.before a0 Z = true) (ws : List Jvm.Cond) (a1 : Addr) (a2 : Addr) (a5 : Addr) (a6 : Addr) (a7 : Addr) (a8 : Addr) (a9 : Addr) (k10 : ClassId) (h0 : Heap) (n0 : Nat) (Z0 : n0 ≤ h0.size) (F_elementData_a1 : Fld Z h0 a1 "java/util/ArrayList" "elementData" "[Ljava/lang/Object;" (.ref a2)) (F_size_a1 : Fld Z h0 a1 "java/util/ArrayList" "size" "I" (.int (4 : Int32))) (E_a2 : Exa Z h0 a2 "[Ljava/lang/Object;") (M_1 : OwnMir Z "[Ljava/lang/Object;" a5) (V_a2 : Arv Z h0 a2 k10 (.object "java/lang/Object") (10 : Int32) [(.ref a6), (.ref a7), (.ref a8), (.ref a9), .null, .null, .null, .null, .null, .null] .null) (E_a9 : Exa Z h0 a9 "java/lang/Double") (E_a8 : Exa Z h0 a8 "java/lang/Double") (E_a7 : Exa Z h0 a7 "java/lang/Double") (E_a6 : Exa Z h0 a6 "java/lang/Double") :
    OwnMet l Z y_20 jdk_38_method_16_code 1 (some (.array (.object "java/lang/Object"))) ws Rm91 #[(.ref a1)] h0 (Q91 Z a1 a2 a5 a6 a7 a8 a9 k10 h0 n0) := by
  refine own_body (plainFor_of_name pn_4) (ef91 a1) ?_
  intro p e s m below meth c s₁ hx hby hml hown hnm hret hZ X0 e0
  have N0 := Fr.nil n0
  obtain ⟨T3, X3, e3, st3⟩ := getF X0 hx hZ hown (host := "") (Or.inl (w_43 hw)) Via.refl e0 F_elementData_a1 (g := (mkF m 1 #[.val (.ref a1)] [(.ref a1)])) rfl rfl (hb hby d20_1)
  obtain ⟨T4, X4, e4, st4⟩ := getF X3 hx hZ hown (host := "") (Or.inl (w_52 hw)) Via.refl e3 F_size_a1 (g := (mkF m 5 #[.val (.ref a1)] [(.ref a1), (.ref a2)])) rfl rfl (hb hby d20_5)
  obtain ⟨_, T11, L11, X11, hQ11, st11⟩ := own_callS X4 hx hZ hown (y := y_19) (w_143 hw) (w_144 hw) (w_145 hw) (w_146 hw) (rm90 l Z a0 hw [] a2 a5 a6 a7 a8 a9 k10 h0 n0 Z0 E_a2 M_1 V_a2 E_a9 E_a8 E_a7 E_a6) e4 (Ls := #[.val (.ref a1)]) (by rw [hml]; rfl) (argsL := [(.ref a2), (.int (4 : Int32))]) (rest := []) (lenOf pd_12 rfl) (hb hby d20_8) (W := 0)
  obtain ⟨b11_b9_b4, k11_k9_k4, rfl, Nq11, K11, o11_0, o11_1, o11_2, o11_3⟩ := hQ11
  have N11 := Fr.app N0 Nq11
  have s0 := K11.1
  have sz_b11_b9_b4 : h0.size ≤ b11_b9_b4 := o11_0
  have Kp0 : Keep h0 T11.heap [] := (Keep.refl h0 []).trans K11 all0
  refine ⟨T11, _, _, _, (some (.ref b11_b9_b4)), X11, nofun, by decide, by decide, ?_, fun fs hr => ?_⟩
  · show Q91 Z a1 a2 a5 a6 a7 a8 a9 k10 h0 n0 _ T11.heap _
    exact ⟨b11_b9_b4, k11_k9_k4, rfl, N11, Kp0, sz_b11_b9_b4, o11_1, o11_2, o11_3⟩
  · show Steps p.tables e below (s₁.setTop (mkF m 0 #[.val (.ref a1)] [])) _
    refine XS.aloadN X0.here hx rfl (hb hby d20_0) rfl rfl ?_
    refine st3 _ ?_
    refine XS.aloadN X3.here hx rfl (hb hby d20_4) rfl rfl ?_
    refine st4 _ ?_
    refine st11 _ ?_
    exact retOut X11 hx hret rfl (Or.inr (Or.inr (Or.inr (Or.inr ⟨rfl, rfl, rfl⟩)))) (hb hby d20_11) hr
-- java/util/ImmutableCollections.listFromArray([Ljava/lang/Object;)Ljava/util/List;
abbrev Rm92 : Room := { frames := 5, cells := 2, slots := 6, locals := 63 }
def Q92 (Z : State) (a1 : Addr) (a2 : Addr) (a3 : Addr) (a4 : Addr) (a5 : Addr) (k6 : ClassId) (h0 : Heap) (n0 : Nat) (v : Option Value) (h : Heap) (L : List Loc) : Prop := ∃ b43 : Addr, ∃ b8 : Addr, ∃ k8 : ClassId, v = some (.ref b43) ∧ Fr n0 L ∧ Keep h0 h [] ∧ h0.size ≤ b43 ∧ Exa Z h b43 "java/util/ImmutableCollections$ListN" ∧ Fld Z h b43 "java/util/ImmutableCollections$ListN" "allowNulls" "Z" (.int (0 : Int32)) ∧ Fld Z h b43 "java/util/ImmutableCollections$ListN" "elements" "[Ljava/lang/Object;" (.ref b8) ∧ h0.size ≤ b8 ∧ Exa Z h b8 "[Ljava/lang/Object;" ∧ Ovr Z k8 "java/lang/Object" ∧ Arv Z h b8 k8 (.object "java/lang/Object") (4 : Int32) [(.ref a2), (.ref a3), (.ref a4), (.ref a5)] .null ∧ b43 ≠ b8
theorem ef92 (a1 : Addr) (m : MethodId) : entryFrame m #[(.ref a1)] 3 = mkF m 0 #[.val (.ref a1), .unset, .unset] [] := by first | (simp [entryFrame, mkF, argsToLocals, Value.category]; done) | rfl
theorem rm92 (l : Launch) (Z : State) (a0 : Array Value) (hw : ∀ d ∈ tables_1, d.before a0 Z = true) (ws : List Jvm.Cond) (a1 : Addr) (a2 : Addr) (a3 : Addr) (a4 : Addr) (a5 : Addr) (k6 : ClassId) (h0 : Heap) (n0 : Nat) (Z0 : n0 ≤ h0.size) (V_a1 : Arv Z h0 a1 k6 (.object "java/lang/Object") (4 : Int32) [(.ref a2), (.ref a3), (.ref a4), (.ref a5)] .null) (E_a2 : Exa Z h0 a2 "java/lang/Double") (E_a3 : Exa Z h0 a3 "java/lang/Double") (E_a4 : Exa Z h0 a4 "java/lang/Double") (E_a5 : Exa Z h0 a5 "java/lang/Double") :
    OwnMet l Z y_37 jdk_56_method_4_code 3 (some (.object "java/util/List")) ws Rm92 #[(.ref a1)] h0 (Q92 Z a1 a2 a3 a4 a5 k6 h0 n0) := by
  refine own_body (plainFor_of_name pn_13) (ef92 a1) ?_
  intro p e s m below meth c s₁ hx hby hml hown hnm hret hZ X0 e0
  have N0 := Fr.nil n0
  obtain ⟨cl7, Ar7, q7, S7, M7, Hs7, G7⟩ := id V_a1
  obtain ⟨T8, h8, k8, X8, e8, E8, A8, B8, O8, st8⟩ := newRE X0 hx hZ hown (w_238 hw) (w_74 hw) e0 (g := (mkF m 2 #[.val (.ref a1), .unset, .unset] [(.int (4 : Int32))])) rfl (hb hby d34_2) rfl (by decide) (cap := 4) (by decide) (by decide) (by decide) (by decide) (ad := "[Ljava/lang/Object;") (by decide)
  obtain ⟨b8, g8⟩ : ∃ z, z = h0.size := ⟨_, rfl⟩
  rw [← g8] at A8 B8 st8
  have s0 := E8.1
  have Vn8 : Arv Z h8 b8 k8 (.object "java/lang/Object") (4 : Int32) [.null, .null, .null, .null] .null := (Arv.new A8 (by decide)).pad (pad_rep [] .null 4)
  have Va9 := (V_a1.ext E8)
  obtain ⟨cl10, Ar10, q10, S10, M10, Hs10, G10⟩ := id Va9
  have hin11 : ¬ ((0 : Int32) < 0 ∨ cl10.slots.size ≤ ((0 : Int32)).toNatClampNeg) := inb_of S10 ⟨(by decide : ¬ ((0 : Int32) < (0 : Int32))), (by decide : (0 : Int32) < (4 : Int32))⟩
  have z1 := Nat.le_trans Z0 s0
  obtain ⟨_, T12, L12, X12, hQ12, st12⟩ := own_callS X8 hx hZ hown (y := y_24) (w_239 hw) (w_190 hw) (w_191 hw) (w_192 hw) (rm28 l Z a0 hw [] a2 h8 n0 z1) e8 (Ls := #[.val (.ref a1), .val (.ref b8), .val (.int (0 : Int32))]) (by rw [hml]; rfl) (argsL := [(.ref a2)]) (rest := [(.int (0 : Int32)), (.ref b8)]) (lenOf pd_13 rfl) (hb hby d34_19) (W := 2)
  obtain ⟨rfl, Nq12, e12⟩ := hQ12
  have N12 := Fr.app N0 Nq12
  obtain ⟨cl13, Ar13, q13, S13, M13, Hs13, G13⟩ := id Vn8
  have hin14 : ¬ ((0 : Int32) < 0 ∨ cl13.slots.size ≤ ((0 : Int32)).toNatClampNeg) := inb_of S13 ⟨(by decide : ¬ ((0 : Int32) < (0 : Int32))), (by decide : (0 : Int32) < (4 : Int32))⟩
  have Ex15 := (E_a2.ext E8)
  obtain ⟨T16, h16, X16, e16, W16, st16⟩ := stR X12 hx hZ e12 Ar13 (j := (0 : Int32)) hin14 rfl (Sto.ofV Ar13 q13 O8 (Ins.of_exa Ex15 (w_95 hw))) (g := (mkF m 22 #[.val (.ref a1), .val (.ref b8), .val (.int (0 : Int32))] [(.ref a2), (.int (0 : Int32)), (.ref b8)])) rfl rfl (hb hby d34_22)
  have s1 := (Keep.of_wr W16).1
  have g_b8 : n0 ≤ b8 := Nat.le_trans Z0 (Nat.le_of_eq g8.symm)
  have N16 := Fr.snoc X16 N12 g_b8
  have Vs16 : Arv Z h16 b8 k8 (.object "java/lang/Object") (4 : Int32) [(.ref a2), .null, .null, .null] .null := Arv.set Ar13 q13 S13 M13 Hs13 G13 rfl W16 0 rfl (Nat.le_of_ble_eq_true rfl)
  have ne_a1_b8 := Nat.ne_of_lt (Nat.lt_of_lt_of_le V_a1.lt (Nat.le_of_eq g8.symm))
  have Va17 := (Va9.other W16 ne_a1_b8)
  obtain ⟨cl18, Ar18, q18, S18, M18, Hs18, G18⟩ := id Va17
  have hin19 : ¬ ((1 : Int32) < 0 ∨ cl18.slots.size ≤ ((1 : Int32)).toNatClampNeg) := inb_of S18 ⟨(by decide : ¬ ((1 : Int32) < (0 : Int32))), (by decide : (1 : Int32) < (4 : Int32))⟩
  have z2 := Nat.le_trans Z0 (Nat.le_trans s0 s1)
  obtain ⟨_, T20, L20, X20, hQ20, st20⟩ := own_callS X16 hx hZ hown (y := y_24) (w_239 hw) (w_190 hw) (w_191 hw) (w_192 hw) (rm28 l Z a0 hw [] a3 h16 n0 z2) e16 (Ls := #[.val (.ref a1), .val (.ref b8), .val (.int (1 : Int32))]) (by rw [hml]; rfl) (argsL := [(.ref a3)]) (rest := [(.int (1 : Int32)), (.ref b8)]) (lenOf pd_13 rfl) (hb hby d34_19) (W := 2)
  obtain ⟨rfl, Nq20, e20⟩ := hQ20
  have N20 := Fr.app N16 Nq20
  obtain ⟨cl21, Ar21, q21, S21, M21, Hs21, G21⟩ := id Vs16
  have hin22 : ¬ ((1 : Int32) < 0 ∨ cl21.slots.size ≤ ((1 : Int32)).toNatClampNeg) := inb_of S21 ⟨(by decide : ¬ ((1 : Int32) < (0 : Int32))), (by decide : (1 : Int32) < (4 : Int32))⟩
  have Ex23 := ((E_a3.ext E8).wr W16)
  obtain ⟨T24, h24, X24, e24, W24, st24⟩ := stR X20 hx hZ e20 Ar21 (j := (1 : Int32)) hin22 rfl (Sto.ofV Ar21 q21 O8 (Ins.of_exa Ex23 (w_95 hw))) (g := (mkF m 22 #[.val (.ref a1), .val (.ref b8), .val (.int (1 : Int32))] [(.ref a3), (.int (1 : Int32)), (.ref b8)])) rfl rfl (hb hby d34_22)
  have s2 := (Keep.of_wr W24).1
  have N24 := Fr.snoc X24 N20 g_b8
  have Vs24 : Arv Z h24 b8 k8 (.object "java/lang/Object") (4 : Int32) [(.ref a2), (.ref a3), .null, .null] .null := Arv.set Ar21 q21 S21 M21 Hs21 G21 rfl W24 1 rfl (Nat.le_of_ble_eq_true rfl)
  have Va25 := (Va17.other W24 ne_a1_b8)
  obtain ⟨cl26, Ar26, q26, S26, M26, Hs26, G26⟩ := id Va25
  have hin27 : ¬ ((2 : Int32) < 0 ∨ cl26.slots.size ≤ ((2 : Int32)).toNatClampNeg) := inb_of S26 ⟨(by decide : ¬ ((2 : Int32) < (0 : Int32))), (by decide : (2 : Int32) < (4 : Int32))⟩
  have z3 := Nat.le_trans Z0 (Nat.le_trans (Nat.le_trans s0 s1) s2)
  obtain ⟨_, T28, L28, X28, hQ28, st28⟩ := own_callS X24 hx hZ hown (y := y_24) (w_239 hw) (w_190 hw) (w_191 hw) (w_192 hw) (rm28 l Z a0 hw [] a4 h24 n0 z3) e24 (Ls := #[.val (.ref a1), .val (.ref b8), .val (.int (2 : Int32))]) (by rw [hml]; rfl) (argsL := [(.ref a4)]) (rest := [(.int (2 : Int32)), (.ref b8)]) (lenOf pd_13 rfl) (hb hby d34_19) (W := 2)
  obtain ⟨rfl, Nq28, e28⟩ := hQ28
  have N28 := Fr.app N24 Nq28
  obtain ⟨cl29, Ar29, q29, S29, M29, Hs29, G29⟩ := id Vs24
  have hin30 : ¬ ((2 : Int32) < 0 ∨ cl29.slots.size ≤ ((2 : Int32)).toNatClampNeg) := inb_of S29 ⟨(by decide : ¬ ((2 : Int32) < (0 : Int32))), (by decide : (2 : Int32) < (4 : Int32))⟩
  have Ex31 := (((E_a4.ext E8).wr W16).wr W24)
  obtain ⟨T32, h32, X32, e32, W32, st32⟩ := stR X28 hx hZ e28 Ar29 (j := (2 : Int32)) hin30 rfl (Sto.ofV Ar29 q29 O8 (Ins.of_exa Ex31 (w_95 hw))) (g := (mkF m 22 #[.val (.ref a1), .val (.ref b8), .val (.int (2 : Int32))] [(.ref a4), (.int (2 : Int32)), (.ref b8)])) rfl rfl (hb hby d34_22)
  have s3 := (Keep.of_wr W32).1
  have N32 := Fr.snoc X32 N28 g_b8
  have Vs32 : Arv Z h32 b8 k8 (.object "java/lang/Object") (4 : Int32) [(.ref a2), (.ref a3), (.ref a4), .null] .null := Arv.set Ar29 q29 S29 M29 Hs29 G29 rfl W32 2 rfl (Nat.le_of_ble_eq_true rfl)
  have Va33 := (Va25.other W32 ne_a1_b8)
  obtain ⟨cl34, Ar34, q34, S34, M34, Hs34, G34⟩ := id Va33
  have hin35 : ¬ ((3 : Int32) < 0 ∨ cl34.slots.size ≤ ((3 : Int32)).toNatClampNeg) := inb_of S34 ⟨(by decide : ¬ ((3 : Int32) < (0 : Int32))), (by decide : (3 : Int32) < (4 : Int32))⟩
  have z4 := Nat.le_trans Z0 (Nat.le_trans (Nat.le_trans (Nat.le_trans s0 s1) s2) s3)
  obtain ⟨_, T36, L36, X36, hQ36, st36⟩ := own_callS X32 hx hZ hown (y := y_24) (w_239 hw) (w_190 hw) (w_191 hw) (w_192 hw) (rm28 l Z a0 hw [] a5 h32 n0 z4) e32 (Ls := #[.val (.ref a1), .val (.ref b8), .val (.int (3 : Int32))]) (by rw [hml]; rfl) (argsL := [(.ref a5)]) (rest := [(.int (3 : Int32)), (.ref b8)]) (lenOf pd_13 rfl) (hb hby d34_19) (W := 2)
  obtain ⟨rfl, Nq36, e36⟩ := hQ36
  have N36 := Fr.app N32 Nq36
  obtain ⟨cl37, Ar37, q37, S37, M37, Hs37, G37⟩ := id Vs32
  have hin38 : ¬ ((3 : Int32) < 0 ∨ cl37.slots.size ≤ ((3 : Int32)).toNatClampNeg) := inb_of S37 ⟨(by decide : ¬ ((3 : Int32) < (0 : Int32))), (by decide : (3 : Int32) < (4 : Int32))⟩
  have Ex39 := ((((E_a5.ext E8).wr W16).wr W24).wr W32)
  obtain ⟨T40, h40, X40, e40, W40, st40⟩ := stR X36 hx hZ e36 Ar37 (j := (3 : Int32)) hin38 rfl (Sto.ofV Ar37 q37 O8 (Ins.of_exa Ex39 (w_95 hw))) (g := (mkF m 22 #[.val (.ref a1), .val (.ref b8), .val (.int (3 : Int32))] [(.ref a5), (.int (3 : Int32)), (.ref b8)])) rfl rfl (hb hby d34_22)
  have s4 := (Keep.of_wr W40).1
  have N40 := Fr.snoc X40 N36 g_b8
  have Vs40 : Arv Z h40 b8 k8 (.object "java/lang/Object") (4 : Int32) [(.ref a2), (.ref a3), (.ref a4), (.ref a5)] .null := Arv.set Ar37 q37 S37 M37 Hs37 G37 rfl W40 3 rfl (Nat.le_of_ble_eq_true rfl)
  have Va41 := (Va33.other W40 ne_a1_b8)
  obtain ⟨cl42, Ar42, q42, S42, M42, Hs42, G42⟩ := id Va41
  obtain ⟨T43, h43, X43, e43, E43, A43, D43, -, st43⟩ := newO X40 hx hZ hown (w_125 hw) (w_240 hw) (w_241 hw) e40 (g := (mkF m 29 #[.val (.ref a1), .val (.ref b8), .val (.int (4 : Int32))] [])) rfl (hb hby d34_29) (by decide) (by decide)
  obtain ⟨b43, g43⟩ : ∃ z, z = h40.size := ⟨_, rfl⟩
  rw [← g43] at A43 D43 st43
  have s5 := E43.1
  have Fn43_elements : Fld Z h43 b43 "java/util/ImmutableCollections$ListN" "elements" "[Ljava/lang/Object;" .null := D43 (Or.inr (w_251 hw)) (ty := (.array (.object "java/lang/Object"))) (by decide)
  have Fn43_allowNulls : Fld Z h43 b43 "java/util/ImmutableCollections$ListN" "allowNulls" "Z" (.int (0 : Int32)) := D43 (Or.inr (w_253 hw)) (ty := .boolean) (by decide)
  have z5 := Nat.le_trans Z0 (Nat.le_trans (Nat.le_trans (Nat.le_trans (Nat.le_trans s0 s1) s2) s3) s4)
  have g_b43 : n0 ≤ b43 := Nat.le_trans z5 (Nat.le_of_eq g43.symm)
  have z6 := Nat.le_trans Z0 (Nat.le_trans (Nat.le_trans (Nat.le_trans (Nat.le_trans (Nat.le_trans s0 s1) s2) s3) s4) s5)
  obtain ⟨_, T44, L44, X44, hQ44, st44⟩ := own_specialNest X43 hx hZ hown (y := y_36) (a := b43) (own_mvNest hZ (w_242 hw)) (w_243 hw) (w_241 hw) (w_245 hw) (rm59 l Z a0 hw [] b43 b8 h43 n0 z6 Fn43_elements A43 g_b43 Fn43_allowNulls) e43 (Ls := #[.val (.ref a1), .val (.ref b8), .val (.int (4 : Int32))]) (by rw [hml]; rfl) (argsL := [(.ref b8), (.int (0 : Int32))]) (rest := [(.ref b43)]) (lenOf pd_21 rfl) (hb hby d34_35) (W := 1)
  obtain ⟨rfl, Nq44, K44, o44_0, o44_1, o44_2⟩ := hQ44
  have N44 := Fr.app N40 Nq44
  have s6 := K44.1
  have sz_b43 : h0.size ≤ b43 := Nat.le_trans (Nat.le_trans (Nat.le_trans (Nat.le_trans (Nat.le_trans s0 s1) s2) s3) s4) (Nat.le_of_eq g43.symm)
  have sz_b8 : h0.size ≤ b8 := (Nat.le_of_eq g8.symm)
  have Ex45 := ((((((B8.wr W16).wr W24).wr W32).wr W40).ext E43).keep K44)
  have ne_b8_b43 := Nat.ne_of_lt (Nat.lt_of_lt_of_le Vs40.lt (Nat.le_of_eq g43.symm))
  have Va46 := ((Vs40.ext E43).keep K44 (ninS ne_b8_b43 nin0))
  have Kp0 : Keep h0 h8 [] := (Keep.refl h0 []).ext E8
  have Kp1 : Keep h0 h16 [] := Kp0.wr W16 (Or.inr sz_b8)
  have Kp2 : Keep h0 h24 [] := Kp1.wr W24 (Or.inr sz_b8)
  have Kp3 : Keep h0 h32 [] := Kp2.wr W32 (Or.inr sz_b8)
  have Kp4 : Keep h0 h40 [] := Kp3.wr W40 (Or.inr sz_b8)
  have Kp5 : Keep h0 h43 [] := Kp4.ext E43
  have Kp6 : Keep h0 T44.heap [] := Kp5.trans K44 (allS (Or.inr sz_b43) all0)
  refine ⟨T44, _, _, _, (some (.ref b43)), X44, nofun, by decide, by decide, ?_, fun fs hr => ?_⟩
  · show Q92 Z a1 a2 a3 a4 a5 k6 h0 n0 _ T44.heap _
    exact ⟨b43, b8, k8, rfl, N44, Kp6, sz_b43, o44_0, o44_1, o44_2, sz_b8, Ex45, O8, Va46, (Ne.symm ne_b8_b43)⟩
  · show Steps p.tables e below (s₁.setTop (mkF m 0 #[.val (.ref a1), .unset, .unset] [])) _
    refine XS.aloadN X0.here hx rfl (hb hby d34_0) rfl rfl ?_
    refine X0.arraylength hx (by rw [e0]; exact Ar7.1) (State.isArrayOf_alike hZ.alike Ar7.2.1) (g := (mkF m 1 #[.val (.ref a1), .unset, .unset] [(.ref a1)])) rfl rfl (hb hby d34_1) _ ?_
    show Steps p.tables e below (s₁.setTop (mkF m 2 #[.val (.ref a1), .unset, .unset] [(.int cl7.slots.size.toInt32)])) _
    rw [len_of S7 M7]
    refine st8 _ ?_
    refine XS.astoreN X8.here hx rfl (hb hby d34_5) rfl rfl (l' := #[.val (.ref a1), .val (.ref b8), .unset]) rfl ?_
    refine XS.iconst X8.here hx rfl (hb hby d34_6) ?_
    refine XS.istoreN X8.here hx rfl (hb hby d34_7) rfl (l' := #[.val (.ref a1), .val (.ref b8), .val (.int (0 : Int32))]) rfl ?_
    refine XS.iloadN X8.here hx rfl (hb hby d34_8) rfl ?_
    refine XS.aloadN X8.here hx rfl (hb hby d34_9) rfl rfl ?_
    refine X8.arraylength hx (by rw [e8]; exact Ar10.1) (State.isArrayOf_alike hZ.alike Ar10.2.1) (g := (mkF m 10 #[.val (.ref a1), .val (.ref b8), .val (.int (0 : Int32))] [(.ref a1), (.int (0 : Int32))])) rfl rfl (hb hby d34_10) _ ?_
    show Steps p.tables e below (T8.setTop (mkF m 11 #[.val (.ref a1), .val (.ref b8), .val (.int (0 : Int32))] [(.int cl10.slots.size.toInt32), (.int (0 : Int32))])) _
    rw [len_of S10 M10]
    refine XS.icmpNo X8.here hx rfl (hb hby d34_11) rfl (tlt ((by decide : (0 : Int32) < (4 : Int32)) : (0 : Int32) < (4 : Int32))).2.1 ?_
    refine XS.aloadN X8.here hx rfl (hb hby d34_14) rfl rfl ?_
    refine XS.iloadN X8.here hx rfl (hb hby d34_15) rfl ?_
    refine XS.aloadN X8.here hx rfl (hb hby d34_16) rfl rfl ?_
    refine XS.iloadN X8.here hx rfl (hb hby d34_17) rfl ?_
    refine X8.aaload hx (j := (0 : Int32)) (v := (.ref a2)) (by rw [e8]; exact Ar10.1) (State.isArrayOf_alike hZ.alike Ar10.2.1) rfl Ar10.2.2 hin11 (Has.at Hs10 hin11 rfl) (g := (mkF m 18 #[.val (.ref a1), .val (.ref b8), .val (.int (0 : Int32))] [(.int (0 : Int32)), (.ref a1), (.int (0 : Int32)), (.ref b8)])) rfl rfl (hb hby d34_18) _ ?_
    refine st12 _ ?_
    refine st16 _ ?_
    refine XS.iinc X16.here hx rfl (hb hby d34_23) rfl (l' := #[.val (.ref a1), .val (.ref b8), .val (.int (1 : Int32))]) rfl ?_
    refine XS.goto X16.here hx rfl (pc0 := 26) (pc' := 8) rfl (hb hby d34_26) (by decide) (by decide) ?_
    refine XS.iloadN X16.here hx rfl (hb hby d34_8) rfl ?_
    show Steps p.tables e below (T16.setTop (mkF m 9 #[.val (.ref a1), .val (.ref b8), .val (.int (1 : Int32))] [(.int (1 : Int32))])) _
    refine XS.aloadN X16.here hx rfl (hb hby d34_9) rfl rfl ?_
    refine X16.arraylength hx (by rw [e16]; exact Ar18.1) (State.isArrayOf_alike hZ.alike Ar18.2.1) (g := (mkF m 10 #[.val (.ref a1), .val (.ref b8), .val (.int (1 : Int32))] [(.ref a1), (.int (1 : Int32))])) rfl rfl (hb hby d34_10) _ ?_
    show Steps p.tables e below (T16.setTop (mkF m 11 #[.val (.ref a1), .val (.ref b8), .val (.int (1 : Int32))] [(.int cl18.slots.size.toInt32), (.int (1 : Int32))])) _
    rw [len_of S18 M18]
    refine XS.icmpNo X16.here hx rfl (hb hby d34_11) rfl (tlt ((by decide : (1 : Int32) < (4 : Int32)) : (1 : Int32) < (4 : Int32))).2.1 ?_
    refine XS.aloadN X16.here hx rfl (hb hby d34_14) rfl rfl ?_
    refine XS.iloadN X16.here hx rfl (hb hby d34_15) rfl ?_
    refine XS.aloadN X16.here hx rfl (hb hby d34_16) rfl rfl ?_
    refine XS.iloadN X16.here hx rfl (hb hby d34_17) rfl ?_
    refine X16.aaload hx (j := (1 : Int32)) (v := (.ref a3)) (by rw [e16]; exact Ar18.1) (State.isArrayOf_alike hZ.alike Ar18.2.1) rfl Ar18.2.2 hin19 (Has.at Hs18 hin19 rfl) (g := (mkF m 18 #[.val (.ref a1), .val (.ref b8), .val (.int (1 : Int32))] [(.int (1 : Int32)), (.ref a1), (.int (1 : Int32)), (.ref b8)])) rfl rfl (hb hby d34_18) _ ?_
    refine st20 _ ?_
    refine st24 _ ?_
    refine XS.iinc X24.here hx rfl (hb hby d34_23) rfl (l' := #[.val (.ref a1), .val (.ref b8), .val (.int (2 : Int32))]) rfl ?_
    refine XS.goto X24.here hx rfl (pc0 := 26) (pc' := 8) rfl (hb hby d34_26) (by decide) (by decide) ?_
    refine XS.iloadN X24.here hx rfl (hb hby d34_8) rfl ?_
    show Steps p.tables e below (T24.setTop (mkF m 9 #[.val (.ref a1), .val (.ref b8), .val (.int (2 : Int32))] [(.int (2 : Int32))])) _
    refine XS.aloadN X24.here hx rfl (hb hby d34_9) rfl rfl ?_
    refine X24.arraylength hx (by rw [e24]; exact Ar26.1) (State.isArrayOf_alike hZ.alike Ar26.2.1) (g := (mkF m 10 #[.val (.ref a1), .val (.ref b8), .val (.int (2 : Int32))] [(.ref a1), (.int (2 : Int32))])) rfl rfl (hb hby d34_10) _ ?_
    show Steps p.tables e below (T24.setTop (mkF m 11 #[.val (.ref a1), .val (.ref b8), .val (.int (2 : Int32))] [(.int cl26.slots.size.toInt32), (.int (2 : Int32))])) _
    rw [len_of S26 M26]
    refine XS.icmpNo X24.here hx rfl (hb hby d34_11) rfl (tlt ((by decide : (2 : Int32) < (4 : Int32)) : (2 : Int32) < (4 : Int32))).2.1 ?_
    refine XS.aloadN X24.here hx rfl (hb hby d34_14) rfl rfl ?_
    refine XS.iloadN X24.here hx rfl (hb hby d34_15) rfl ?_
    refine XS.aloadN X24.here hx rfl (hb hby d34_16) rfl rfl ?_
    refine XS.iloadN X24.here hx rfl (hb hby d34_17) rfl ?_
    refine X24.aaload hx (j := (2 : Int32)) (v := (.ref a4)) (by rw [e24]; exact Ar26.1) (State.isArrayOf_alike hZ.alike Ar26.2.1) rfl Ar26.2.2 hin27 (Has.at Hs26 hin27 rfl) (g := (mkF m 18 #[.val (.ref a1), .val (.ref b8), .val (.int (2 : Int32))] [(.int (2 : Int32)), (.ref a1), (.int (2 : Int32)), (.ref b8)])) rfl rfl (hb hby d34_18) _ ?_
    refine st28 _ ?_
    refine st32 _ ?_
    refine XS.iinc X32.here hx rfl (hb hby d34_23) rfl (l' := #[.val (.ref a1), .val (.ref b8), .val (.int (3 : Int32))]) rfl ?_
    refine XS.goto X32.here hx rfl (pc0 := 26) (pc' := 8) rfl (hb hby d34_26) (by decide) (by decide) ?_
    refine XS.iloadN X32.here hx rfl (hb hby d34_8) rfl ?_
    show Steps p.tables e below (T32.setTop (mkF m 9 #[.val (.ref a1), .val (.ref b8), .val (.int (3 : Int32))] [(.int (3 : Int32))])) _
    refine XS.aloadN X32.here hx rfl (hb hby d34_9) rfl rfl ?_
    refine X32.arraylength hx (by rw [e32]; exact Ar34.1) (State.isArrayOf_alike hZ.alike Ar34.2.1) (g := (mkF m 10 #[.val (.ref a1), .val (.ref b8), .val (.int (3 : Int32))] [(.ref a1), (.int (3 : Int32))])) rfl rfl (hb hby d34_10) _ ?_
    show Steps p.tables e below (T32.setTop (mkF m 11 #[.val (.ref a1), .val (.ref b8), .val (.int (3 : Int32))] [(.int cl34.slots.size.toInt32), (.int (3 : Int32))])) _
    rw [len_of S34 M34]
    refine XS.icmpNo X32.here hx rfl (hb hby d34_11) rfl (tlt ((by decide : (3 : Int32) < (4 : Int32)) : (3 : Int32) < (4 : Int32))).2.1 ?_
    refine XS.aloadN X32.here hx rfl (hb hby d34_14) rfl rfl ?_
    refine XS.iloadN X32.here hx rfl (hb hby d34_15) rfl ?_
    refine XS.aloadN X32.here hx rfl (hb hby d34_16) rfl rfl ?_
    refine XS.iloadN X32.here hx rfl (hb hby d34_17) rfl ?_
    refine X32.aaload hx (j := (3 : Int32)) (v := (.ref a5)) (by rw [e32]; exact Ar34.1) (State.isArrayOf_alike hZ.alike Ar34.2.1) rfl Ar34.2.2 hin35 (Has.at Hs34 hin35 rfl) (g := (mkF m 18 #[.val (.ref a1), .val (.ref b8), .val (.int (3 : Int32))] [(.int (3 : Int32)), (.ref a1), (.int (3 : Int32)), (.ref b8)])) rfl rfl (hb hby d34_18) _ ?_
    refine st36 _ ?_
    refine st40 _ ?_
    refine XS.iinc X40.here hx rfl (hb hby d34_23) rfl (l' := #[.val (.ref a1), .val (.ref b8), .val (.int (4 : Int32))]) rfl ?_
    refine XS.goto X40.here hx rfl (pc0 := 26) (pc' := 8) rfl (hb hby d34_26) (by decide) (by decide) ?_
    refine XS.iloadN X40.here hx rfl (hb hby d34_8) rfl ?_
    show Steps p.tables e below (T40.setTop (mkF m 9 #[.val (.ref a1), .val (.ref b8), .val (.int (4 : Int32))] [(.int (4 : Int32))])) _
    refine XS.aloadN X40.here hx rfl (hb hby d34_9) rfl rfl ?_
    refine X40.arraylength hx (by rw [e40]; exact Ar42.1) (State.isArrayOf_alike hZ.alike Ar42.2.1) (g := (mkF m 10 #[.val (.ref a1), .val (.ref b8), .val (.int (4 : Int32))] [(.ref a1), (.int (4 : Int32))])) rfl rfl (hb hby d34_10) _ ?_
    show Steps p.tables e below (T40.setTop (mkF m 11 #[.val (.ref a1), .val (.ref b8), .val (.int (4 : Int32))] [(.int cl42.slots.size.toInt32), (.int (4 : Int32))])) _
    rw [len_of S42 M42]
    refine XS.icmpYes X40.here hx rfl (pc0 := 11) (pc' := 29) rfl (hb hby d34_11) rfl (flt ((by decide : ¬ ((4 : Int32) < (4 : Int32))) : ¬ ((4 : Int32) < (4 : Int32)))).2.1 (by decide) (by decide) ?_
    refine st43 _ ?_
    refine XS.dup X43.here hx rfl (hb hby d34_32) rfl rfl ?_
    refine XS.aloadN X43.here hx rfl (hb hby d34_33) rfl rfl ?_
    refine XS.iconst X43.here hx rfl (hb hby d34_34) ?_
    refine st44 _ ?_
    exact retOut X44 hx hret rfl (Or.inr (Or.inr (Or.inr (Or.inr ⟨rfl, rfl, rfl⟩)))) (hb hby d34_38) hr
-- java/util/List.of([Ljava/lang/Object;)Ljava/util/List;
abbrev Rm93 : Room := { frames := 6, cells := 2, slots := 6, locals := 77 }
def Q93 (Z : State) (a1 : Addr) (a2 : Addr) (a3 : Addr) (a4 : Addr) (a5 : Addr) (k6 : ClassId) (h0 : Heap) (n0 : Nat) (v : Option Value) (h : Heap) (L : List Loc) : Prop := ∃ b8_b43 : Addr, ∃ b8_b8 : Addr, ∃ k8_k8 : ClassId, v = some (.ref b8_b43) ∧ Fr n0 L ∧ Keep h0 h [] ∧ h0.size ≤ b8_b43 ∧ Exa Z h b8_b43 "java/util/ImmutableCollections$ListN" ∧ Fld Z h b8_b43 "java/util/ImmutableCollections$ListN" "allowNulls" "Z" (.int (0 : Int32)) ∧ Fld Z h b8_b43 "java/util/ImmutableCollections$ListN" "elements" "[Ljava/lang/Object;" (.ref b8_b8) ∧ h0.size ≤ b8_b8 ∧ Exa Z h b8_b8 "[Ljava/lang/Object;" ∧ Ovr Z k8_k8 "java/lang/Object" ∧ Arv Z h b8_b8 k8_k8 (.object "java/lang/Object") (4 : Int32) [(.ref a2), (.ref a3), (.ref a4), (.ref a5)] .null ∧ b8_b43 ≠ b8_b8
theorem ef93 (a1 : Addr) (m : MethodId) : entryFrame m #[(.ref a1)] 2 = mkF m 0 #[.val (.ref a1), .unset] [] := by first | (simp [entryFrame, mkF, argsToLocals, Value.category]; done) | rfl
theorem rm93 (l : Launch) (Z : State) (a0 : Array Value) (hw : ∀ d ∈ tables_1, d.before a0 Z = true) (ws : List Jvm.Cond) (a1 : Addr) (a2 : Addr) (a3 : Addr) (a4 : Addr) (a5 : Addr) (k6 : ClassId) (h0 : Heap) (n0 : Nat) (Z0 : n0 ≤ h0.size) (V_a1 : Arv Z h0 a1 k6 (.object "java/lang/Object") (4 : Int32) [(.ref a2), (.ref a3), (.ref a4), (.ref a5)] .null) (E_a2 : Exa Z h0 a2 "java/lang/Double") (E_a3 : Exa Z h0 a3 "java/lang/Double") (E_a4 : Exa Z h0 a4 "java/lang/Double") (E_a5 : Exa Z h0 a5 "java/lang/Double") :
    OwnMet l Z y_26 jdk_40_method_47_code 2 (some (.object "java/util/List")) ws Rm93 #[(.ref a1)] h0 (Q93 Z a1 a2 a3 a4 a5 k6 h0 n0) := by
  refine own_body (plainFor_of_name pn_12) (ef93 a1) ?_
  intro p e s m below meth c s₁ hx hby hml hown hnm hret hZ X0 e0
  have N0 := Fr.nil n0
  obtain ⟨cl7, Ar7, q7, S7, M7, Hs7, G7⟩ := id V_a1
  obtain ⟨_, T8, L8, X8, hQ8, st8⟩ := own_callS X0 hx hZ hown (y := y_37) (w_235 hw) (w_236 hw) (w_118 hw) (w_237 hw) (rm92 l Z a0 hw [] a1 a2 a3 a4 a5 k6 h0 n0 Z0 V_a1 E_a2 E_a3 E_a4 E_a5) e0 (Ls := #[.val (.ref a1), .unset]) (by rw [hml]; rfl) (argsL := [(.ref a1)]) (rest := []) (lenOf pd_15 rfl) (hb hby d24_60) (W := 0)
  obtain ⟨b8_b43, b8_b8, k8_k8, rfl, Nq8, K8, o8_0, o8_1, o8_2, o8_3, o8_4, o8_5, o8_6, o8_7, o8_8⟩ := hQ8
  have N8 := Fr.app N0 Nq8
  have s0 := K8.1
  have sz_b8_b43 : h0.size ≤ b8_b43 := o8_0
  have sz_b8_b8 : h0.size ≤ b8_b8 := o8_4
  have Kp0 : Keep h0 T8.heap [] := (Keep.refl h0 []).trans K8 all0
  refine ⟨T8, _, _, _, (some (.ref b8_b43)), X8, nofun, by decide, by decide, ?_, fun fs hr => ?_⟩
  · show Q93 Z a1 a2 a3 a4 a5 k6 h0 n0 _ T8.heap _
    exact ⟨b8_b43, b8_b8, k8_k8, rfl, N8, Kp0, sz_b8_b43, o8_1, o8_2, o8_3, sz_b8_b8, o8_5, o8_6, o8_7, o8_8⟩
  · show Steps p.tables e below (s₁.setTop (mkF m 0 #[.val (.ref a1), .unset] [])) _
    refine XS.aloadN X0.here hx rfl (hb hby d24_0) rfl rfl ?_
    refine X0.arraylength hx (by rw [e0]; exact Ar7.1) (State.isArrayOf_alike hZ.alike Ar7.2.1) (g := (mkF m 1 #[.val (.ref a1), .unset] [(.ref a1)])) rfl rfl (hb hby d24_1) _ ?_
    show Steps p.tables e below (s₁.setTop (mkF m 2 #[.val (.ref a1), .unset] [(.int cl7.slots.size.toInt32)])) _
    rw [len_of S7 M7]
    refine XS.tswOut X0.here hx rfl (pc0 := 2) (pc' := 59) rfl (hb hby d24_2) rfl (by decide) (by decide) (by decide) ?_
    refine XS.aloadN X0.here hx rfl (hb hby d24_59) rfl rfl ?_
    refine st8 _ ?_
    exact retOut X8 hx hret rfl (Or.inr (Or.inr (Or.inr (Or.inr ⟨rfl, rfl, rfl⟩)))) (hb hby d24_63) hr
-- java/util/ImmutableCollections.listCopy(Ljava/util/Collection;)Ljava/util/List;
abbrev Rm94 : Room := { frames := 7, cells := 3, slots := 10, locals := 90 }
def Q94 (Z : State) (a1 : Addr) (a5 : Addr) (a6 : Addr) (a7 : Addr) (a8 : Addr) (a9 : Addr) (a10 : Addr) (k11 : ClassId) (h0 : Heap) (n0 : Nat) (v : Option Value) (h : Heap) (L : List Loc) : Prop := ∃ b17_b8_b43 : Addr, ∃ b17_b8_b8 : Addr, ∃ k17_k8_k8 : ClassId, v = some (.ref b17_b8_b43) ∧ Fr n0 L ∧ Keep h0 h [] ∧ h0.size ≤ b17_b8_b43 ∧ Exa Z h b17_b8_b43 "java/util/ImmutableCollections$ListN" ∧ Fld Z h b17_b8_b43 "java/util/ImmutableCollections$ListN" "allowNulls" "Z" (.int (0 : Int32)) ∧ Fld Z h b17_b8_b43 "java/util/ImmutableCollections$ListN" "elements" "[Ljava/lang/Object;" (.ref b17_b8_b8) ∧ h0.size ≤ b17_b8_b8 ∧ Exa Z h b17_b8_b8 "[Ljava/lang/Object;" ∧ Ovr Z k17_k8_k8 "java/lang/Object" ∧ Arv Z h b17_b8_b8 k17_k8_k8 (.object "java/lang/Object") (4 : Int32) [(.ref a7), (.ref a8), (.ref a9), (.ref a10)] .null ∧ b17_b8_b43 ≠ b17_b8_b8
theorem ef94 (a1 : Addr) (m : MethodId) : entryFrame m #[(.ref a1)] 2 = mkF m 0 #[.val (.ref a1), .unset] [] := by first | (simp [entryFrame, mkF, argsToLocals, Value.category]; done) | rfl
theorem rm94 (l : Launch) (Z : State) (a0 : Array Value) (hw : ∀ d ∈ tables_1, d.before a0 Z = true) (ws : List Jvm.Cond) (a1 : Addr) (a5 : Addr) (a6 : Addr) (a7 : Addr) (a8 : Addr) (a9 : Addr) (a10 : Addr) (k11 : ClassId) (h0 : Heap) (n0 : Nat) (Z0 : n0 ≤ h0.size) (E_a1 : Exa Z h0 a1 "java/util/ArrayList") (F_size_a1 : Fld Z h0 a1 "java/util/ArrayList" "size" "I" (.int (4 : Int32))) (F_elementData_a1 : Fld Z h0 a1 "java/util/ArrayList" "elementData" "[Ljava/lang/Object;" (.ref a5)) (E_a5 : Exa Z h0 a5 "[Ljava/lang/Object;") (M_1 : OwnMir Z "[Ljava/lang/Object;" a6) (V_a5 : Arv Z h0 a5 k11 (.object "java/lang/Object") (10 : Int32) [(.ref a7), (.ref a8), (.ref a9), (.ref a10), .null, .null, .null, .null, .null, .null] .null) (E_a10 : Exa Z h0 a10 "java/lang/Double") (E_a9 : Exa Z h0 a9 "java/lang/Double") (E_a8 : Exa Z h0 a8 "java/lang/Double") (E_a7 : Exa Z h0 a7 "java/lang/Double") :
    OwnMet l Z y_27 jdk_56_method_3_code 2 (some (.object "java/util/List")) ws Rm94 #[(.ref a1)] h0 (Q94 Z a1 a5 a6 a7 a8 a9 a10 k11 h0 n0) := by
  refine own_body (plainFor_of_name pn_13) (ef94 a1) ?_
  intro p e s m below meth c s₁ hx hby hml hown hnm hret hZ X0 e0
  have N0 := Fr.nil n0
  obtain ⟨T2, X2, e2, st2⟩ := instNo X0 hx hZ hown (w_120 hw) e0 E_a1 (own_NSno (w_121 hw) (w_169 hw) (NS.step (w_121 hw) (NS.step (w_122 hw) (NS.step (w_123 hw) (own_NSroot (w_124 hw) (w_169 hw) (by decide)) (by decide)) (by decide)) (by decide)) (by decide)) (g := (mkF m 1 #[.val (.ref a1), .unset] [(.ref a1)])) rfl rfl (hb hby d18_1)
  obtain ⟨T3, X3, e3, st3⟩ := instNo X2 hx hZ hown (w_125 hw) e2 E_a1 (own_NSno (w_121 hw) (w_240 hw) (NS.step (w_121 hw) (NS.step (w_122 hw) (NS.step (w_123 hw) (own_NSroot (w_124 hw) (w_240 hw) (by decide)) (by decide)) (by decide)) (by decide)) (by decide)) (g := (mkF m 8 #[.val (.ref a1), .unset] [(.ref a1)])) rfl rfl (hb hby d18_8)
  obtain ⟨_, T4, L4, X4, hQ4, st4⟩ := own_iface X3 hx hZ hown (y := y_16) (z := y_15) E_a1 (w_126 hw) (w_127 hw) (w_128 hw) (w_129 hw) (w_130 hw) (w_131 hw) (w_132 hw) (w_133 hw) (w_23 hw) (w_134 hw) (rm80 l Z a0 hw [] a1 h0 n0 Z0 F_size_a1) e3 (Ls := #[.val (.ref a1), .unset]) (by rw [hml]; rfl) (argsL := []) (rest := []) (lenOf pd_10 rfl) (hb hby d18_32) (W := 0)
  obtain ⟨rfl, Nq4, e4⟩ := hQ4
  have N4 := Fr.app N0 Nq4
  obtain ⟨_, T12, L12, X12, hQ12, st12⟩ := own_iface X4 hx hZ hown (y := y_21) (z := y_20) E_a1 (w_135 hw) (w_136 hw) (w_137 hw) (w_138 hw) (w_139 hw) (w_140 hw) (w_141 hw) (w_133 hw) (w_23 hw) (w_142 hw) (rm91 l Z a0 hw [] a1 a5 a6 a7 a8 a9 a10 k11 h0 n0 Z0 F_elementData_a1 F_size_a1 E_a5 M_1 V_a5 E_a10 E_a9 E_a8 E_a7) e4 (Ls := #[.val (.ref a1), .unset]) (by rw [hml]; rfl) (argsL := []) (rest := []) (lenOf pd_4 rfl) (hb hby d18_45) (W := 0)
  obtain ⟨b12_b11_b9_b4, k12_k11_k9_k4, rfl, Nq12, K12, o12_0, o12_1, o12_2, o12_3⟩ := hQ12
  have N12 := Fr.app N4 Nq12
  have s0 := K12.1
  have Ex13 := (E_a7.keep K12)
  have Ex14 := (E_a8.keep K12)
  have Ex15 := (E_a9.keep K12)
  have Ex16 := (E_a10.keep K12)
  have z1 := Nat.le_trans Z0 s0
  obtain ⟨_, T17, L17, X17, hQ17, st17⟩ := own_callS X12 hx hZ hown (y := y_26) (w_165 hw) (w_166 hw) (w_114 hw) (w_167 hw) (rm93 l Z a0 hw [] b12_b11_b9_b4 a7 a8 a9 a10 k12_k11_k9_k4 T12.heap n0 z1 o12_3 Ex13 Ex14 Ex15 Ex16) rfl (Ls := #[.val (.ref a1), .unset]) (by rw [hml]; rfl) (argsL := [(.ref b12_b11_b9_b4)]) (rest := []) (lenOf pd_15 rfl) (hb hby d18_50) (W := 0)
  obtain ⟨b17_b8_b43, b17_b8_b8, k17_k8_k8, rfl, Nq17, K17, o17_0, o17_1, o17_2, o17_3, o17_4, o17_5, o17_6, o17_7, o17_8⟩ := hQ17
  have N17 := Fr.app N12 Nq17
  have s1 := K17.1
  have sz_b17_b8_b43 : h0.size ≤ b17_b8_b43 := Nat.le_trans s0 o17_0
  have sz_b17_b8_b8 : h0.size ≤ b17_b8_b8 := Nat.le_trans s0 o17_4
  have Kp0 : Keep h0 T12.heap [] := (Keep.refl h0 []).trans K12 all0
  have Kp1 : Keep h0 T17.heap [] := Kp0.trans K17 all0
  refine ⟨T17, _, _, _, (some (.ref b17_b8_b43)), X17, nofun, by decide, by decide, ?_, fun fs hr => ?_⟩
  · show Q94 Z a1 a5 a6 a7 a8 a9 a10 k11 h0 n0 _ T17.heap _
    exact ⟨b17_b8_b43, b17_b8_b8, k17_k8_k8, rfl, N17, Kp1, sz_b17_b8_b43, o17_1, o17_2, o17_3, sz_b17_b8_b8, o17_5, o17_6, o17_7, o17_8⟩
  · show Steps p.tables e below (s₁.setTop (mkF m 0 #[.val (.ref a1), .unset] [])) _
    refine XS.aloadN X0.here hx rfl (hb hby d18_0) rfl rfl ?_
    refine st2 _ ?_
    refine XS.ifNo X2.here hx rfl (hb hby d18_4) rfl ((if0 _ _).trans (teq ((by decide : (0 : Int32) = (0 : Int32)) : (0 : Int32) = (0 : Int32))).2) ?_
    refine XS.aloadN X2.here hx rfl (hb hby d18_7) rfl rfl ?_
    refine st3 _ ?_
    refine XS.ifYes X3.here hx rfl (pc0 := 11) (pc' := 31) rfl (hb hby d18_11) rfl ((if0 _ _).trans (teq ((by decide : (0 : Int32) = (0 : Int32)) : (0 : Int32) = (0 : Int32))).1) (by decide) (by decide) ?_
    refine XS.aloadN X3.here hx rfl (hb hby d18_31) rfl rfl ?_
    refine st4 _ ?_
    refine XS.ifYes X4.here hx rfl (pc0 := 37) (pc' := 44) rfl (hb hby d18_37) rfl ((if0 _ _).trans (teq ((by decide : (0 : Int32) = (0 : Int32)) : (0 : Int32) = (0 : Int32))).1) (by decide) (by decide) ?_
    refine XS.aloadN X4.here hx rfl (hb hby d18_44) rfl rfl ?_
    refine st12 _ ?_
    refine st17 _ ?_
    show Steps p.tables e below (T17.setTop (mkF m 53 #[.val (.ref a1), .unset] [(.ref b17_b8_b43)])) _
    exact retOut X17 hx hret rfl (Or.inr (Or.inr (Or.inr (Or.inr ⟨rfl, rfl, rfl⟩)))) (hb hby d18_53) hr
-- java/util/List.copyOf(Ljava/util/Collection;)Ljava/util/List;
abbrev Rm95 : Room := { frames := 8, cells := 3, slots := 10, locals := 103 }
def Q95 (Z : State) (a1 : Addr) (a2 : Addr) (a3 : Addr) (a4 : Addr) (a5 : Addr) (a6 : Addr) (a7 : Addr) (k8 : ClassId) (h0 : Heap) (n0 : Nat) (v : Option Value) (h : Heap) (L : List Loc) : Prop := ∃ b9_b17_b8_b43 : Addr, ∃ b9_b17_b8_b8 : Addr, ∃ k9_k17_k8_k8 : ClassId, v = some (.ref b9_b17_b8_b43) ∧ Fr n0 L ∧ Keep h0 h [] ∧ h0.size ≤ b9_b17_b8_b43 ∧ Exa Z h b9_b17_b8_b43 "java/util/ImmutableCollections$ListN" ∧ Fld Z h b9_b17_b8_b43 "java/util/ImmutableCollections$ListN" "allowNulls" "Z" (.int (0 : Int32)) ∧ Fld Z h b9_b17_b8_b43 "java/util/ImmutableCollections$ListN" "elements" "[Ljava/lang/Object;" (.ref b9_b17_b8_b8) ∧ h0.size ≤ b9_b17_b8_b8 ∧ Exa Z h b9_b17_b8_b8 "[Ljava/lang/Object;" ∧ Ovr Z k9_k17_k8_k8 "java/lang/Object" ∧ Arv Z h b9_b17_b8_b8 k9_k17_k8_k8 (.object "java/lang/Object") (4 : Int32) [(.ref a4), (.ref a5), (.ref a6), (.ref a7)] .null ∧ b9_b17_b8_b43 ≠ b9_b17_b8_b8
theorem ef95 (a1 : Addr) (m : MethodId) : entryFrame m #[(.ref a1)] 1 = mkF m 0 #[.val (.ref a1)] [] := by first | (simp [entryFrame, mkF, argsToLocals, Value.category]; done) | rfl
theorem rm95 (l : Launch) (Z : State) (a0 : Array Value) (hw : ∀ d ∈ tables_1, d.before a0 Z = true) (ws : List Jvm.Cond) (a1 : Addr) (a2 : Addr) (a3 : Addr) (a4 : Addr) (a5 : Addr) (a6 : Addr) (a7 : Addr) (k8 : ClassId) (h0 : Heap) (n0 : Nat) (Z0 : n0 ≤ h0.size) (E_a1 : Exa Z h0 a1 "java/util/ArrayList") (F_size_a1 : Fld Z h0 a1 "java/util/ArrayList" "size" "I" (.int (4 : Int32))) (F_elementData_a1 : Fld Z h0 a1 "java/util/ArrayList" "elementData" "[Ljava/lang/Object;" (.ref a2)) (E_a2 : Exa Z h0 a2 "[Ljava/lang/Object;") (M_1 : OwnMir Z "[Ljava/lang/Object;" a3) (V_a2 : Arv Z h0 a2 k8 (.object "java/lang/Object") (10 : Int32) [(.ref a4), (.ref a5), (.ref a6), (.ref a7), .null, .null, .null, .null, .null, .null] .null) (E_a7 : Exa Z h0 a7 "java/lang/Double") (E_a6 : Exa Z h0 a6 "java/lang/Double") (E_a5 : Exa Z h0 a5 "java/lang/Double") (E_a4 : Exa Z h0 a4 "java/lang/Double") :
    OwnMet l Z y_28 jdk_40_method_48_code 1 (some (.object "java/util/List")) ws Rm95 #[(.ref a1)] h0 (Q95 Z a1 a2 a3 a4 a5 a6 a7 k8 h0 n0) := by
  refine own_body (plainFor_of_name pn_12) (ef95 a1) ?_
  intro p e s m below meth c s₁ hx hby hml hown hnm hret hZ X0 e0
  have N0 := Fr.nil n0
  obtain ⟨_, T9, L9, X9, hQ9, st9⟩ := own_callS X0 hx hZ hown (y := y_27) (w_116 hw) (w_117 hw) (w_118 hw) (w_119 hw) (rm94 l Z a0 hw [] a1 a2 a3 a4 a5 a6 a7 k8 h0 n0 Z0 E_a1 F_size_a1 F_elementData_a1 E_a2 M_1 V_a2 E_a7 E_a6 E_a5 E_a4) e0 (Ls := #[.val (.ref a1)]) (by rw [hml]; rfl) (argsL := [(.ref a1)]) (rest := []) (lenOf pd_16 rfl) (hb hby d17_1) (W := 0)
  obtain ⟨b9_b17_b8_b43, b9_b17_b8_b8, k9_k17_k8_k8, rfl, Nq9, K9, o9_0, o9_1, o9_2, o9_3, o9_4, o9_5, o9_6, o9_7, o9_8⟩ := hQ9
  have N9 := Fr.app N0 Nq9
  have s0 := K9.1
  have sz_b9_b17_b8_b43 : h0.size ≤ b9_b17_b8_b43 := o9_0
  have sz_b9_b17_b8_b8 : h0.size ≤ b9_b17_b8_b8 := o9_4
  have Kp0 : Keep h0 T9.heap [] := (Keep.refl h0 []).trans K9 all0
  refine ⟨T9, _, _, _, (some (.ref b9_b17_b8_b43)), X9, nofun, by decide, by decide, ?_, fun fs hr => ?_⟩
  · show Q95 Z a1 a2 a3 a4 a5 a6 a7 k8 h0 n0 _ T9.heap _
    exact ⟨b9_b17_b8_b43, b9_b17_b8_b8, k9_k17_k8_k8, rfl, N9, Kp0, sz_b9_b17_b8_b43, o9_1, o9_2, o9_3, sz_b9_b17_b8_b8, o9_5, o9_6, o9_7, o9_8⟩
  · show Steps p.tables e below (s₁.setTop (mkF m 0 #[.val (.ref a1)] [])) _
    refine XS.aloadN X0.here hx rfl (hb hby d17_0) rfl rfl ?_
    refine st9 _ ?_
    exact retOut X9 hx hret rfl (Or.inr (Or.inr (Or.inr (Or.inr ⟨rfl, rfl, rfl⟩)))) (hb hby d17_4) hr
-- com/example/feedergen/feedergen/core/DrivenLine.<init>(Ljava/util/List;Ljava/util/List;DLjava/util/List;)V
abbrev Rm96 : Room := { frames := 9, cells := 6, slots := 20, locals := 115 }
def Q96 (Z : State) (a1 : Addr) (a2 : Addr) (a3 : Addr) (d4 : UInt64) (a5 : Addr) (a10 : Addr) (a11 : Addr) (a12 : Addr) (k13 : ClassId) (a17 : Addr) (a20 : Addr) (a21 : Addr) (a22 : Addr) (a23 : Addr) (k24 : ClassId) (a33 : Addr) (h0 : Heap) (n0 : Nat) (v : Option Value) (h : Heap) (L : List Loc) : Prop := ∃ b30_b9_b17_b8_b43 : Addr, ∃ b14_b6_b11_b5_b40 : Addr, ∃ b30_b9_b17_b8_b8 : Addr, ∃ k30_k9_k17_k8_k8 : ClassId, ∃ b14_b6_b11_b5_b5 : Addr, ∃ k14_k6_k11_k5_k5 : ClassId, v = none ∧ Fr n0 L ∧ Keep h0 h [a1] ∧ Exa Z h a1 "com/example/feedergen/feedergen/core/DrivenLine" ∧ Fld Z h a1 "com/example/feedergen/feedergen/core/DrivenLine" "distances" "Ljava/util/List;" (.ref b30_b9_b17_b8_b43) ∧ Fld Z h a1 "com/example/feedergen/feedergen/core/DrivenLine" "lengthBackward" "D" (.double d4) ∧ Fld Z h a1 "com/example/feedergen/feedergen/core/DrivenLine" "route" "Ljava/util/List;" (.ref a33) ∧ Fld Z h a1 "com/example/feedergen/feedergen/core/DrivenLine" "stops" "Ljava/util/List;" (.ref b14_b6_b11_b5_b40) ∧ h0.size ≤ b30_b9_b17_b8_b43 ∧ Exa Z h b30_b9_b17_b8_b43 "java/util/ImmutableCollections$ListN" ∧ Fld Z h b30_b9_b17_b8_b43 "java/util/ImmutableCollections$ListN" "allowNulls" "Z" (.int (0 : Int32)) ∧ Fld Z h b30_b9_b17_b8_b43 "java/util/ImmutableCollections$ListN" "elements" "[Ljava/lang/Object;" (.ref b30_b9_b17_b8_b8) ∧ h0.size ≤ b14_b6_b11_b5_b40 ∧ Exa Z h b14_b6_b11_b5_b40 "java/util/ImmutableCollections$ListN" ∧ Fld Z h b14_b6_b11_b5_b40 "java/util/ImmutableCollections$ListN" "allowNulls" "Z" (.int (0 : Int32)) ∧ Fld Z h b14_b6_b11_b5_b40 "java/util/ImmutableCollections$ListN" "elements" "[Ljava/lang/Object;" (.ref b14_b6_b11_b5_b5) ∧ h0.size ≤ b30_b9_b17_b8_b8 ∧ Exa Z h b30_b9_b17_b8_b8 "[Ljava/lang/Object;" ∧ Ovr Z k30_k9_k17_k8_k8 "java/lang/Object" ∧ Arv Z h b30_b9_b17_b8_b8 k30_k9_k17_k8_k8 (.object "java/lang/Object") (4 : Int32) [(.ref a20), (.ref a21), (.ref a22), (.ref a23)] .null ∧ h0.size ≤ b14_b6_b11_b5_b5 ∧ Exa Z h b14_b6_b11_b5_b5 "[Ljava/lang/Object;" ∧ Ovr Z k14_k6_k11_k5_k5 "java/lang/Object" ∧ Arv Z h b14_b6_b11_b5_b5 k14_k6_k11_k5_k5 (.object "java/lang/Object") (4 : Int32) [(.ref a12), (.ref a12), (.ref a12), (.ref a12)] .null ∧ b30_b9_b17_b8_b43 ≠ b14_b6_b11_b5_b40 ∧ b30_b9_b17_b8_b43 ≠ b30_b9_b17_b8_b8 ∧ b30_b9_b17_b8_b43 ≠ b14_b6_b11_b5_b5 ∧ b14_b6_b11_b5_b40 ≠ b30_b9_b17_b8_b8 ∧ b14_b6_b11_b5_b40 ≠ b14_b6_b11_b5_b5 ∧ b30_b9_b17_b8_b8 ≠ b14_b6_b11_b5_b5
theorem ef96 (a1 : Addr) (a2 : Addr) (a3 : Addr) (d4 : UInt64) (a5 : Addr) (m : MethodId) : entryFrame m #[(.ref a1), (.ref a2), (.ref a3), (.double d4), (.ref a5)] 6 = mkF m 0 #[.val (.ref a1), .val (.ref a2), .val (.ref a3), .val (.double d4), .second, .val (.ref a5)] [] := by first | (simp [entryFrame, mkF, argsToLocals, Value.category]; done) | rfl
theorem rm96 (l : Launch) (Z : State) (a0 : Array Value) (hw : ∀ d ∈ tables_1, d.before a0 Z = true) (ws : List Jvm.Cond) (a1 : Addr) (a2 : Addr) (a3 : Addr) (d4 : UInt64) (a5 : Addr) (a10 : Addr) (a11 : Addr) (a12 : Addr) (k13 : ClassId) (a17 : Addr) (a20 : Addr) (a21 : Addr) (a22 : Addr) (a23 : Addr) (k24 : ClassId) (a33 : Addr) (h0 : Heap) (n0 : Nat) (Z0 : n0 ≤ h0.size) (E_a2 : Exa Z h0 a2 "java/util/ArrayList") (F_size_a2 : Fld Z h0 a2 "java/util/ArrayList" "size" "I" (.int (4 : Int32))) (E_a3 : Exa Z h0 a3 "java/util/ArrayList") (F_size_a3 : Fld Z h0 a3 "java/util/ArrayList" "size" "I" (.int (4 : Int32))) (F_elementData_a2 : Fld Z h0 a2 "java/util/ArrayList" "elementData" "[Ljava/lang/Object;" (.ref a10)) (E_a10 : Exa Z h0 a10 "[Ljava/lang/Object;") (M_1 : OwnMir Z "[Ljava/lang/Object;" a11) (V_a10 : Arv Z h0 a10 k13 (.object "java/lang/Object") (10 : Int32) [(.ref a12), (.ref a12), (.ref a12), (.ref a12), .null, .null, .null, .null, .null, .null] .null) (E_a12 : Exa Z h0 a12 "com/example/feedergen/feedergen/core/StopCandidate") (F_elementData_a3 : Fld Z h0 a3 "java/util/ArrayList" "elementData" "[Ljava/lang/Object;" (.ref a17)) (E_a17 : Exa Z h0 a17 "[Ljava/lang/Object;") (V_a17 : Arv Z h0 a17 k24 (.object "java/lang/Object") (10 : Int32) [(.ref a20), (.ref a21), (.ref a22), (.ref a23), .null, .null, .null, .null, .null, .null] .null) (E_a23 : Exa Z h0 a23 "java/lang/Double") (E_a22 : Exa Z h0 a22 "java/lang/Double") (E_a21 : Exa Z h0 a21 "java/lang/Double") (E_a20 : Exa Z h0 a20 "java/lang/Double") (E_a5 : Exa Z h0 a5 "java/util/ArrayList") (F_size_a5 : Fld Z h0 a5 "java/util/ArrayList" "size" "I" (.int (0 : Int32))) (S_EMPTY_LIST : Sta Z Z.heap "java/util/ImmutableCollections" "EMPTY_LIST" "Ljava/util/ImmutableCollections$ListN;" (.ref a33)) (Od0 : Old Z n0 h0) (F_stops_a1 : Fld Z h0 a1 "com/example/feedergen/feedergen/core/DrivenLine" "stops" "Ljava/util/List;" .null) (E_a1 : Exa Z h0 a1 "com/example/feedergen/feedergen/core/DrivenLine") (g_a1 : n0 ≤ a1) (F_distances_a1 : Fld Z h0 a1 "com/example/feedergen/feedergen/core/DrivenLine" "distances" "Ljava/util/List;" .null) (F_lengthBackward_a1 : Fld Z h0 a1 "com/example/feedergen/feedergen/core/DrivenLine" "lengthBackward" "D" (.double (0 : UInt64))) (F_route_a1 : Fld Z h0 a1 "com/example/feedergen/feedergen/core/DrivenLine" "route" "Ljava/util/List;" .null) :
    OwnMet l Z y_30 prog_9_method_1_code 6 none ws Rm96 #[(.ref a1), (.ref a2), (.ref a3), (.double d4), (.ref a5)] h0 (Q96 Z a1 a2 a3 d4 a5 a10 a11 a12 k13 a17 a20 a21 a22 a23 k24 a33 h0 n0) := by
  refine own_body (plainFor_of_name pn_14) (ef96 a1 a2 a3 d4 a5) ?_
  intro p e s m below meth c s₁ hx hby hml hown hnm hret hZ X0 e0
  have N0 := Fr.nil n0
  obtain ⟨_, T6, L6, X6, hQ6, st6⟩ := own_special X0 hx hZ hown (y := y_0) (a := a1) (w_102 hw) (w_8 hw) (w_10 hw) (w_11 hw) (rm1 l Z a0 hw [] a1 h0 n0 Z0) e0 (Ls := #[.val (.ref a1), .val (.ref a2), .val (.ref a3), .val (.double d4), .second, .val (.ref a5)]) (by rw [hml]; rfl) (argsL := []) (rest := []) (lenOf pd_0 rfl) (hb hby d15_1) (W := 0)
  obtain ⟨rfl, Nq6, e6⟩ := hQ6
  have N6 := Fr.app N0 Nq6
  obtain ⟨_, T7, L7, X7, hQ7, st7⟩ := own_iface X6 hx hZ hown (y := y_14) (z := y_13) E_a2 (w_103 hw) (w_104 hw) (w_105 hw) (w_106 hw) (w_107 hw) (w_108 hw) (w_109 hw) (w_110 hw) (w_23 hw) (w_111 hw) (rm79 l Z a0 hw [] a2 h0 n0 Z0 F_size_a2) e6 (Ls := #[.val (.ref a1), .val (.ref a2), .val (.ref a3), .val (.double d4), .second, .val (.ref a5)]) (by rw [hml]; rfl) (argsL := []) (rest := []) (lenOf pd_9 rfl) (hb hby d15_5) (W := 0)
  obtain ⟨rfl, Nq7, e7⟩ := hQ7
  have N7 := Fr.app N6 Nq7
  obtain ⟨_, T8, L8, X8, hQ8, st8⟩ := own_iface X7 hx hZ hown (y := y_14) (z := y_13) E_a3 (w_103 hw) (w_104 hw) (w_105 hw) (w_106 hw) (w_107 hw) (w_108 hw) (w_109 hw) (w_110 hw) (w_23 hw) (w_111 hw) (rm79 l Z a0 hw [] a3 h0 n0 Z0 F_size_a3) e7 (Ls := #[.val (.ref a1), .val (.ref a2), .val (.ref a3), .val (.double d4), .second, .val (.ref a5)]) (by rw [hml]; rfl) (argsL := []) (rest := []) (lenOf pd_9 rfl) (hb hby d15_15) (W := 0)
  obtain ⟨rfl, Nq8, e8⟩ := hQ8
  have N8 := Fr.app N7 Nq8
  obtain ⟨_, T9, L9, X9, hQ9, st9⟩ := own_iface X8 hx hZ hown (y := y_14) (z := y_13) E_a2 (w_103 hw) (w_104 hw) (w_105 hw) (w_106 hw) (w_107 hw) (w_108 hw) (w_109 hw) (w_110 hw) (w_23 hw) (w_111 hw) (rm79 l Z a0 hw [] a2 h0 n0 Z0 F_size_a2) e8 (Ls := #[.val (.ref a1), .val (.ref a2), .val (.ref a3), .val (.double d4), .second, .val (.ref a5)]) (by rw [hml]; rfl) (argsL := []) (rest := [(.int (4 : Int32))]) (lenOf pd_9 rfl) (hb hby d15_21) (W := 1)
  obtain ⟨rfl, Nq9, e9⟩ := hQ9
  have N9 := Fr.app N8 Nq9
  obtain ⟨_, T14, L14, X14, hQ14, st14⟩ := own_callS X9 hx hZ hown (y := y_28) (w_112 hw) (w_113 hw) (w_114 hw) (w_115 hw) (rm88 l Z a0 hw [] a2 a10 a11 a12 k13 h0 n0 Z0 E_a2 F_size_a2 F_elementData_a2 E_a10 M_1 V_a10 E_a12) e9 (Ls := #[.val (.ref a1), .val (.ref a2), .val (.ref a3), .val (.double d4), .second, .val (.ref a5)]) (by rw [hml]; rfl) (argsL := [(.ref a2)]) (rest := []) (lenOf pd_16 rfl) (hb hby d15_55) (W := 0)
  obtain ⟨b14_b6_b11_b5_b40, b14_b6_b11_b5_b5, k14_k6_k11_k5_k5, rfl, Nq14, K14, o14_0, o14_1, o14_2, o14_3, o14_4, o14_5, o14_6, o14_7, o14_8⟩ := hQ14
  have N14 := Fr.app N9 Nq14
  have s0 := K14.1
  have Ex15 := (E_a3.keep K14)
  have Fl16 := (F_size_a3.keep K14 nin0)
  have Fl18 := (F_elementData_a3.keep K14 nin0)
  have Ex19 := (E_a17.keep K14)
  have Va25 := (V_a17.keep K14 nin0)
  have Ex26 := (E_a23.keep K14)
  have Ex27 := (E_a22.keep K14)
  have Ex28 := (E_a21.keep K14)
  have Ex29 := (E_a20.keep K14)
  have z1 := Nat.le_trans Z0 s0
  obtain ⟨_, T30, L30, X30, hQ30, st30⟩ := own_callS X14 hx hZ hown (y := y_28) (w_112 hw) (w_113 hw) (w_114 hw) (w_115 hw) (rm95 l Z a0 hw [] a3 a17 a11 a20 a21 a22 a23 k24 T14.heap n0 z1 Ex15 Fl16 Fl18 Ex19 M_1 Va25 Ex26 Ex27 Ex28 Ex29) rfl (Ls := #[.val (.ref a1), .val (.ref b14_b6_b11_b5_b40), .val (.ref a3), .val (.double d4), .second, .val (.ref a5)]) (by rw [hml]; rfl) (argsL := [(.ref a3)]) (rest := []) (lenOf pd_16 rfl) (hb hby d15_60) (W := 0)
  obtain ⟨b30_b9_b17_b8_b43, b30_b9_b17_b8_b8, k30_k9_k17_k8_k8, rfl, Nq30, K30, o30_0, o30_1, o30_2, o30_3, o30_4, o30_5, o30_6, o30_7, o30_8⟩ := hQ30
  have N30 := Fr.app N14 Nq30
  have s1 := K30.1
  have Ex31 := ((E_a5.keep K14).keep K30)
  have Fl32 := ((F_size_a5.keep K14 nin0).keep K30 nin0)
  have Od1 : Old Z n0 T14.heap := Od0.keep K14 all0
  have Od2 : Old Z n0 T30.heap := Od1.keep K30 all0
  have z2 := Nat.le_trans Z0 (Nat.le_trans s0 s1)
  obtain ⟨_, T34, L34, X34, hQ34, st34⟩ := own_callS X30 hx hZ hown (y := y_28) (w_112 hw) (w_113 hw) (w_114 hw) (w_115 hw) (rm43 l Z a0 hw [] a5 a33 T30.heap n0 z2 Ex31 Fl32 S_EMPTY_LIST Od2) rfl (Ls := #[.val (.ref a1), .val (.ref b14_b6_b11_b5_b40), .val (.ref b30_b9_b17_b8_b43), .val (.double d4), .second, .val (.ref a5)]) (by rw [hml]; rfl) (argsL := [(.ref a5)]) (rest := []) (lenOf pd_16 rfl) (hb hby d15_66) (W := 0)
  obtain ⟨rfl, Nq34, e34⟩ := hQ34
  have N34 := Fr.app N30 Nq34
  have Fl35 := ((F_stops_a1.keep K14 nin0).keep K30 nin0)
  have Ex36 := ((E_a1.keep K14).keep K30)
  obtain ⟨T37, h37, X37, e37, W37, st37⟩ := putF X34 hx hZ hown (host := "") (Or.inl (w_201 hw)) Via.refl e34 Fl35 Ex36 (Or.inr ⟨(w_202 hw), rfl, hnm⟩) (w_97 hw) (ty := (.object "java/util/List")) (by decide) rfl rfl (g := (mkF m 73 #[.val (.ref a1), .val (.ref b14_b6_b11_b5_b40), .val (.ref b30_b9_b17_b8_b43), .val (.double d4), .second, .val (.ref a33)] [(.ref b14_b6_b11_b5_b40), (.ref a1)])) rfl rfl (hb hby d15_73)
  have s2 := (Keep.of_wr W37).1
  have N37 := Fr.snoc X37 N34 g_a1
  have Fw37 : Fld Z h37 a1 "com/example/feedergen/feedergen/core/DrivenLine" "stops" "Ljava/util/List;" (.ref b14_b6_b11_b5_b40) := Fl35.same W37
  have Ex38 := (Ex36.wr W37)
  have Fl39 := (((F_distances_a1.keep K14 nin0).keep K30 nin0).other W37 (Or.inr (slot_ne (Or.inr (w_204 hw)) (Or.inr (w_202 hw)) (by decide) (t := (.object "java/util/List")) (t' := (.object "java/util/List")) (by decide) (by decide))))
  obtain ⟨T40, h40, X40, e40, W40, st40⟩ := putF X37 hx hZ hown (host := "") (Or.inl (w_203 hw)) Via.refl e37 Fl39 Ex38 (Or.inr ⟨(w_204 hw), rfl, hnm⟩) (w_97 hw) (ty := (.object "java/util/List")) (by decide) rfl rfl (g := (mkF m 78 #[.val (.ref a1), .val (.ref b14_b6_b11_b5_b40), .val (.ref b30_b9_b17_b8_b43), .val (.double d4), .second, .val (.ref a33)] [(.ref b30_b9_b17_b8_b43), (.ref a1)])) rfl rfl (hb hby d15_78)
  have s3 := (Keep.of_wr W40).1
  have N40 := Fr.snoc X40 N37 g_a1
  have Fw40 : Fld Z h40 a1 "com/example/feedergen/feedergen/core/DrivenLine" "distances" "Ljava/util/List;" (.ref b30_b9_b17_b8_b43) := Fl39.same W40
  have Ex41 := (Ex38.wr W40)
  have Fl42 := ((((F_lengthBackward_a1.keep K14 nin0).keep K30 nin0).other W37 (Or.inr (slot_ne (Or.inr (w_206 hw)) (Or.inr (w_202 hw)) (by decide) (t := .double) (t' := (.object "java/util/List")) (by decide) (by decide)))).other W40 (Or.inr (slot_ne (Or.inr (w_206 hw)) (Or.inr (w_204 hw)) (by decide) (t := .double) (t' := (.object "java/util/List")) (by decide) (by decide))))
  obtain ⟨T43, h43, X43, e43, W43, st43⟩ := putF X40 hx hZ hown (host := "") (Or.inl (w_205 hw)) Via.refl e40 Fl42 Ex41 (Or.inr ⟨(w_206 hw), rfl, hnm⟩) (w_97 hw) (ty := .double) (by decide) rfl rfl (g := (mkF m 83 #[.val (.ref a1), .val (.ref b14_b6_b11_b5_b40), .val (.ref b30_b9_b17_b8_b43), .val (.double d4), .second, .val (.ref a33)] [(.double d4), (.ref a1)])) rfl rfl (hb hby d15_83)
  have s4 := (Keep.of_wr W43).1
  have N43 := Fr.snoc X43 N40 g_a1
  have Fw43 : Fld Z h43 a1 "com/example/feedergen/feedergen/core/DrivenLine" "lengthBackward" "D" (.double d4) := Fl42.same W43
  have Ex44 := (Ex41.wr W43)
  have Fl45 := (((((F_route_a1.keep K14 nin0).keep K30 nin0).other W37 (Or.inr (slot_ne (Or.inr (w_208 hw)) (Or.inr (w_202 hw)) (by decide) (t := (.object "java/util/List")) (t' := (.object "java/util/List")) (by decide) (by decide)))).other W40 (Or.inr (slot_ne (Or.inr (w_208 hw)) (Or.inr (w_204 hw)) (by decide) (t := (.object "java/util/List")) (t' := (.object "java/util/List")) (by decide) (by decide)))).other W43 (Or.inr (slot_ne (Or.inr (w_208 hw)) (Or.inr (w_206 hw)) (by decide) (t := (.object "java/util/List")) (t' := .double) (by decide) (by decide))))
  obtain ⟨T46, h46, X46, e46, W46, st46⟩ := putF X43 hx hZ hown (host := "") (Or.inl (w_207 hw)) Via.refl e43 Fl45 Ex44 (Or.inr ⟨(w_208 hw), rfl, hnm⟩) (w_97 hw) (ty := (.object "java/util/List")) (by decide) rfl rfl (g := (mkF m 89 #[.val (.ref a1), .val (.ref b14_b6_b11_b5_b40), .val (.ref b30_b9_b17_b8_b43), .val (.double d4), .second, .val (.ref a33)] [(.ref a33), (.ref a1)])) rfl rfl (hb hby d15_89)
  have s5 := (Keep.of_wr W46).1
  have N46 := Fr.snoc X46 N43 g_a1
  have Fw46 : Fld Z h46 a1 "com/example/feedergen/feedergen/core/DrivenLine" "route" "Ljava/util/List;" (.ref a33) := Fl45.same W46
  have Ex47 := (Ex44.wr W46)
  have Fl48 := ((Fw40.other W43 (Or.inr (slot_ne (Or.inr (w_204 hw)) (Or.inr (w_206 hw)) (by decide) (t := (.object "java/util/List")) (t' := .double) (by decide) (by decide)))).other W46 (Or.inr (slot_ne (Or.inr (w_204 hw)) (Or.inr (w_208 hw)) (by decide) (t := (.object "java/util/List")) (t' := (.object "java/util/List")) (by decide) (by decide))))
  have Fl49 := (Fw43.other W46 (Or.inr (slot_ne (Or.inr (w_206 hw)) (Or.inr (w_208 hw)) (by decide) (t := .double) (t' := (.object "java/util/List")) (by decide) (by decide))))
  have Fl50 := (((Fw37.other W40 (Or.inr (slot_ne (Or.inr (w_202 hw)) (Or.inr (w_204 hw)) (by decide) (t := (.object "java/util/List")) (t' := (.object "java/util/List")) (by decide) (by decide)))).other W43 (Or.inr (slot_ne (Or.inr (w_202 hw)) (Or.inr (w_206 hw)) (by decide) (t := (.object "java/util/List")) (t' := .double) (by decide) (by decide)))).other W46 (Or.inr (slot_ne (Or.inr (w_202 hw)) (Or.inr (w_208 hw)) (by decide) (t := (.object "java/util/List")) (t' := (.object "java/util/List")) (by decide) (by decide))))
  have sz_b30_b9_b17_b8_b43 : h0.size ≤ b30_b9_b17_b8_b43 := Nat.le_trans s0 o30_0
  have Ex51 := ((((o30_1.wr W37).wr W40).wr W43).wr W46)
  have ne_a1_b30_b9_b17_b8_b43 := Nat.ne_of_lt (Nat.lt_of_lt_of_le (Nat.lt_of_lt_of_le F_stops_a1.lt s0) o30_0)
  have Fl52 := ((((o30_2.other W37 (Or.inl (Ne.symm ne_a1_b30_b9_b17_b8_b43))).other W40 (Or.inl (Ne.symm ne_a1_b30_b9_b17_b8_b43))).other W43 (Or.inl (Ne.symm ne_a1_b30_b9_b17_b8_b43))).other W46 (Or.inl (Ne.symm ne_a1_b30_b9_b17_b8_b43)))
  have Fl53 := ((((o30_3.other W37 (Or.inl (Ne.symm ne_a1_b30_b9_b17_b8_b43))).other W40 (Or.inl (Ne.symm ne_a1_b30_b9_b17_b8_b43))).other W43 (Or.inl (Ne.symm ne_a1_b30_b9_b17_b8_b43))).other W46 (Or.inl (Ne.symm ne_a1_b30_b9_b17_b8_b43)))
  have sz_b14_b6_b11_b5_b40 : h0.size ≤ b14_b6_b11_b5_b40 := o14_0
  have Ex54 := (((((o14_1.keep K30).wr W37).wr W40).wr W43).wr W46)
  have ne_a1_b14_b6_b11_b5_b40 := Nat.ne_of_lt (Nat.lt_of_lt_of_le F_stops_a1.lt o14_0)
  have Fl55 := (((((o14_2.keep K30 nin0).other W37 (Or.inl (Ne.symm ne_a1_b14_b6_b11_b5_b40))).other W40 (Or.inl (Ne.symm ne_a1_b14_b6_b11_b5_b40))).other W43 (Or.inl (Ne.symm ne_a1_b14_b6_b11_b5_b40))).other W46 (Or.inl (Ne.symm ne_a1_b14_b6_b11_b5_b40)))
  have Fl56 := (((((o14_3.keep K30 nin0).other W37 (Or.inl (Ne.symm ne_a1_b14_b6_b11_b5_b40))).other W40 (Or.inl (Ne.symm ne_a1_b14_b6_b11_b5_b40))).other W43 (Or.inl (Ne.symm ne_a1_b14_b6_b11_b5_b40))).other W46 (Or.inl (Ne.symm ne_a1_b14_b6_b11_b5_b40)))
  have sz_b30_b9_b17_b8_b8 : h0.size ≤ b30_b9_b17_b8_b8 := Nat.le_trans s0 o30_4
  have Ex57 := ((((o30_5.wr W37).wr W40).wr W43).wr W46)
  have ne_a1_b30_b9_b17_b8_b8 := Nat.ne_of_lt (Nat.lt_of_lt_of_le (Nat.lt_of_lt_of_le F_stops_a1.lt s0) o30_4)
  have Va58 := ((((o30_7.other W37 (Ne.symm ne_a1_b30_b9_b17_b8_b8)).other W40 (Ne.symm ne_a1_b30_b9_b17_b8_b8)).other W43 (Ne.symm ne_a1_b30_b9_b17_b8_b8)).other W46 (Ne.symm ne_a1_b30_b9_b17_b8_b8))
  have sz_b14_b6_b11_b5_b5 : h0.size ≤ b14_b6_b11_b5_b5 := o14_4
  have Ex59 := (((((o14_5.keep K30).wr W37).wr W40).wr W43).wr W46)
  have ne_a1_b14_b6_b11_b5_b5 := Nat.ne_of_lt (Nat.lt_of_lt_of_le F_stops_a1.lt o14_4)
  have Va60 := (((((o14_7.keep K30 nin0).other W37 (Ne.symm ne_a1_b14_b6_b11_b5_b5)).other W40 (Ne.symm ne_a1_b14_b6_b11_b5_b5)).other W43 (Ne.symm ne_a1_b14_b6_b11_b5_b5)).other W46 (Ne.symm ne_a1_b14_b6_b11_b5_b5))
  have ne_b14_b6_b11_b5_b40_b30_b9_b17_b8_b43 := Nat.ne_of_lt (Nat.lt_of_lt_of_le o14_3.lt o30_0)
  have ne_b14_b6_b11_b5_b5_b30_b9_b17_b8_b43 := Nat.ne_of_lt (Nat.lt_of_lt_of_le o14_7.lt o30_0)
  have ne_b14_b6_b11_b5_b40_b30_b9_b17_b8_b8 := Nat.ne_of_lt (Nat.lt_of_lt_of_le o14_3.lt o30_4)
  have ne_b14_b6_b11_b5_b5_b30_b9_b17_b8_b8 := Nat.ne_of_lt (Nat.lt_of_lt_of_le o14_7.lt o30_4)
  have Kp0 : Keep h0 T14.heap [a1] := (Keep.refl h0 [a1]).trans K14 all0
  have Kp1 : Keep h0 T30.heap [a1] := Kp0.trans K30 all0
  have Kp2 : Keep h0 h37 [a1] := Kp1.wr W37 (Or.inl (List.mem_of_getElem? (i := 0) rfl))
  have Kp3 : Keep h0 h40 [a1] := Kp2.wr W40 (Or.inl (List.mem_of_getElem? (i := 0) rfl))
  have Kp4 : Keep h0 h43 [a1] := Kp3.wr W43 (Or.inl (List.mem_of_getElem? (i := 0) rfl))
  have Kp5 : Keep h0 h46 [a1] := Kp4.wr W46 (Or.inl (List.mem_of_getElem? (i := 0) rfl))
  refine ⟨T46, _, _, _, none, X46, (fun _ => rfl), by decide, by decide, ?_, fun fs hr => ?_⟩
  · show Q96 Z a1 a2 a3 d4 a5 a10 a11 a12 k13 a17 a20 a21 a22 a23 k24 a33 h0 n0 _ T46.heap _
    rw [e46]
    exact ⟨b30_b9_b17_b8_b43, b14_b6_b11_b5_b40, b30_b9_b17_b8_b8, k30_k9_k17_k8_k8, b14_b6_b11_b5_b5, k14_k6_k11_k5_k5, rfl, N46, Kp5, Ex47, Fl48, Fl49, Fw46, Fl50, sz_b30_b9_b17_b8_b43, Ex51, Fl52, Fl53, sz_b14_b6_b11_b5_b40, Ex54, Fl55, Fl56, sz_b30_b9_b17_b8_b8, Ex57, o30_6, Va58, sz_b14_b6_b11_b5_b5, Ex59, o14_6, Va60, (Ne.symm ne_b14_b6_b11_b5_b40_b30_b9_b17_b8_b43), o30_8, (Ne.symm ne_b14_b6_b11_b5_b5_b30_b9_b17_b8_b43), ne_b14_b6_b11_b5_b40_b30_b9_b17_b8_b8, o14_8, (Ne.symm ne_b14_b6_b11_b5_b5_b30_b9_b17_b8_b8)⟩
  · show Steps p.tables e below (s₁.setTop (mkF m 0 #[.val (.ref a1), .val (.ref a2), .val (.ref a3), .val (.double d4), .second, .val (.ref a5)] [])) _
    refine XS.aloadN X0.here hx rfl (hb hby d15_0) rfl rfl ?_
    refine st6 _ ?_
    refine XS.aloadN X6.here hx rfl (hb hby d15_4) rfl rfl ?_
    refine st7 _ ?_
    refine XS.iconst X7.here hx rfl (hb hby d15_10) ?_
    refine XS.icmpNo X7.here hx rfl (hb hby d15_11) rfl (flt ((by decide : ¬ ((4 : Int32) < (2 : Int32))) : ¬ ((4 : Int32) < (2 : Int32)))).1 ?_
    refine XS.aloadN X7.here hx rfl (hb hby d15_14) rfl rfl ?_
    refine st8 _ ?_
    refine XS.aloadN X8.here hx rfl (hb hby d15_20) rfl rfl ?_
    refine st9 _ ?_
    refine XS.icmpYes X9.here hx rfl (pc0 := 26) (pc' := 54) rfl (hb hby d15_26) rfl (teq ((by decide : (4 : Int32) = (4 : Int32)) : (4 : Int32) = (4 : Int32))).1 (by decide) (by decide) ?_
    refine XS.aloadN X9.here hx rfl (hb hby d15_54) rfl rfl ?_
    show Steps p.tables e below (T9.setTop (mkF m 55 #[.val (.ref a1), .val (.ref a2), .val (.ref a3), .val (.double d4), .second, .val (.ref a5)] [(.ref a2)])) _
    refine st14 _ ?_
    refine XS.astoreN X14.here hx rfl (hb hby d15_58) rfl rfl (l' := #[.val (.ref a1), .val (.ref b14_b6_b11_b5_b40), .val (.ref a3), .val (.double d4), .second, .val (.ref a5)]) rfl ?_
    refine XS.aloadN X14.here hx rfl (hb hby d15_59) rfl rfl ?_
    refine st30 _ ?_
    refine XS.astoreN X30.here hx rfl (hb hby d15_63) rfl rfl (l' := #[.val (.ref a1), .val (.ref b14_b6_b11_b5_b40), .val (.ref b30_b9_b17_b8_b43), .val (.double d4), .second, .val (.ref a5)]) rfl ?_
    refine XS.aload X30.here hx rfl (hb hby d15_64) rfl rfl ?_
    refine st34 _ ?_
    refine XS.astore X34.here hx rfl (hb hby d15_69) rfl rfl (l' := #[.val (.ref a1), .val (.ref b14_b6_b11_b5_b40), .val (.ref b30_b9_b17_b8_b43), .val (.double d4), .second, .val (.ref a33)]) rfl ?_
    refine XS.aloadN X34.here hx rfl (hb hby d15_71) rfl rfl ?_
    refine XS.aloadN X34.here hx rfl (hb hby d15_72) rfl rfl ?_
    refine st37 _ ?_
    refine XS.aloadN X37.here hx rfl (hb hby d15_76) rfl rfl ?_
    show Steps p.tables e below (T37.setTop (mkF m 77 #[.val (.ref a1), .val (.ref b14_b6_b11_b5_b40), .val (.ref b30_b9_b17_b8_b43), .val (.double d4), .second, .val (.ref a33)] [(.ref a1)])) _
    refine XS.aloadN X37.here hx rfl (hb hby d15_77) rfl rfl ?_
    refine st40 _ ?_
    refine XS.aloadN X40.here hx rfl (hb hby d15_81) rfl rfl ?_
    refine XS.dloadN X40.here hx rfl (hb hby d15_82) rfl ?_
    refine st43 _ ?_
    refine XS.aloadN X43.here hx rfl (hb hby d15_86) rfl rfl ?_
    refine XS.aload X43.here hx rfl (hb hby d15_87) rfl rfl ?_
    refine st46 _ ?_
    exact X46.returnOut hx hret (hb hby d15_92) hr
-- java/util/ImmutableCollections$ListN.size()I
abbrev Rm97 : Room := { frames := 0, cells := 0, slots := 0, locals := 0 }
def Q97 (Z : State) (a1 : Addr) (a2 : Addr) (a4 : Addr) (a5 : Addr) (a6 : Addr) (a7 : Addr) (k8 : ClassId) (h0 : Heap) (n0 : Nat) (v : Option Value) (h : Heap) (L : List Loc) : Prop := v = some (.int (4 : Int32)) ∧ Fr n0 L ∧ h = h0
theorem ef97 (a1 : Addr) (m : MethodId) : entryFrame m #[(.ref a1)] 1 = mkF m 0 #[.val (.ref a1)] [] := by first | (simp [entryFrame, mkF, argsToLocals, Value.category]; done) | rfl
theorem rm97 (l : Launch) (Z : State) (a0 : Array Value) (hw : ∀ d ∈ tables_1, d.before a0 Z = true) (ws : List Jvm.Cond) (a1 : Addr) (a2 : Addr) (a4 : Addr) (a5 : Addr) (a6 : Addr) (a7 : Addr) (k8 : ClassId) (h0 : Heap) (n0 : Nat) (Z0 : n0 ≤ h0.size) (F_elements_a1 : Fld Z h0 a1 "java/util/ImmutableCollections$ListN" "elements" "[Ljava/lang/Object;" (.ref a2)) (V_a2 : Arv Z h0 a2 k8 (.object "java/lang/Object") (4 : Int32) [(.ref a4), (.ref a5), (.ref a6), (.ref a7)] .null) :
    OwnMet l Z y_38 jdk_45_method_3_code 1 (some .int) ws Rm97 #[(.ref a1)] h0 (Q97 Z a1 a2 a4 a5 a6 a7 k8 h0 n0) := by
  refine own_body (plainFor_of_name pn_16) (ef97 a1) ?_
  intro p e s m below meth c s₁ hx hby hml hown hnm hret hZ X0 e0
  have N0 := Fr.nil n0
  obtain ⟨T3, X3, e3, st3⟩ := getF X0 hx hZ hown (host := "") (Or.inl (w_250 hw)) Via.refl e0 F_elements_a1 (g := (mkF m 1 #[.val (.ref a1)] [(.ref a1)])) rfl rfl (hb hby d36_1)
  obtain ⟨cl9, Ar9, q9, S9, M9, Hs9, G9⟩ := id V_a2
  refine ⟨T3, _, _, _, (some (.int (4 : Int32))), X3, nofun, by decide, by decide, ?_, fun fs hr => ?_⟩
  · show Q97 Z a1 a2 a4 a5 a6 a7 k8 h0 n0 _ T3.heap _
    rw [e3]
    exact ⟨rfl, N0, rfl⟩
  · show Steps p.tables e below (s₁.setTop (mkF m 0 #[.val (.ref a1)] [])) _
    refine XS.aloadN X0.here hx rfl (hb hby d36_0) rfl rfl ?_
    refine st3 _ ?_
    refine X3.arraylength hx (by rw [e3]; exact Ar9.1) (State.isArrayOf_alike hZ.alike Ar9.2.1) (g := (mkF m 4 #[.val (.ref a1)] [(.ref a2)])) rfl rfl (hb hby d36_4) _ ?_
    show Steps p.tables e below (T3.setTop (mkF m 5 #[.val (.ref a1)] [(.int cl9.slots.size.toInt32)])) _
    rw [len_of S9 M9]
    exact retI X3 hx hret (hb hby d36_5) hr
-- java/util/ImmutableCollections$ListN.get(I)Ljava/lang/Object;
abbrev Rm98 : Room := { frames := 0, cells := 0, slots := 0, locals := 0 }
def Q98 (Z : State) (a1 : Addr) (a2 : Addr) (a4 : Addr) (a5 : Addr) (a6 : Addr) (a7 : Addr) (k8 : ClassId) (h0 : Heap) (n0 : Nat) (v : Option Value) (h : Heap) (L : List Loc) : Prop := v = some (.ref a7) ∧ Fr n0 L ∧ h = h0
theorem ef98 (a1 : Addr) (m : MethodId) : entryFrame m #[(.ref a1), (.int (3 : Int32))] 2 = mkF m 0 #[.val (.ref a1), .val (.int (3 : Int32))] [] := by first | (simp [entryFrame, mkF, argsToLocals, Value.category]; done) | rfl
theorem rm98 (l : Launch) (Z : State) (a0 : Array Value) (hw : ∀ d ∈ tables_1, d.before a0 Z = true) (ws : List Jvm.Cond) (a1 : Addr) (a2 : Addr) (a4 : Addr) (a5 : Addr) (a6 : Addr) (a7 : Addr) (k8 : ClassId) (h0 : Heap) (n0 : Nat) (Z0 : n0 ≤ h0.size) (F_elements_a1 : Fld Z h0 a1 "java/util/ImmutableCollections$ListN" "elements" "[Ljava/lang/Object;" (.ref a2)) (V_a2 : Arv Z h0 a2 k8 (.object "java/lang/Object") (4 : Int32) [(.ref a4), (.ref a5), (.ref a6), (.ref a7)] .null) :
    OwnMet l Z y_39 jdk_45_method_4_code 2 (some (.object "java/lang/Object")) ws Rm98 #[(.ref a1), (.int (3 : Int32))] h0 (Q98 Z a1 a2 a4 a5 a6 a7 k8 h0 n0) := by
  refine own_body (plainFor_of_name pn_16) (ef98 a1) ?_
  intro p e s m below meth c s₁ hx hby hml hown hnm hret hZ X0 e0
  have N0 := Fr.nil n0
  obtain ⟨T3, X3, e3, st3⟩ := getF X0 hx hZ hown (host := "") (Or.inl (w_250 hw)) Via.refl e0 F_elements_a1 (g := (mkF m 1 #[.val (.ref a1), .val (.int (3 : Int32))] [(.ref a1)])) rfl rfl (hb hby d37_1)
  obtain ⟨cl9, Ar9, q9, S9, M9, Hs9, G9⟩ := id V_a2
  have hin10 : ¬ ((3 : Int32) < 0 ∨ cl9.slots.size ≤ ((3 : Int32)).toNatClampNeg) := inb_of S9 ⟨(by decide : ¬ ((3 : Int32) < (0 : Int32))), (by decide : (3 : Int32) < (4 : Int32))⟩
  refine ⟨T3, _, _, _, (some (.ref a7)), X3, nofun, by decide, by decide, ?_, fun fs hr => ?_⟩
  · show Q98 Z a1 a2 a4 a5 a6 a7 k8 h0 n0 _ T3.heap _
    rw [e3]
    exact ⟨rfl, N0, rfl⟩
  · show Steps p.tables e below (s₁.setTop (mkF m 0 #[.val (.ref a1), .val (.int (3 : Int32))] [])) _
    refine XS.aloadN X0.here hx rfl (hb hby d37_0) rfl rfl ?_
    refine st3 _ ?_
    refine XS.iloadN X3.here hx rfl (hb hby d37_4) rfl ?_
    refine X3.aaload hx (j := (3 : Int32)) (v := (.ref a7)) (by rw [e3]; exact Ar9.1) (State.isArrayOf_alike hZ.alike Ar9.2.1) rfl Ar9.2.2 hin10 (Has.at Hs9 hin10 rfl) (g := (mkF m 5 #[.val (.ref a1), .val (.int (3 : Int32))] [(.int (3 : Int32)), (.ref a2)])) rfl rfl (hb hby d37_5) _ ?_
    exact retOut X3 hx hret rfl (Or.inr (Or.inr (Or.inr (Or.inr ⟨rfl, rfl, rfl⟩)))) (hb hby d37_6) hr
-- com/example/feedergen/feedergen/core/DrivenLine.lengthForward()D
abbrev Rm99 : Room := { frames := 1, cells := 0, slots := 0, locals := 13 }
def Q99 (Z : State) (a1 : Addr) (a2 : Addr) (a5 : Addr) (a6 : Addr) (a7 : Addr) (a8 : Addr) (a9 : Addr) (k10 : ClassId) (d14 : UInt64) (h0 : Heap) (n0 : Nat) (v : Option Value) (h : Heap) (L : List Loc) : Prop := v = some (.double d14) ∧ Fr n0 L ∧ h = h0
theorem ef99 (a1 : Addr) (m : MethodId) : entryFrame m #[(.ref a1)] 1 = mkF m 0 #[.val (.ref a1)] [] := by first | (simp [entryFrame, mkF, argsToLocals, Value.category]; done) | rfl
theorem rm99 (l : Launch) (Z : State) (a0 : Array Value) (hw : ∀ d ∈ tables_1, d.before a0 Z = true) (ws : List Jvm.Cond) (a1 : Addr) (a2 : Addr) (a5 : Addr) (a6 : Addr) (a7 : Addr) (a8 : Addr) (a9 : Addr) (k10 : ClassId) (d14 : UInt64) (h0 : Heap) (n0 : Nat) (Z0 : n0 ≤ h0.size) (F_distances_a1 : Fld Z h0 a1 "com/example/feedergen/feedergen/core/DrivenLine" "distances" "Ljava/util/List;" (.ref a2)) (E_a2 : Exa Z h0 a2 "java/util/ImmutableCollections$ListN") (F_elements_a2 : Fld Z h0 a2 "java/util/ImmutableCollections$ListN" "elements" "[Ljava/lang/Object;" (.ref a5)) (V_a5 : Arv Z h0 a5 k10 (.object "java/lang/Object") (4 : Int32) [(.ref a6), (.ref a7), (.ref a8), (.ref a9)] .null) (E_a9 : Exa Z h0 a9 "java/lang/Double") (F_value_a9 : Fld Z h0 a9 "java/lang/Double" "value" "D" (.double d14)) :
    OwnMet l Z y_35 prog_9_method_2_code 1 (some .double) ws Rm99 #[(.ref a1)] h0 (Q99 Z a1 a2 a5 a6 a7 a8 a9 k10 d14 h0 n0) := by
  refine own_body (plainFor_of_name pn_14) (ef99 a1) ?_
  intro p e s m below meth c s₁ hx hby hml hown hnm hret hZ X0 e0
  have N0 := Fr.nil n0
  obtain ⟨T3, X3, e3, st3⟩ := getF X0 hx hZ hown (host := "") (Or.inl (w_203 hw)) Via.refl e0 F_distances_a1 (g := (mkF m 1 #[.val (.ref a1)] [(.ref a1)])) rfl rfl (hb hby d30_1)
  obtain ⟨T4, X4, e4, st4⟩ := getF X3 hx hZ hown (host := "") (Or.inl (w_203 hw)) Via.refl e3 F_distances_a1 (g := (mkF m 5 #[.val (.ref a1)] [(.ref a1), (.ref a2)])) rfl rfl (hb hby d30_5)
  obtain ⟨_, T11, L11, X11, hQ11, st11⟩ := own_iface X4 hx hZ hown (y := y_14) (z := y_38) E_a2 (w_103 hw) (w_104 hw) (w_105 hw) (w_254 hw) (w_255 hw) (w_256 hw) (w_257 hw) (w_258 hw) (w_241 hw) (w_259 hw) (rm97 l Z a0 hw [] a2 a5 a6 a7 a8 a9 k10 h0 n0 Z0 F_elements_a2 V_a5) e4 (Ls := #[.val (.ref a1)]) (by rw [hml]; rfl) (argsL := []) (rest := [(.ref a2)]) (lenOf pd_9 rfl) (hb hby d30_8) (W := 1)
  obtain ⟨rfl, Nq11, e11⟩ := hQ11
  have N11 := Fr.app N0 Nq11
  obtain ⟨_, T12, L12, X12, hQ12, st12⟩ := own_iface X11 hx hZ hown (y := y_33) (z := y_39) E_a2 (w_221 hw) (w_222 hw) (w_223 hw) (w_260 hw) (w_261 hw) (w_262 hw) (w_263 hw) (w_258 hw) (w_241 hw) (w_264 hw) (rm98 l Z a0 hw [] a2 a5 a6 a7 a8 a9 k10 h0 n0 Z0 F_elements_a2 V_a5) e11 (Ls := #[.val (.ref a1)]) (by rw [hml]; rfl) (argsL := [(.int (3 : Int32))]) (rest := []) (lenOf pd_19 rfl) (hb hby d30_15) (W := 0)
  obtain ⟨rfl, Nq12, e12⟩ := hQ12
  have N12 := Fr.app N11 Nq12
  obtain ⟨T13, X13, e13, st13⟩ := castY X12 hx hZ hown (w_229 hw) e12 (Ins.self E_a9) (g := (mkF m 20 #[.val (.ref a1)] [(.ref a9)])) rfl rfl (hb hby d30_20)
  obtain ⟨_, T15, L15, X15, hQ15, st15⟩ := own_virtual X13 hx hZ hown (y := y_34) (z := y_34) E_a9 (w_230 hw) (w_231 hw) (notFace_of_selects (args := #[]) (mvT hZ (w_233 hw))) (w_233 hw) (w_232 hw) (w_78 hw) (w_234 hw) (rm47 l Z a0 hw [] a9 d14 h0 n0 Z0 F_value_a9) e13 (Ls := #[.val (.ref a1)]) (by rw [hml]; rfl) (argsL := []) (rest := []) (lenOf pd_20 rfl) (hb hby d30_23) (W := 0)
  obtain ⟨rfl, Nq15, e15⟩ := hQ15
  have N15 := Fr.app N12 Nq15
  refine ⟨T15, _, _, _, (some (.double d14)), X15, nofun, by decide, by decide, ?_, fun fs hr => ?_⟩
  · show Q99 Z a1 a2 a5 a6 a7 a8 a9 k10 d14 h0 n0 _ T15.heap _
    rw [e15]
    exact ⟨rfl, N15, rfl⟩
  · show Steps p.tables e below (s₁.setTop (mkF m 0 #[.val (.ref a1)] [])) _
    refine XS.aloadN X0.here hx rfl (hb hby d30_0) rfl rfl ?_
    refine st3 _ ?_
    refine XS.aloadN X3.here hx rfl (hb hby d30_4) rfl rfl ?_
    refine st4 _ ?_
    refine st11 _ ?_
    refine XS.iconst X11.here hx rfl (hb hby d30_13) ?_
    refine XS.isub X11.here hx rfl (hb hby d30_14) rfl ?_
    refine st12 _ ?_
    refine st13 _ ?_
    refine st15 _ ?_
    exact retOut X15 hx hret rfl (Or.inr (Or.inr (Or.inl ⟨rfl, rfl, _, rfl⟩))) (hb hby d30_26) hr
theorem rm0_2 (l : Launch) (Z : State) (a0 : Array Value) (hw : ∀ d ∈ tables_1, d.before a0 Z = true) (ws : List Jvm.Cond) (p1 : Int32) (p2 : Int32) (p3 : Int32) (p4 : Int32) (p5 : Int32) (p6 : Int32) (sa1 : Addr) (sa2 : Addr) (sa3 : Addr) (sa4 : Addr) (sa5 : Addr) (sk9 : ClassId) (sk11 : ClassId) (sk14 : ClassId) (smr : Addr) (h0 : Heap) (n0 : Nat) (Z0 : n0 ≤ h0.size) (Od0 : Old Z n0 h0) (S8_EMPTY_ELEMENTDATA : Sta Z Z.heap "java/util/ArrayList" "EMPTY_ELEMENTDATA" "[Ljava/lang/Object;" (.ref sa1)) (E_sa1 : Exa Z h0 sa1 "[Ljava/lang/Object;") (V_sa1 : Arv Z h0 sa1 sk9 (.object "java/lang/Object") (0 : Int32) [] .null) (S10_DEFAULTCAPACITY_EMPTY_ELEMENTDATA : Sta Z Z.heap "java/util/ArrayList" "DEFAULTCAPACITY_EMPTY_ELEMENTDATA" "[Ljava/lang/Object;" (.ref sa2)) (E_sa2 : Exa Z h0 sa2 "[Ljava/lang/Object;") (V_sa2 : Arv Z h0 sa2 sk11 (.object "java/lang/Object") (0 : Int32) [] .null) (S12_EMPTY_LIST : Sta Z Z.heap "java/util/ImmutableCollections" "EMPTY_LIST" "Ljava/util/ImmutableCollections$ListN;" (.ref sa3)) (E_sa3 : Exa Z h0 sa3 "java/util/ImmutableCollections$ListN") (F13_elements : Fld Z h0 sa3 "java/util/ImmutableCollections$ListN" "elements" "[Ljava/lang/Object;" (.ref sa4)) (E_sa4 : Exa Z h0 sa4 "[Ljava/lang/Object;") (V_sa4 : Arv Z h0 sa4 sk14 (.object "java/lang/Object") (0 : Int32) [] .null) (S15_EMPTY : Sta Z Z.heap "java/util/ImmutableCollections" "EMPTY" "Ljava/lang/Object;" (.ref sa5)) (E_sa5 : Exa Z h0 sa5 "java/lang/Object") (F16_allowNulls : Fld Z h0 sa3 "java/util/ImmutableCollections$ListN" "allowNulls" "Z" (.int (0 : Int32))) (S17__assertionsDisabled : Sta Z Z.heap "java/util/ImmutableCollections" "$assertionsDisabled" "Z" (.int (1 : Int32))) (M_top : OwnMir Z "[Ljava/lang/Object;" smr) (hk : ((p1 &&& (2147483647 : Int32)) - ((p1 &&& (2147483647 : Int32)) / (3 : Int32)) * (3 : Int32)) = (2 : Int32)) :
    OwnMet l Z x code maxLocals ret ws room_1 #[(.int p1), (.int p2), (.int p3), (.int p4), (.int p5), (.int p6)] h0 (Q0 n0) := by
  refine own_body (plainFor_of_name pn_15) (ef0 p1 p2 p3 p4 p5 p6) ?_
  intro p e s m below meth c s₁ hx hby hml hown hnm hret hZ X0 e0
  have N0 := Fr.nil n0
  obtain ⟨T1, h1, X1, e1, E1, A1, D1, -, st1⟩ := newO X0 hx hZ hown (w_1 hw) (w_2 hw) (w_3 hw) e0 (g := (mkF m 10 #[.val (.int p1), .val (.int p2), .val (.int p3), .val (.int p4), .val (.int p5), .val (.int p6), .val (.int (4 : Int32)), .unset, .unset, .unset, .unset, .unset, .unset, .unset] [])) rfl (hb hby at_10) (by decide) (by decide)
  obtain ⟨b1, g1⟩ : ∃ z, z = h0.size := ⟨_, rfl⟩
  rw [← g1] at A1 D1 st1
  have s0 := E1.1
  have Fn1_id : Fld Z h1 b1 "com/example/feedergen/feedergen/core/StopCandidate" "id" "I" (.int (0 : Int32)) := D1 (Or.inr (w_16 hw)) (ty := .int) (by decide)
  have Fn1_link : Fld Z h1 b1 "com/example/feedergen/feedergen/core/StopCandidate" "link" "Lcom/example/feedergen/feedergen/core/StreetLink;" .null := D1 (Or.inr (w_18 hw)) (ty := (.object "com/example/feedergen/feedergen/core/StreetLink")) (by decide)
  have Fn1_trips : Fld Z h1 b1 "com/example/feedergen/feedergen/core/StopCandidate" "trips" "D" (.double (0 : UInt64)) := D1 (Or.inr (w_20 hw)) (ty := .double) (by decide)
  have g_b1 : n0 ≤ b1 := Nat.le_trans Z0 (Nat.le_of_eq g1.symm)
  have z1 := Nat.le_trans Z0 s0
  obtain ⟨_, T2, L2, X2, hQ2, st2⟩ := own_special X1 hx hZ hown (y := y_1) (a := b1) (w_4 hw) (w_5 hw) (w_3 hw) (w_6 hw) (rm2 l Z a0 hw [] b1 h1 n0 z1 Fn1_id A1 g_b1 Fn1_link Fn1_trips) e1 (Ls := #[.val (.int p1), .val (.int p2), .val (.int p3), .val (.int p4), .val (.int p5), .val (.int p6), .val (.int (4 : Int32)), .unset, .unset, .unset, .unset, .unset, .unset, .unset]) (by rw [hml]; rfl) (argsL := [(.int (1 : Int32)), .null, (.double (0 : UInt64))]) (rest := [(.ref b1)]) (lenOf pd_1 rfl) (hb hby at_17) (W := 1)
  obtain ⟨rfl, Nq2, K2, o2_0, o2_1, o2_2, o2_3⟩ := hQ2
  have N2 := Fr.app N0 Nq2
  have s1 := K2.1
  obtain ⟨T3, h3, X3, e3, E3, A3, D3, -, st3⟩ := newO X2 hx hZ hown (w_21 hw) (w_22 hw) (w_23 hw) rfl (g := (mkF m 22 #[.val (.int p1), .val (.int p2), .val (.int p3), .val (.int p4), .val (.int p5), .val (.int p6), .val (.int (4 : Int32)), .val (.ref b1), .unset, .unset, .unset, .unset, .unset, .unset] [])) rfl (hb hby at_22) (by decide) (by decide)
  obtain ⟨b3, g3⟩ : ∃ z, z = T2.heap.size := ⟨_, rfl⟩
  rw [← g3] at A3 D3 st3
  have s2 := E3.1
  have Fn3_modCount : Fld Z h3 b3 "java/util/AbstractList" "modCount" "I" (.int (0 : Int32)) := D3 (Or.inl (w_41 hw)) (ty := .int) (by decide)
  have Fn3_elementData : Fld Z h3 b3 "java/util/ArrayList" "elementData" "[Ljava/lang/Object;" .null := D3 (Or.inl (w_44 hw)) (ty := (.array (.object "java/lang/Object"))) (by decide)
  have Fn3_size : Fld Z h3 b3 "java/util/ArrayList" "size" "I" (.int (0 : Int32)) := D3 (Or.inl (w_53 hw)) (ty := .int) (by decide)
  have z2 := Nat.le_trans Z0 (Nat.le_trans s0 s1)
  have g_b3 : n0 ≤ b3 := Nat.le_trans z2 (Nat.le_of_eq g3.symm)
  have Od1 : Old Z n0 h1 := Od0.ext E1
  have Od2 : Old Z n0 T2.heap := Od1.keep K2 (allS g_b1 all0)
  have Od3 : Old Z n0 h3 := Od2.ext E3
  have z3 := Nat.le_trans Z0 (Nat.le_trans (Nat.le_trans s0 s1) s2)
  obtain ⟨_, T4, L4, X4, hQ4, st4⟩ := own_special X3 hx hZ hown (y := y_4) (a := b3) (w_24 hw) (w_25 hw) (w_23 hw) (w_26 hw) (rm5 l Z a0 hw [] b3 sa2 h3 n0 z3 Fn3_modCount A3 g_b3 Fn3_elementData Fn3_size S10_DEFAULTCAPACITY_EMPTY_ELEMENTDATA Od3) e3 (Ls := #[.val (.int p1), .val (.int p2), .val (.int p3), .val (.int p4), .val (.int p5), .val (.int p6), .val (.int (4 : Int32)), .val (.ref b1), .unset, .unset, .unset, .unset, .unset, .unset]) (by rw [hml]; rfl) (argsL := []) (rest := [(.ref b3)]) (lenOf pd_0 rfl) (hb hby at_26) (W := 1)
  obtain ⟨rfl, Nq4, K4, o4_0, o4_1, o4_2, o4_3⟩ := hQ4
  have N4 := Fr.app N2 Nq4
  have s3 := K4.1
  obtain ⟨T5, h5, X5, e5, E5, A5, D5, -, st5⟩ := newO X4 hx hZ hown (w_21 hw) (w_22 hw) (w_23 hw) rfl (g := (mkF m 31 #[.val (.int p1), .val (.int p2), .val (.int p3), .val (.int p4), .val (.int p5), .val (.int p6), .val (.int (4 : Int32)), .val (.ref b1), .val (.ref b3), .unset, .unset, .unset, .unset, .unset] [])) rfl (hb hby at_31) (by decide) (by decide)
  obtain ⟨b5, g5⟩ : ∃ z, z = T4.heap.size := ⟨_, rfl⟩
  rw [← g5] at A5 D5 st5
  have s4 := E5.1
  have Fn5_modCount : Fld Z h5 b5 "java/util/AbstractList" "modCount" "I" (.int (0 : Int32)) := D5 (Or.inl (w_41 hw)) (ty := .int) (by decide)
  have Fn5_elementData : Fld Z h5 b5 "java/util/ArrayList" "elementData" "[Ljava/lang/Object;" .null := D5 (Or.inl (w_44 hw)) (ty := (.array (.object "java/lang/Object"))) (by decide)
  have Fn5_size : Fld Z h5 b5 "java/util/ArrayList" "size" "I" (.int (0 : Int32)) := D5 (Or.inl (w_53 hw)) (ty := .int) (by decide)
  have z4 := Nat.le_trans Z0 (Nat.le_trans (Nat.le_trans (Nat.le_trans s0 s1) s2) s3)
  have g_b5 : n0 ≤ b5 := Nat.le_trans z4 (Nat.le_of_eq g5.symm)
  have Od4 : Old Z n0 T4.heap := Od3.keep K4 (allS g_b3 all0)
  have Od5 : Old Z n0 h5 := Od4.ext E5
  have z5 := Nat.le_trans Z0 (Nat.le_trans (Nat.le_trans (Nat.le_trans (Nat.le_trans s0 s1) s2) s3) s4)
  obtain ⟨_, T6, L6, X6, hQ6, st6⟩ := own_special X5 hx hZ hown (y := y_4) (a := b5) (w_24 hw) (w_25 hw) (w_23 hw) (w_26 hw) (rm5 l Z a0 hw [] b5 sa2 h5 n0 z5 Fn5_modCount A5 g_b5 Fn5_elementData Fn5_size S10_DEFAULTCAPACITY_EMPTY_ELEMENTDATA Od5) e5 (Ls := #[.val (.int p1), .val (.int p2), .val (.int p3), .val (.int p4), .val (.int p5), .val (.int p6), .val (.int (4 : Int32)), .val (.ref b1), .val (.ref b3), .unset, .unset, .unset, .unset, .unset]) (by rw [hml]; rfl) (argsL := []) (rest := [(.ref b5)]) (lenOf pd_0 rfl) (hb hby at_35) (W := 1)
  obtain ⟨rfl, Nq6, K6, o6_0, o6_1, o6_2, o6_3⟩ := hQ6
  have N6 := Fr.app N4 Nq6
  have s5 := K6.1
  have Ex7 := ((o4_0.ext E5).keep K6)
  have ne_b3_b5 := Nat.ne_of_lt (Nat.lt_of_lt_of_le o4_3.lt (Nat.le_of_eq g5.symm))
  have Fl8 := ((o4_1.ext E5).keep K6 (ninS ne_b3_b5 nin0))
  have Fl9 := ((o4_2.ext E5).keep K6 (ninS ne_b3_b5 nin0))
  have Fl10 := ((o4_3.ext E5).keep K6 (ninS ne_b3_b5 nin0))
  have ne_sa2_b1 := Nat.ne_of_lt (Nat.lt_of_lt_of_le V_sa2.lt (Nat.le_of_eq g1.symm))
  have ne_sa2_b3 := Nat.ne_of_lt (Nat.lt_of_lt_of_le (Nat.lt_of_lt_of_le V_sa2.lt (Nat.le_trans s0 s1)) (Nat.le_of_eq g3.symm))
  have ne_sa2_b5 := Nat.ne_of_lt (Nat.lt_of_lt_of_le (Nat.lt_of_lt_of_le V_sa2.lt (Nat.le_trans (Nat.le_trans (Nat.le_trans s0 s1) s2) s3)) (Nat.le_of_eq g5.symm))
  have Va11 := ((((((V_sa2.ext E1).keep K2 (ninS ne_sa2_b1 nin0)).ext E3).keep K4 (ninS ne_sa2_b3 nin0)).ext E5).keep K6 (ninS ne_sa2_b5 nin0))
  have Od6 : Old Z n0 T6.heap := Od5.keep K6 (allS g_b5 all0)
  have Ex12 := ((((o2_0.ext E3).keep K4).ext E5).keep K6)
  have z6 := Nat.le_trans Z0 (Nat.le_trans (Nat.le_trans (Nat.le_trans (Nat.le_trans (Nat.le_trans s0 s1) s2) s3) s4) s5)
  obtain ⟨_, T13, L13, X13, hQ13, st13⟩ := own_virtual X6 hx hZ hown (y := y_9) (z := y_9) Ex7 (w_45 hw) (w_46 hw) (notFace_of_selects (args := #[]) (mvT hZ (w_48 hw))) (w_48 hw) (w_47 hw) (w_23 hw) (w_49 hw) (rm10 l Z a0 hw [] b3 b1 sa2 sk11 T6.heap n0 z6 Fl8 Ex7 g_b3 Fl9 Fl10 Va11 ne_sa2_b3 S10_DEFAULTCAPACITY_EMPTY_ELEMENTDATA Od6 Ex12) rfl (Ls := #[.val (.int p1), .val (.int p2), .val (.int p3), .val (.int p4), .val (.int p5), .val (.int p6), .val (.int (4 : Int32)), .val (.ref b1), .val (.ref b3), .val (.ref b5), .unset, .unset, .unset, .unset]) (by rw [hml]; rfl) (argsL := [(.ref b1)]) (rest := []) (lenOf pd_6 rfl) (hb hby at_44) (W := 0)
  obtain ⟨b13_b14_b6_b5_b9, k13_k14_k6_k5_k9, rfl, Nq13, K13, o13_0, o13_1, o13_2, o13_3, o13_4, o13_5, o13_6, o13_7⟩ := hQ13
  have N13 := Fr.app N6 Nq13
  have s6 := K13.1
  have ne_b3_b13_b14_b6_b5_b9 := Nat.ne_of_lt (Nat.lt_of_lt_of_le Fl9.lt o13_4)
  have Ex14 := (Ex12.keep K13)
  have g_b13_b14_b6_b5_b9 : n0 ≤ b13_b14_b6_b5_b9 := Nat.le_trans z6 o13_4
  have z7 := Nat.le_trans Z0 (Nat.le_trans (Nat.le_trans (Nat.le_trans (Nat.le_trans (Nat.le_trans (Nat.le_trans s0 s1) s2) s3) s4) s5) s6)
  obtain ⟨_, T15, L15, X15, hQ15, st15⟩ := own_virtual X13 hx hZ hown (y := y_9) (z := y_9) o13_0 (w_45 hw) (w_46 hw) (notFace_of_selects (args := #[]) (mvT hZ (w_48 hw))) (w_48 hw) (w_47 hw) (w_23 hw) (w_49 hw) (rm12 l Z a0 hw [] b3 b1 b13_b14_b6_b5_b9 k13_k14_k6_k5_k9 T13.heap n0 z7 o13_1 o13_0 g_b3 o13_2 o13_3 o13_7 (Ne.symm ne_b3_b13_b14_b6_b5_b9) o13_6 Ex14 g_b13_b14_b6_b5_b9 o13_5) rfl (Ls := #[.val (.int p1), .val (.int p2), .val (.int p3), .val (.int p4), .val (.int p5), .val (.int p6), .val (.int (4 : Int32)), .val (.ref b1), .val (.ref b3), .val (.ref b5), .unset, .unset, .unset, .unset]) (by rw [hml]; rfl) (argsL := [(.ref b1)]) (rest := []) (lenOf pd_6 rfl) (hb hby at_52) (W := 0)
  obtain ⟨rfl, Nq15, K15, o15_0, o15_1, o15_2, o15_3, o15_4, o15_5⟩ := hQ15
  have N15 := Fr.app N13 Nq15
  have s7 := K15.1
  have z8 := Nat.le_trans Z0 (Nat.le_trans (Nat.le_trans (Nat.le_trans (Nat.le_trans (Nat.le_trans (Nat.le_trans (Nat.le_trans s0 s1) s2) s3) s4) s5) s6) s7)
  obtain ⟨_, T16, L16, X16, hQ16, st16⟩ := own_callS X15 hx hZ hown (y := y_12) (w_76 hw) (w_77 hw) (w_78 hw) (w_79 hw) (rm15 l Z a0 hw [] (FP.i2d p2) T15.heap n0 z8) rfl (Ls := #[.val (.int p1), .val (.int p2), .val (.int p3), .val (.int p4), .val (.int p5), .val (.int p6), .val (.int (4 : Int32)), .val (.ref b1), .val (.ref b3), .val (.ref b5), .unset, .unset, .unset, .unset]) (by rw [hml]; rfl) (argsL := [(.double (FP.i2d p2))]) (rest := [(.ref b5)]) (lenOf pd_8 rfl) (hb hby at_60) (W := 1)
  obtain ⟨b16_b2, rfl, Nq16, K16, o16_0, o16_1, o16_2⟩ := hQ16
  have N16 := Fr.app N15 Nq16
  have s8 := K16.1
  have Ex17 := (((o6_0.keep K13).keep K15).keep K16)
  have ne_b5_b13_b14_b6_b5_b9 := Nat.ne_of_lt (Nat.lt_of_lt_of_le o6_3.lt o13_4)
  have Fl18 := (((o6_1.keep K13 (ninS (Ne.symm ne_b3_b5) nin0)).keep K15 (ninS (Ne.symm ne_b3_b5) (ninS ne_b5_b13_b14_b6_b5_b9 nin0))).keep K16 nin0)
  have Fl19 := (((o6_2.keep K13 (ninS (Ne.symm ne_b3_b5) nin0)).keep K15 (ninS (Ne.symm ne_b3_b5) (ninS ne_b5_b13_b14_b6_b5_b9 nin0))).keep K16 nin0)
  have Fl20 := (((o6_3.keep K13 (ninS (Ne.symm ne_b3_b5) nin0)).keep K15 (ninS (Ne.symm ne_b3_b5) (ninS ne_b5_b13_b14_b6_b5_b9 nin0))).keep K16 nin0)
  have ne_sa2_b13_b14_b6_b5_b9 := Nat.ne_of_lt (Nat.lt_of_lt_of_le Va11.lt o13_4)
  have Va21 := (((Va11.keep K13 (ninS ne_sa2_b3 nin0)).keep K15 (ninS ne_sa2_b3 (ninS ne_sa2_b13_b14_b6_b5_b9 nin0))).keep K16 nin0)
  have Od7 : Old Z n0 T13.heap := Od6.keep K13 (allS g_b3 all0)
  have Od8 : Old Z n0 T15.heap := Od7.keep K15 (allS g_b3 (allS g_b13_b14_b6_b5_b9 all0))
  have Od9 : Old Z n0 T16.heap := Od8.keep K16 all0
  have z9 := Nat.le_trans Z0 (Nat.le_trans (Nat.le_trans (Nat.le_trans (Nat.le_trans (Nat.le_trans (Nat.le_trans (Nat.le_trans (Nat.le_trans s0 s1) s2) s3) s4) s5) s6) s7) s8)
  obtain ⟨_, T22, L22, X22, hQ22, st22⟩ := own_virtual X16 hx hZ hown (y := y_9) (z := y_9) Ex17 (w_45 hw) (w_46 hw) (notFace_of_selects (args := #[]) (mvT hZ (w_48 hw))) (w_48 hw) (w_47 hw) (w_23 hw) (w_49 hw) (rm17 l Z a0 hw [] b5 b16_b2 sa2 sk11 T16.heap n0 z9 Fl18 Ex17 g_b5 Fl19 Fl20 Va21 ne_sa2_b5 S10_DEFAULTCAPACITY_EMPTY_ELEMENTDATA Od9 o16_1) rfl (Ls := #[.val (.int p1), .val (.int p2), .val (.int p3), .val (.int p4), .val (.int p5), .val (.int p6), .val (.int (4 : Int32)), .val (.ref b1), .val (.ref b3), .val (.ref b5), .unset, .unset, .unset, .unset]) (by rw [hml]; rfl) (argsL := [(.ref b16_b2)]) (rest := []) (lenOf pd_6 rfl) (hb hby at_63) (W := 0)
  obtain ⟨b22_b14_b6_b5_b9, k22_k14_k6_k5_k9, rfl, Nq22, K22, o22_0, o22_1, o22_2, o22_3, o22_4, o22_5, o22_6, o22_7⟩ := hQ22
  have N22 := Fr.app N16 Nq22
  have s9 := K22.1
  have z10 := Nat.le_trans Z0 (Nat.le_trans (Nat.le_trans (Nat.le_trans (Nat.le_trans (Nat.le_trans (Nat.le_trans (Nat.le_trans (Nat.le_trans (Nat.le_trans s0 s1) s2) s3) s4) s5) s6) s7) s8) s9)
  obtain ⟨_, T23, L23, X23, hQ23, st23⟩ := own_callS X22 hx hZ hown (y := y_12) (w_76 hw) (w_77 hw) (w_78 hw) (w_79 hw) (rm15 l Z a0 hw [] (FP.i2d p3) T22.heap n0 z10) rfl (Ls := #[.val (.int p1), .val (.int p2), .val (.int p3), .val (.int p4), .val (.int p5), .val (.int p6), .val (.int (4 : Int32)), .val (.ref b1), .val (.ref b3), .val (.ref b5), .unset, .unset, .unset, .unset]) (by rw [hml]; rfl) (argsL := [(.double (FP.i2d p3))]) (rest := [(.ref b5)]) (lenOf pd_8 rfl) (hb hby at_71) (W := 1)
  obtain ⟨b23_b2, rfl, Nq23, K23, o23_0, o23_1, o23_2⟩ := hQ23
  have N23 := Fr.app N22 Nq23
  have s10 := K23.1
  have Ex24 := (o22_0.keep K23)
  have Fl25 := (o22_1.keep K23 nin0)
  have Fl26 := (o22_2.keep K23 nin0)
  have Fl27 := (o22_3.keep K23 nin0)
  have Va28 := (o22_7.keep K23 nin0)
  have ne_b5_b22_b14_b6_b5_b9 := Nat.ne_of_lt (Nat.lt_of_lt_of_le Fl20.lt o22_4)
  have g_b22_b14_b6_b5_b9 : n0 ≤ b22_b14_b6_b5_b9 := Nat.le_trans z9 o22_4
  have Ex29 := (o22_5.keep K23)
  have z11 := Nat.le_trans Z0 (Nat.le_trans (Nat.le_trans (Nat.le_trans (Nat.le_trans (Nat.le_trans (Nat.le_trans (Nat.le_trans (Nat.le_trans (Nat.le_trans (Nat.le_trans s0 s1) s2) s3) s4) s5) s6) s7) s8) s9) s10)
  obtain ⟨_, T30, L30, X30, hQ30, st30⟩ := own_virtual X23 hx hZ hown (y := y_9) (z := y_9) Ex24 (w_45 hw) (w_46 hw) (notFace_of_selects (args := #[]) (mvT hZ (w_48 hw))) (w_48 hw) (w_47 hw) (w_23 hw) (w_49 hw) (rm19 l Z a0 hw [] b5 b23_b2 b22_b14_b6_b5_b9 b16_b2 k22_k14_k6_k5_k9 T23.heap n0 z11 Fl25 Ex24 g_b5 Fl26 Fl27 Va28 (Ne.symm ne_b5_b22_b14_b6_b5_b9) o22_6 o23_1 g_b22_b14_b6_b5_b9 Ex29) rfl (Ls := #[.val (.int p1), .val (.int p2), .val (.int p3), .val (.int p4), .val (.int p5), .val (.int p6), .val (.int (4 : Int32)), .val (.ref b1), .val (.ref b3), .val (.ref b5), .unset, .unset, .unset, .unset]) (by rw [hml]; rfl) (argsL := [(.ref b23_b2)]) (rest := []) (lenOf pd_6 rfl) (hb hby at_74) (W := 0)
  obtain ⟨rfl, Nq30, K30, o30_0, o30_1, o30_2, o30_3, o30_4, o30_5⟩ := hQ30
  have N30 := Fr.app N23 Nq30
  have s11 := K30.1
  have Ex31 := ((((o15_0.keep K16).keep K22).keep K23).keep K30)
  have ne_b3_b22_b14_b6_b5_b9 := Nat.ne_of_lt (Nat.lt_of_lt_of_le (Nat.lt_of_lt_of_le o15_3.lt s8) o22_4)
  have Fl32 := ((((o15_1.keep K16 nin0).keep K22 (ninS ne_b3_b5 nin0)).keep K23 nin0).keep K30 (ninS ne_b3_b5 (ninS ne_b3_b22_b14_b6_b5_b9 nin0)))
  have Fl33 := ((((o15_2.keep K16 nin0).keep K22 (ninS ne_b3_b5 nin0)).keep K23 nin0).keep K30 (ninS ne_b3_b5 (ninS ne_b3_b22_b14_b6_b5_b9 nin0)))
  have Fl34 := ((((o15_3.keep K16 nin0).keep K22 (ninS ne_b3_b5 nin0)).keep K23 nin0).keep K30 (ninS ne_b3_b5 (ninS ne_b3_b22_b14_b6_b5_b9 nin0)))
  have ne_b13_b14_b6_b5_b9_b22_b14_b6_b5_b9 := Nat.ne_of_lt (Nat.lt_of_lt_of_le (Nat.lt_of_lt_of_le o15_5.lt s8) o22_4)
  have Va35 := ((((o15_5.keep K16 nin0).keep K22 (ninS (Ne.symm ne_b5_b13_b14_b6_b5_b9) nin0)).keep K23 nin0).keep K30 (ninS (Ne.symm ne_b5_b13_b14_b6_b5_b9) (ninS ne_b13_b14_b6_b5_b9_b22_b14_b6_b5_b9 nin0)))
  have Ex36 := (((((Ex14.keep K15).keep K16).keep K22).keep K23).keep K30)
  have Ex37 := ((((o15_4.keep K16).keep K22).keep K23).keep K30)
  have z12 := Nat.le_trans Z0 (Nat.le_trans (Nat.le_trans (Nat.le_trans (Nat.le_trans (Nat.le_trans (Nat.le_trans (Nat.le_trans (Nat.le_trans (Nat.le_trans (Nat.le_trans (Nat.le_trans s0 s1) s2) s3) s4) s5) s6) s7) s8) s9) s10) s11)
  obtain ⟨_, T38, L38, X38, hQ38, st38⟩ := own_virtual X30 hx hZ hown (y := y_9) (z := y_9) Ex31 (w_45 hw) (w_46 hw) (notFace_of_selects (args := #[]) (mvT hZ (w_48 hw))) (w_48 hw) (w_47 hw) (w_23 hw) (w_49 hw) (rm50 l Z a0 hw [] b3 b1 b13_b14_b6_b5_b9 k13_k14_k6_k5_k9 T30.heap n0 z12 Fl32 Ex31 g_b3 Fl33 Fl34 Va35 (Ne.symm ne_b3_b13_b14_b6_b5_b9) o13_6 Ex36 g_b13_b14_b6_b5_b9 Ex37) rfl (Ls := #[.val (.int p1), .val (.int p2), .val (.int p3), .val (.int p4), .val (.int p5), .val (.int p6), .val (.int (4 : Int32)), .val (.ref b1), .val (.ref b3), .val (.ref b5), .unset, .unset, .unset, .unset]) (by rw [hml]; rfl) (argsL := [(.ref b1)]) (rest := []) (lenOf pd_6 rfl) (hb hby at_88) (W := 0)
  obtain ⟨rfl, Nq38, K38, o38_0, o38_1, o38_2, o38_3, o38_4, o38_5⟩ := hQ38
  have N38 := Fr.app N30 Nq38
  have s12 := K38.1
  have z13 := Nat.le_trans Z0 (Nat.le_trans (Nat.le_trans (Nat.le_trans (Nat.le_trans (Nat.le_trans (Nat.le_trans (Nat.le_trans (Nat.le_trans (Nat.le_trans (Nat.le_trans (Nat.le_trans (Nat.le_trans s0 s1) s2) s3) s4) s5) s6) s7) s8) s9) s10) s11) s12)
  obtain ⟨_, T39, L39, X39, hQ39, st39⟩ := own_callS X38 hx hZ hown (y := y_12) (w_76 hw) (w_77 hw) (w_78 hw) (w_79 hw) (rm15 l Z a0 hw [] (FP.i2d p4) T38.heap n0 z13) rfl (Ls := #[.val (.int p1), .val (.int p2), .val (.int p3), .val (.int p4), .val (.int p5), .val (.int p6), .val (.int (4 : Int32)), .val (.ref b1), .val (.ref b3), .val (.ref b5), .unset, .unset, .unset, .unset]) (by rw [hml]; rfl) (argsL := [(.double (FP.i2d p4))]) (rest := [(.ref b5)]) (lenOf pd_8 rfl) (hb hby at_96) (W := 1)
  obtain ⟨b39_b2, rfl, Nq39, K39, o39_0, o39_1, o39_2⟩ := hQ39
  have N39 := Fr.app N38 Nq39
  have s13 := K39.1
  have Ex40 := ((o30_0.keep K38).keep K39)
  have Fl41 := ((o30_1.keep K38 (ninS (Ne.symm ne_b3_b5) (ninS ne_b5_b13_b14_b6_b5_b9 nin0))).keep K39 nin0)
  have Fl42 := ((o30_2.keep K38 (ninS (Ne.symm ne_b3_b5) (ninS ne_b5_b13_b14_b6_b5_b9 nin0))).keep K39 nin0)
  have Fl43 := ((o30_3.keep K38 (ninS (Ne.symm ne_b3_b5) (ninS ne_b5_b13_b14_b6_b5_b9 nin0))).keep K39 nin0)
  have Va44 := ((o30_5.keep K38 (ninS (Ne.symm ne_b3_b22_b14_b6_b5_b9) (ninS (Ne.symm ne_b13_b14_b6_b5_b9_b22_b14_b6_b5_b9) nin0))).keep K39 nin0)
  have Ex45 := ((o30_4.keep K38).keep K39)
  have z14 := Nat.le_trans Z0 (Nat.le_trans (Nat.le_trans (Nat.le_trans (Nat.le_trans (Nat.le_trans (Nat.le_trans (Nat.le_trans (Nat.le_trans (Nat.le_trans (Nat.le_trans (Nat.le_trans (Nat.le_trans (Nat.le_trans s0 s1) s2) s3) s4) s5) s6) s7) s8) s9) s10) s11) s12) s13)
  obtain ⟨_, T46, L46, X46, hQ46, st46⟩ := own_virtual X39 hx hZ hown (y := y_9) (z := y_9) Ex40 (w_45 hw) (w_46 hw) (notFace_of_selects (args := #[]) (mvT hZ (w_48 hw))) (w_48 hw) (w_47 hw) (w_23 hw) (w_49 hw) (rm52 l Z a0 hw [] b5 b39_b2 b22_b14_b6_b5_b9 b16_b2 b23_b2 k22_k14_k6_k5_k9 T39.heap n0 z14 Fl41 Ex40 g_b5 Fl42 Fl43 Va44 (Ne.symm ne_b5_b22_b14_b6_b5_b9) o22_6 o39_1 g_b22_b14_b6_b5_b9 Ex45) rfl (Ls := #[.val (.int p1), .val (.int p2), .val (.int p3), .val (.int p4), .val (.int p5), .val (.int p6), .val (.int (4 : Int32)), .val (.ref b1), .val (.ref b3), .val (.ref b5), .unset, .unset, .unset, .unset]) (by rw [hml]; rfl) (argsL := [(.ref b39_b2)]) (rest := []) (lenOf pd_6 rfl) (hb hby at_99) (W := 0)
  obtain ⟨rfl, Nq46, K46, o46_0, o46_1, o46_2, o46_3, o46_4, o46_5⟩ := hQ46
  have N46 := Fr.app N39 Nq46
  have s14 := K46.1
  have Ex47 := ((o38_0.keep K39).keep K46)
  have Fl48 := ((o38_1.keep K39 nin0).keep K46 (ninS ne_b3_b5 (ninS ne_b3_b22_b14_b6_b5_b9 nin0)))
  have Fl49 := ((o38_2.keep K39 nin0).keep K46 (ninS ne_b3_b5 (ninS ne_b3_b22_b14_b6_b5_b9 nin0)))
  have Fl50 := ((o38_3.keep K39 nin0).keep K46 (ninS ne_b3_b5 (ninS ne_b3_b22_b14_b6_b5_b9 nin0)))
  have Va51 := ((o38_5.keep K39 nin0).keep K46 (ninS (Ne.symm ne_b5_b13_b14_b6_b5_b9) (ninS ne_b13_b14_b6_b5_b9_b22_b14_b6_b5_b9 nin0)))
  have Ex52 := (((Ex36.keep K38).keep K39).keep K46)
  have Ex53 := ((o38_4.keep K39).keep K46)
  have z15 := Nat.le_trans Z0 (Nat.le_trans (Nat.le_trans (Nat.le_trans (Nat.le_trans (Nat.le_trans (Nat.le_trans (Nat.le_trans (Nat.le_trans (Nat.le_trans (Nat.le_trans (Nat.le_trans (Nat.le_trans (Nat.le_trans (Nat.le_trans s0 s1) s2) s3) s4) s5) s6) s7) s8) s9) s10) s11) s12) s13) s14)
  obtain ⟨_, T54, L54, X54, hQ54, st54⟩ := own_virtual X46 hx hZ hown (y := y_9) (z := y_9) Ex47 (w_45 hw) (w_46 hw) (notFace_of_selects (args := #[]) (mvT hZ (w_48 hw))) (w_48 hw) (w_47 hw) (w_23 hw) (w_49 hw) (rm76 l Z a0 hw [] b3 b1 b13_b14_b6_b5_b9 k13_k14_k6_k5_k9 T46.heap n0 z15 Fl48 Ex47 g_b3 Fl49 Fl50 Va51 (Ne.symm ne_b3_b13_b14_b6_b5_b9) o13_6 Ex52 g_b13_b14_b6_b5_b9 Ex53) rfl (Ls := #[.val (.int p1), .val (.int p2), .val (.int p3), .val (.int p4), .val (.int p5), .val (.int p6), .val (.int (4 : Int32)), .val (.ref b1), .val (.ref b3), .val (.ref b5), .unset, .unset, .unset, .unset]) (by rw [hml]; rfl) (argsL := [(.ref b1)]) (rest := []) (lenOf pd_6 rfl) (hb hby at_113) (W := 0)
  obtain ⟨rfl, Nq54, K54, o54_0, o54_1, o54_2, o54_3, o54_4, o54_5⟩ := hQ54
  have N54 := Fr.app N46 Nq54
  have s15 := K54.1
  have z16 := Nat.le_trans Z0 (Nat.le_trans (Nat.le_trans (Nat.le_trans (Nat.le_trans (Nat.le_trans (Nat.le_trans (Nat.le_trans (Nat.le_trans (Nat.le_trans (Nat.le_trans (Nat.le_trans (Nat.le_trans (Nat.le_trans (Nat.le_trans (Nat.le_trans s0 s1) s2) s3) s4) s5) s6) s7) s8) s9) s10) s11) s12) s13) s14) s15)
  obtain ⟨_, T55, L55, X55, hQ55, st55⟩ := own_callS X54 hx hZ hown (y := y_12) (w_76 hw) (w_77 hw) (w_78 hw) (w_79 hw) (rm15 l Z a0 hw [] (FP.i2d p5) T54.heap n0 z16) rfl (Ls := #[.val (.int p1), .val (.int p2), .val (.int p3), .val (.int p4), .val (.int p5), .val (.int p6), .val (.int (4 : Int32)), .val (.ref b1), .val (.ref b3), .val (.ref b5), .unset, .unset, .unset, .unset]) (by rw [hml]; rfl) (argsL := [(.double (FP.i2d p5))]) (rest := [(.ref b5)]) (lenOf pd_8 rfl) (hb hby at_122) (W := 1)
  obtain ⟨b55_b2, rfl, Nq55, K55, o55_0, o55_1, o55_2⟩ := hQ55
  have N55 := Fr.app N54 Nq55
  have s16 := K55.1
  have Ex56 := ((o46_0.keep K54).keep K55)
  have Fl57 := ((o46_1.keep K54 (ninS (Ne.symm ne_b3_b5) (ninS ne_b5_b13_b14_b6_b5_b9 nin0))).keep K55 nin0)
  have Fl58 := ((o46_2.keep K54 (ninS (Ne.symm ne_b3_b5) (ninS ne_b5_b13_b14_b6_b5_b9 nin0))).keep K55 nin0)
  have Fl59 := ((o46_3.keep K54 (ninS (Ne.symm ne_b3_b5) (ninS ne_b5_b13_b14_b6_b5_b9 nin0))).keep K55 nin0)
  have Va60 := ((o46_5.keep K54 (ninS (Ne.symm ne_b3_b22_b14_b6_b5_b9) (ninS (Ne.symm ne_b13_b14_b6_b5_b9_b22_b14_b6_b5_b9) nin0))).keep K55 nin0)
  have Ex61 := ((o46_4.keep K54).keep K55)
  have z17 := Nat.le_trans Z0 (Nat.le_trans (Nat.le_trans (Nat.le_trans (Nat.le_trans (Nat.le_trans (Nat.le_trans (Nat.le_trans (Nat.le_trans (Nat.le_trans (Nat.le_trans (Nat.le_trans (Nat.le_trans (Nat.le_trans (Nat.le_trans (Nat.le_trans (Nat.le_trans s0 s1) s2) s3) s4) s5) s6) s7) s8) s9) s10) s11) s12) s13) s14) s15) s16)
  obtain ⟨_, T62, L62, X62, hQ62, st62⟩ := own_virtual X55 hx hZ hown (y := y_9) (z := y_9) Ex56 (w_45 hw) (w_46 hw) (notFace_of_selects (args := #[]) (mvT hZ (w_48 hw))) (w_48 hw) (w_47 hw) (w_23 hw) (w_49 hw) (rm78 l Z a0 hw [] b5 b55_b2 b22_b14_b6_b5_b9 b16_b2 b23_b2 b39_b2 k22_k14_k6_k5_k9 T55.heap n0 z17 Fl57 Ex56 g_b5 Fl58 Fl59 Va60 (Ne.symm ne_b5_b22_b14_b6_b5_b9) o22_6 o55_1 g_b22_b14_b6_b5_b9 Ex61) rfl (Ls := #[.val (.int p1), .val (.int p2), .val (.int p3), .val (.int p4), .val (.int p5), .val (.int p6), .val (.int (4 : Int32)), .val (.ref b1), .val (.ref b3), .val (.ref b5), .unset, .unset, .unset, .unset]) (by rw [hml]; rfl) (argsL := [(.ref b55_b2)]) (rest := []) (lenOf pd_6 rfl) (hb hby at_125) (W := 0)
  obtain ⟨rfl, Nq62, K62, o62_0, o62_1, o62_2, o62_3, o62_4, o62_5⟩ := hQ62
  have N62 := Fr.app N55 Nq62
  have s17 := K62.1
  obtain ⟨T63, h63, X63, e63, E63, A63, D63, -, st63⟩ := newO X62 hx hZ hown (w_21 hw) (w_22 hw) (w_23 hw) rfl (g := (mkF m 129 #[.val (.int p1), .val (.int p2), .val (.int p3), .val (.int p4), .val (.int p5), .val (.int p6), .val (.int (4 : Int32)), .val (.ref b1), .val (.ref b3), .val (.ref b5), .unset, .unset, .unset, .unset] [])) rfl (hb hby at_129) (by decide) (by decide)
  obtain ⟨b63, g63⟩ : ∃ z, z = T62.heap.size := ⟨_, rfl⟩
  rw [← g63] at A63 D63 st63
  have s18 := E63.1
  have Fn63_modCount : Fld Z h63 b63 "java/util/AbstractList" "modCount" "I" (.int (0 : Int32)) := D63 (Or.inl (w_41 hw)) (ty := .int) (by decide)
  have Fn63_elementData : Fld Z h63 b63 "java/util/ArrayList" "elementData" "[Ljava/lang/Object;" .null := D63 (Or.inl (w_44 hw)) (ty := (.array (.object "java/lang/Object"))) (by decide)
  have Fn63_size : Fld Z h63 b63 "java/util/ArrayList" "size" "I" (.int (0 : Int32)) := D63 (Or.inl (w_53 hw)) (ty := .int) (by decide)
  have z18 := Nat.le_trans Z0 (Nat.le_trans (Nat.le_trans (Nat.le_trans (Nat.le_trans (Nat.le_trans (Nat.le_trans (Nat.le_trans (Nat.le_trans (Nat.le_trans (Nat.le_trans (Nat.le_trans (Nat.le_trans (Nat.le_trans (Nat.le_trans (Nat.le_trans (Nat.le_trans (Nat.le_trans s0 s1) s2) s3) s4) s5) s6) s7) s8) s9) s10) s11) s12) s13) s14) s15) s16) s17)
  have g_b63 : n0 ≤ b63 := Nat.le_trans z18 (Nat.le_of_eq g63.symm)
  have Od10 : Old Z n0 T22.heap := Od9.keep K22 (allS g_b5 all0)
  have Od11 : Old Z n0 T23.heap := Od10.keep K23 all0
  have Od12 : Old Z n0 T30.heap := Od11.keep K30 (allS g_b5 (allS g_b22_b14_b6_b5_b9 all0))
  have Od13 : Old Z n0 T38.heap := Od12.keep K38 (allS g_b3 (allS g_b13_b14_b6_b5_b9 all0))
  have Od14 : Old Z n0 T39.heap := Od13.keep K39 all0
  have Od15 : Old Z n0 T46.heap := Od14.keep K46 (allS g_b5 (allS g_b22_b14_b6_b5_b9 all0))
  have Od16 : Old Z n0 T54.heap := Od15.keep K54 (allS g_b3 (allS g_b13_b14_b6_b5_b9 all0))
  have Od17 : Old Z n0 T55.heap := Od16.keep K55 all0
  have Od18 : Old Z n0 T62.heap := Od17.keep K62 (allS g_b5 (allS g_b22_b14_b6_b5_b9 all0))
  have Od19 : Old Z n0 h63 := Od18.ext E63
  have z19 := Nat.le_trans Z0 (Nat.le_trans (Nat.le_trans (Nat.le_trans (Nat.le_trans (Nat.le_trans (Nat.le_trans (Nat.le_trans (Nat.le_trans (Nat.le_trans (Nat.le_trans (Nat.le_trans (Nat.le_trans (Nat.le_trans (Nat.le_trans (Nat.le_trans (Nat.le_trans (Nat.le_trans (Nat.le_trans s0 s1) s2) s3) s4) s5) s6) s7) s8) s9) s10) s11) s12) s13) s14) s15) s16) s17) s18)
  obtain ⟨_, T64, L64, X64, hQ64, st64⟩ := own_special X63 hx hZ hown (y := y_4) (a := b63) (w_24 hw) (w_25 hw) (w_23 hw) (w_26 hw) (rm5 l Z a0 hw [] b63 sa2 h63 n0 z19 Fn63_modCount A63 g_b63 Fn63_elementData Fn63_size S10_DEFAULTCAPACITY_EMPTY_ELEMENTDATA Od19) e63 (Ls := #[.val (.int p1), .val (.int p2), .val (.int p3), .val (.int p4), .val (.int p5), .val (.int p6), .val (.int (4 : Int32)), .val (.ref b1), .val (.ref b3), .val (.ref b5), .unset, .unset, .unset, .unset]) (by rw [hml]; rfl) (argsL := []) (rest := [(.ref b63)]) (lenOf pd_0 rfl) (hb hby at_133) (W := 1)
  obtain ⟨rfl, Nq64, K64, o64_0, o64_1, o64_2, o64_3⟩ := hQ64
  have N64 := Fr.app N62 Nq64
  have s19 := K64.1
  obtain ⟨T65, h65, X65, e65, E65, A65, D65, -, st65⟩ := newO X64 hx hZ hown (w_96 hw) (w_97 hw) (w_98 hw) rfl (g := (mkF m 138 #[.val (.int p1), .val (.int p2), .val (.int p3), .val (.int p4), .val (.int p5), .val (.int p6), .val (.int (4 : Int32)), .val (.ref b1), .val (.ref b3), .val (.ref b5), .val (.ref b63), .unset, .unset, .unset] [])) rfl (hb hby at_138) (by decide) (by decide)
  obtain ⟨b65, g65⟩ : ∃ z, z = T64.heap.size := ⟨_, rfl⟩
  rw [← g65] at A65 D65 st65
  have s20 := E65.1
  have Fn65_stops : Fld Z h65 b65 "com/example/feedergen/feedergen/core/DrivenLine" "stops" "Ljava/util/List;" .null := D65 (Or.inr (w_202 hw)) (ty := (.object "java/util/List")) (by decide)
  have Fn65_distances : Fld Z h65 b65 "com/example/feedergen/feedergen/core/DrivenLine" "distances" "Ljava/util/List;" .null := D65 (Or.inr (w_204 hw)) (ty := (.object "java/util/List")) (by decide)
  have Fn65_lengthBackward : Fld Z h65 b65 "com/example/feedergen/feedergen/core/DrivenLine" "lengthBackward" "D" (.double (0 : UInt64)) := D65 (Or.inr (w_206 hw)) (ty := .double) (by decide)
  have Fn65_route : Fld Z h65 b65 "com/example/feedergen/feedergen/core/DrivenLine" "route" "Ljava/util/List;" .null := D65 (Or.inr (w_208 hw)) (ty := (.object "java/util/List")) (by decide)
  have Ex66 := (((((o54_0.keep K55).keep K62).ext E63).keep K64).ext E65)
  have ne_b3_b63 := Nat.ne_of_lt (Nat.lt_of_lt_of_le (Nat.lt_of_lt_of_le o54_3.lt (Nat.le_trans s16 s17)) (Nat.le_of_eq g63.symm))
  have Fl67 := (((((o54_3.keep K55 nin0).keep K62 (ninS ne_b3_b5 (ninS ne_b3_b22_b14_b6_b5_b9 nin0))).ext E63).keep K64 (ninS ne_b3_b63 nin0)).ext E65)
  have Ex68 := (((o62_0.ext E63).keep K64).ext E65)
  have ne_b5_b63 := Nat.ne_of_lt (Nat.lt_of_lt_of_le o62_3.lt (Nat.le_of_eq g63.symm))
  have Fl69 := (((o62_3.ext E63).keep K64 (ninS ne_b5_b63 nin0)).ext E65)
  have Fl70 := (((((o54_2.keep K55 nin0).keep K62 (ninS ne_b3_b5 (ninS ne_b3_b22_b14_b6_b5_b9 nin0))).ext E63).keep K64 (ninS ne_b3_b63 nin0)).ext E65)
  have Ex71 := (((((o54_4.keep K55).keep K62).ext E63).keep K64).ext E65)
  have ne_b13_b14_b6_b5_b9_b63 := Nat.ne_of_lt (Nat.lt_of_lt_of_le (Nat.lt_of_lt_of_le o54_5.lt (Nat.le_trans s16 s17)) (Nat.le_of_eq g63.symm))
  have Va72 := (((((o54_5.keep K55 nin0).keep K62 (ninS (Ne.symm ne_b5_b13_b14_b6_b5_b9) (ninS ne_b13_b14_b6_b5_b9_b22_b14_b6_b5_b9 nin0))).ext E63).keep K64 (ninS ne_b13_b14_b6_b5_b9_b63 nin0)).ext E65)
  have Ex73 := ((((((Ex52.keep K54).keep K55).keep K62).ext E63).keep K64).ext E65)
  have Fl74 := (((o62_2.ext E63).keep K64 (ninS ne_b5_b63 nin0)).ext E65)
  have Ex75 := (((o62_4.ext E63).keep K64).ext E65)
  have ne_b22_b14_b6_b5_b9_b63 := Nat.ne_of_lt (Nat.lt_of_lt_of_le o62_5.lt (Nat.le_of_eq g63.symm))
  have Va76 := (((o62_5.ext E63).keep K64 (ninS ne_b22_b14_b6_b5_b9_b63 nin0)).ext E65)
  have Ex77 := ((((o55_1.keep K62).ext E63).keep K64).ext E65)
  have Ex78 := (((((((o39_1.keep K46).keep K54).keep K55).keep K62).ext E63).keep K64).ext E65)
  have Ex79 := ((((((((((o23_1.keep K30).keep K38).keep K39).keep K46).keep K54).keep K55).keep K62).ext E63).keep K64).ext E65)
  have Ex80 := ((((((((((((o16_1.keep K22).keep K23).keep K30).keep K38).keep K39).keep K46).keep K54).keep K55).keep K62).ext E63).keep K64).ext E65)
  have Ex81 := (o64_0.ext E65)
  have Fl82 := (o64_3.ext E65)
  have Od20 : Old Z n0 T64.heap := Od19.keep K64 (allS g_b63 all0)
  have Od21 : Old Z n0 h65 := Od20.ext E65
  have z20 := Nat.le_trans Z0 (Nat.le_trans (Nat.le_trans (Nat.le_trans (Nat.le_trans (Nat.le_trans (Nat.le_trans (Nat.le_trans (Nat.le_trans (Nat.le_trans (Nat.le_trans (Nat.le_trans (Nat.le_trans (Nat.le_trans (Nat.le_trans (Nat.le_trans (Nat.le_trans (Nat.le_trans (Nat.le_trans (Nat.le_trans s0 s1) s2) s3) s4) s5) s6) s7) s8) s9) s10) s11) s12) s13) s14) s15) s16) s17) s18) s19)
  have g_b65 : n0 ≤ b65 := Nat.le_trans z20 (Nat.le_of_eq g65.symm)
  have z21 := Nat.le_trans Z0 (Nat.le_trans (Nat.le_trans (Nat.le_trans (Nat.le_trans (Nat.le_trans (Nat.le_trans (Nat.le_trans (Nat.le_trans (Nat.le_trans (Nat.le_trans (Nat.le_trans (Nat.le_trans (Nat.le_trans (Nat.le_trans (Nat.le_trans (Nat.le_trans (Nat.le_trans (Nat.le_trans (Nat.le_trans (Nat.le_trans s0 s1) s2) s3) s4) s5) s6) s7) s8) s9) s10) s11) s12) s13) s14) s15) s16) s17) s18) s19) s20)
  obtain ⟨_, T83, L83, X83, hQ83, st83⟩ := own_special X65 hx hZ hown (y := y_30) (a := b65) (w_99 hw) (w_100 hw) (w_98 hw) (w_101 hw) (rm96 l Z a0 hw [] b65 b3 b5 (FP.i2d p6) b63 b13_b14_b6_b5_b9 smr b1 k13_k14_k6_k5_k9 b22_b14_b6_b5_b9 b16_b2 b23_b2 b39_b2 b55_b2 k22_k14_k6_k5_k9 sa3 h65 n0 z21 Ex66 Fl67 Ex68 Fl69 Fl70 Ex71 M_top Va72 Ex73 Fl74 Ex75 Va76 Ex77 Ex78 Ex79 Ex80 Ex81 Fl82 S12_EMPTY_LIST Od21 Fn65_stops A65 g_b65 Fn65_distances Fn65_lengthBackward Fn65_route) e65 (Ls := #[.val (.int p1), .val (.int p2), .val (.int p3), .val (.int p4), .val (.int p5), .val (.int p6), .val (.int (4 : Int32)), .val (.ref b1), .val (.ref b3), .val (.ref b5), .val (.ref b63), .unset, .unset, .unset]) (by rw [hml]; rfl) (argsL := [(.ref b3), (.ref b5), (.double (FP.i2d p6)), (.ref b63)]) (rest := [(.ref b65)]) (lenOf pd_18 rfl) (hb hby at_151) (W := 1)
  obtain ⟨b83_b30_b9_b17_b8_b43, b83_b14_b6_b11_b5_b40, b83_b30_b9_b17_b8_b8, k83_k30_k9_k17_k8_k8, b83_b14_b6_b11_b5_b5, k83_k14_k6_k11_k5_k5, rfl, Nq83, K83, o83_0, o83_1, o83_2, o83_3, o83_4, o83_5, o83_6, o83_7, o83_8, o83_9, o83_10, o83_11, o83_12, o83_13, o83_14, o83_15, o83_16, o83_17, o83_18, o83_19, o83_20, o83_21, o83_22, o83_23, o83_24, o83_25, o83_26⟩ := hQ83
  have N83 := Fr.app N64 Nq83
  have s21 := K83.1
  have Ex84 := (Ex77.keep K83)
  have ne_b5_b55_b2 := Nat.ne_of_lt (Nat.lt_of_lt_of_le (Nat.lt_of_lt_of_le o46_3.lt s15) o55_0)
  have ne_b22_b14_b6_b5_b9_b55_b2 := Nat.ne_of_lt (Nat.lt_of_lt_of_le (Nat.lt_of_lt_of_le o46_5.lt s15) o55_0)
  have ne_b55_b2_b63 := Nat.ne_of_lt (Nat.lt_of_lt_of_le (Nat.lt_of_lt_of_le o55_2.lt s17) (Nat.le_of_eq g63.symm))
  have ne_b55_b2_b65 := Nat.ne_of_lt (Nat.lt_of_lt_of_le (Nat.lt_of_lt_of_le o55_2.lt (Nat.le_trans (Nat.le_trans s17 s18) s19)) (Nat.le_of_eq g65.symm))
  have Fl85 := (((((o55_2.keep K62 (ninS (Ne.symm ne_b5_b55_b2) (ninS (Ne.symm ne_b22_b14_b6_b5_b9_b55_b2) nin0))).ext E63).keep K64 (ninS ne_b55_b2_b63 nin0)).ext E65).keep K83 (ninS ne_b55_b2_b65 nin0))
  have z22 := Nat.le_trans Z0 (Nat.le_trans (Nat.le_trans (Nat.le_trans (Nat.le_trans (Nat.le_trans (Nat.le_trans (Nat.le_trans (Nat.le_trans (Nat.le_trans (Nat.le_trans (Nat.le_trans (Nat.le_trans (Nat.le_trans (Nat.le_trans (Nat.le_trans (Nat.le_trans (Nat.le_trans (Nat.le_trans (Nat.le_trans (Nat.le_trans (Nat.le_trans s0 s1) s2) s3) s4) s5) s6) s7) s8) s9) s10) s11) s12) s13) s14) s15) s16) s17) s18) s19) s20) s21)
  obtain ⟨_, T86, L86, X86, hQ86, st86⟩ := own_virtual X83 hx hZ hown (y := y_35) (z := y_35) o83_0 (w_209 hw) (w_210 hw) (notFace_of_selects (args := #[]) (mvT hZ (w_212 hw))) (w_212 hw) (w_211 hw) (w_98 hw) (w_213 hw) (rm99 l Z a0 hw [] b65 b83_b30_b9_b17_b8_b43 b83_b30_b9_b17_b8_b8 b16_b2 b23_b2 b39_b2 b55_b2 k83_k30_k9_k17_k8_k8 (FP.i2d p5) T83.heap n0 z22 o83_1 o83_6 o83_8 o83_16 Ex84 Fl85) rfl (Ls := #[.val (.int p1), .val (.int p2), .val (.int p3), .val (.int p4), .val (.int p5), .val (.int p6), .val (.int (4 : Int32)), .val (.ref b1), .val (.ref b3), .val (.ref b5), .val (.ref b63), .val (.ref b65), .val (.double (FP.i2d p5)), .second]) (by rw [hml]; rfl) (argsL := []) (rest := []) (lenOf pd_20 rfl) (hb hby at_189) (W := 0)
  obtain ⟨rfl, Nq86, e86⟩ := hQ86
  have N86 := Fr.app N83 Nq86
  refine ⟨T86, _, _, _, (some (.int (1 : Int32))), X86, nofun, by decide, by decide, ?_, fun fs hr => ?_⟩
  · show Q0 n0 _ T86.heap _
    rw [e86]
    exact ⟨rfl, N86⟩
  · show Steps p.tables e below (s₁.setTop (mkF m 0 #[.val (.int p1), .val (.int p2), .val (.int p3), .val (.int p4), .val (.int p5), .val (.int p6), .unset, .unset, .unset, .unset, .unset, .unset, .unset, .unset] [])) _
    refine XS.iconst X0.here hx rfl (hb hby at_0) ?_
    refine XS.iloadN X0.here hx rfl (hb hby at_1) rfl ?_
    refine X0.ldcInt hx hown (mvT hZ (w_0 hw)) (g := (mkF m 2 #[.val (.int p1), .val (.int p2), .val (.int p3), .val (.int p4), .val (.int p5), .val (.int p6), .unset, .unset, .unset, .unset, .unset, .unset, .unset, .unset] [(.int p1), (.int (2 : Int32))])) rfl (hb hby at_2) _ ?_
    refine XS.iand X0.here hx rfl (hb hby at_4) rfl ?_
    refine XS.iconst X0.here hx rfl (hb hby at_5) ?_
    refine XS.irem X0.here hx rfl (hb hby at_6) rfl (by decide : ¬ ((3 : Int32) = (0 : Int32))) ?_
    show Steps p.tables e below (s₁.setTop (mkF m 7 #[.val (.int p1), .val (.int p2), .val (.int p3), .val (.int p4), .val (.int p5), .val (.int p6), .unset, .unset, .unset, .unset, .unset, .unset, .unset, .unset] [(.int ((p1 &&& (2147483647 : Int32)) - ((p1 &&& (2147483647 : Int32)) / (3 : Int32)) * (3 : Int32))), (.int (2 : Int32))])) _
    rw [hk]
    refine XS.iadd X0.here hx rfl (hb hby at_7) rfl ?_
    refine XS.istore X0.here hx rfl (hb hby at_8) rfl (l' := #[.val (.int p1), .val (.int p2), .val (.int p3), .val (.int p4), .val (.int p5), .val (.int p6), .val (.int (4 : Int32)), .unset, .unset, .unset, .unset, .unset, .unset, .unset]) rfl ?_
    refine st1 _ ?_
    refine XS.dup X1.here hx rfl (hb hby at_13) rfl rfl ?_
    refine XS.iconst X1.here hx rfl (hb hby at_14) ?_
    refine XS.aconstNull X1.here hx rfl (hb hby at_15) ?_
    refine XS.dconst0 X1.here hx rfl (hb hby at_16) rfl ?_
    refine st2 _ ?_
    refine XS.astore X2.here hx rfl (hb hby at_20) rfl rfl (l' := #[.val (.int p1), .val (.int p2), .val (.int p3), .val (.int p4), .val (.int p5), .val (.int p6), .val (.int (4 : Int32)), .val (.ref b1), .unset, .unset, .unset, .unset, .unset, .unset]) rfl ?_
    refine st3 _ ?_
    refine XS.dup X3.here hx rfl (hb hby at_25) rfl rfl ?_
    show Steps p.tables e below (T3.setTop (mkF m 26 #[.val (.int p1), .val (.int p2), .val (.int p3), .val (.int p4), .val (.int p5), .val (.int p6), .val (.int (4 : Int32)), .val (.ref b1), .unset, .unset, .unset, .unset, .unset, .unset] [(.ref b3), (.ref b3)])) _
    refine st4 _ ?_
    refine XS.astore X4.here hx rfl (hb hby at_29) rfl rfl (l' := #[.val (.int p1), .val (.int p2), .val (.int p3), .val (.int p4), .val (.int p5), .val (.int p6), .val (.int (4 : Int32)), .val (.ref b1), .val (.ref b3), .unset, .unset, .unset, .unset, .unset]) rfl ?_
    refine st5 _ ?_
    refine XS.dup X5.here hx rfl (hb hby at_34) rfl rfl ?_
    refine st6 _ ?_
    refine XS.astore X6.here hx rfl (hb hby at_38) rfl rfl (l' := #[.val (.int p1), .val (.int p2), .val (.int p3), .val (.int p4), .val (.int p5), .val (.int p6), .val (.int (4 : Int32)), .val (.ref b1), .val (.ref b3), .val (.ref b5), .unset, .unset, .unset, .unset]) rfl ?_
    refine XS.aload X6.here hx rfl (hb hby at_40) rfl rfl ?_
    refine XS.aload X6.here hx rfl (hb hby at_42) rfl rfl ?_
    refine st13 _ ?_
    refine XS.pop X13.here hx rfl (hb hby at_47) rfl rfl ?_
    refine XS.aload X13.here hx rfl (hb hby at_48) rfl rfl ?_
    refine XS.aload X13.here hx rfl (hb hby at_50) rfl rfl ?_
    show Steps p.tables e below (T13.setTop (mkF m 52 #[.val (.int p1), .val (.int p2), .val (.int p3), .val (.int p4), .val (.int p5), .val (.int p6), .val (.int (4 : Int32)), .val (.ref b1), .val (.ref b3), .val (.ref b5), .unset, .unset, .unset, .unset] [(.ref b1), (.ref b3)])) _
    refine st15 _ ?_
    refine XS.pop X15.here hx rfl (hb hby at_55) rfl rfl ?_
    refine XS.aload X15.here hx rfl (hb hby at_56) rfl rfl ?_
    refine XS.iloadN X15.here hx rfl (hb hby at_58) rfl ?_
    refine XS.i2dS X15.here hx rfl (hb hby at_59) rfl rfl ?_
    refine st16 _ ?_
    refine st22 _ ?_
    refine XS.pop X22.here hx rfl (hb hby at_66) rfl rfl ?_
    refine XS.aload X22.here hx rfl (hb hby at_67) rfl rfl ?_
    refine XS.iloadN X22.here hx rfl (hb hby at_69) rfl ?_
    refine XS.i2dS X22.here hx rfl (hb hby at_70) rfl rfl ?_
    refine st23 _ ?_
    show Steps p.tables e below (T23.setTop (mkF m 74 #[.val (.int p1), .val (.int p2), .val (.int p3), .val (.int p4), .val (.int p5), .val (.int p6), .val (.int (4 : Int32)), .val (.ref b1), .val (.ref b3), .val (.ref b5), .unset, .unset, .unset, .unset] [(.ref b23_b2), (.ref b5)])) _
    refine st30 _ ?_
    refine XS.pop X30.here hx rfl (hb hby at_77) rfl rfl ?_
    refine XS.iload X30.here hx rfl (hb hby at_78) rfl ?_
    refine XS.iconst X30.here hx rfl (hb hby at_80) ?_
    refine XS.icmpNo X30.here hx rfl (hb hby at_81) rfl (flt ((by decide : ¬ ((4 : Int32) < (3 : Int32))) : ¬ ((4 : Int32) < (3 : Int32)))).1 ?_
    refine XS.aload X30.here hx rfl (hb hby at_84) rfl rfl ?_
    refine XS.aload X30.here hx rfl (hb hby at_86) rfl rfl ?_
    refine st38 _ ?_
    refine XS.pop X38.here hx rfl (hb hby at_91) rfl rfl ?_
    refine XS.aload X38.here hx rfl (hb hby at_92) rfl rfl ?_
    refine XS.iloadN X38.here hx rfl (hb hby at_94) rfl ?_
    refine XS.i2dS X38.here hx rfl (hb hby at_95) rfl rfl ?_
    show Steps p.tables e below (T38.setTop (mkF m 96 #[.val (.int p1), .val (.int p2), .val (.int p3), .val (.int p4), .val (.int p5), .val (.int p6), .val (.int (4 : Int32)), .val (.ref b1), .val (.ref b3), .val (.ref b5), .unset, .unset, .unset, .unset] [(.double (FP.i2d p4)), (.ref b5)])) _
    refine st39 _ ?_
    refine st46 _ ?_
    refine XS.pop X46.here hx rfl (hb hby at_102) rfl rfl ?_
    refine XS.iload X46.here hx rfl (hb hby at_103) rfl ?_
    refine XS.iconst X46.here hx rfl (hb hby at_105) ?_
    refine XS.icmpNo X46.here hx rfl (hb hby at_106) rfl (flt ((by decide : ¬ ((4 : Int32) < (4 : Int32))) : ¬ ((4 : Int32) < (4 : Int32)))).1 ?_
    refine XS.aload X46.here hx rfl (hb hby at_109) rfl rfl ?_
    refine XS.aload X46.here hx rfl (hb hby at_111) rfl rfl ?_
    refine st54 _ ?_
    refine XS.pop X54.here hx rfl (hb hby at_116) rfl rfl ?_
    refine XS.aload X54.here hx rfl (hb hby at_117) rfl rfl ?_
    refine XS.iload X54.here hx rfl (hb hby at_119) rfl ?_
    show Steps p.tables e below (T54.setTop (mkF m 121 #[.val (.int p1), .val (.int p2), .val (.int p3), .val (.int p4), .val (.int p5), .val (.int p6), .val (.int (4 : Int32)), .val (.ref b1), .val (.ref b3), .val (.ref b5), .unset, .unset, .unset, .unset] [(.int p5), (.ref b5)])) _
    refine XS.i2dS X54.here hx rfl (hb hby at_121) rfl rfl ?_
    refine st55 _ ?_
    refine st62 _ ?_
    refine XS.pop X62.here hx rfl (hb hby at_128) rfl rfl ?_
    refine st63 _ ?_
    refine XS.dup X63.here hx rfl (hb hby at_132) rfl rfl ?_
    refine st64 _ ?_
    refine XS.astore X64.here hx rfl (hb hby at_136) rfl rfl (l' := #[.val (.int p1), .val (.int p2), .val (.int p3), .val (.int p4), .val (.int p5), .val (.int p6), .val (.int (4 : Int32)), .val (.ref b1), .val (.ref b3), .val (.ref b5), .val (.ref b63), .unset, .unset, .unset]) rfl ?_
    refine st65 _ ?_
    refine XS.dup X65.here hx rfl (hb hby at_141) rfl rfl ?_
    refine XS.aload X65.here hx rfl (hb hby at_142) rfl rfl ?_
    refine XS.aload X65.here hx rfl (hb hby at_144) rfl rfl ?_
    show Steps p.tables e below (T65.setTop (mkF m 146 #[.val (.int p1), .val (.int p2), .val (.int p3), .val (.int p4), .val (.int p5), .val (.int p6), .val (.int (4 : Int32)), .val (.ref b1), .val (.ref b3), .val (.ref b5), .val (.ref b63), .unset, .unset, .unset] [(.ref b5), (.ref b3), (.ref b65), (.ref b65)])) _
    refine XS.iload X65.here hx rfl (hb hby at_146) rfl ?_
    refine XS.i2dS X65.here hx rfl (hb hby at_148) rfl rfl ?_
    refine XS.aload X65.here hx rfl (hb hby at_149) rfl rfl ?_
    refine st83 _ ?_
    refine XS.astore X83.here hx rfl (hb hby at_154) rfl rfl (l' := #[.val (.int p1), .val (.int p2), .val (.int p3), .val (.int p4), .val (.int p5), .val (.int p6), .val (.int (4 : Int32)), .val (.ref b1), .val (.ref b3), .val (.ref b5), .val (.ref b63), .val (.ref b65), .unset, .unset]) rfl ?_
    refine XS.iload X83.here hx rfl (hb hby at_156) rfl ?_
    refine XS.iconst X83.here hx rfl (hb hby at_158) ?_
    refine XS.icmpYes X83.here hx rfl (pc0 := 159) (pc' := 169) rfl (hb hby at_159) rfl (feq ((by decide : ¬ ((4 : Int32) = (2 : Int32))) : ¬ ((4 : Int32) = (2 : Int32)))).2 (by decide) (by decide) ?_
    refine XS.iload X83.here hx rfl (hb hby at_169) rfl ?_
    refine XS.iconst X83.here hx rfl (hb hby at_171) ?_
    refine XS.icmpYes X83.here hx rfl (pc0 := 172) (pc' := 182) rfl (hb hby at_172) rfl (feq ((by decide : ¬ ((4 : Int32) = (3 : Int32))) : ¬ ((4 : Int32) = (3 : Int32)))).2 (by decide) (by decide) ?_
    refine XS.iload X83.here hx rfl (hb hby at_182) rfl ?_
    show Steps p.tables e below (T83.setTop (mkF m 184 #[.val (.int p1), .val (.int p2), .val (.int p3), .val (.int p4), .val (.int p5), .val (.int p6), .val (.int (4 : Int32)), .val (.ref b1), .val (.ref b3), .val (.ref b5), .val (.ref b63), .val (.ref b65), .unset, .unset] [(.int p5)])) _
    refine XS.i2dS X83.here hx rfl (hb hby at_184) rfl rfl ?_
    refine XS.dstore X83.here hx rfl (hb hby at_185) rfl (l' := #[.val (.int p1), .val (.int p2), .val (.int p3), .val (.int p4), .val (.int p5), .val (.int p6), .val (.int (4 : Int32)), .val (.ref b1), .val (.ref b3), .val (.ref b5), .val (.ref b63), .val (.ref b65), .val (.double (FP.i2d p5)), .second]) rfl ?_
    refine XS.aload X83.here hx rfl (hb hby at_187) rfl rfl ?_
    refine st86 _ ?_
    refine XS.dload X86.here hx rfl (hb hby at_192) rfl ?_
    refine XS.dcmpS X86.here hx rfl (hb hby at_194) rfl (dcmpV_self (nn_w (i2d_w _)) .l) ?_
    refine XS.ifNo X86.here hx rfl (hb hby at_195) rfl ((if0 _ _).trans (teq ((by decide : (0 : Int32) = (0 : Int32)) : (0 : Int32) = (0 : Int32))).2) ?_
    refine XS.iconst X86.here hx rfl (hb hby at_198) ?_
    refine XS.goto X86.here hx rfl (pc0 := 199) (pc' := 203) rfl (hb hby at_199) (by decide) (by decide) ?_
    exact retN X86 hx (t := .boolean) hret (by simp) (hb hby at_203) hr
theorem own_k3 (p1 : Int32) : ((p1 &&& (2147483647 : Int32)) - ((p1 &&& (2147483647 : Int32)) / (3 : Int32)) * (3 : Int32)) = (0 : Int32) ∨ ((p1 &&& (2147483647 : Int32)) - ((p1 &&& (2147483647 : Int32)) / (3 : Int32)) * (3 : Int32)) = (1 : Int32) ∨ ((p1 &&& (2147483647 : Int32)) - ((p1 &&& (2147483647 : Int32)) / (3 : Int32)) * (3 : Int32)) = (2 : Int32) := by
  have h1 := own_irem (p1 &&& (2147483647 : Int32)) (3 : Int32) 3 (by decide)
  have h2 := own_mask p1 (2147483647 : Int32) 31 (by decide) (by decide) 2147483648 (by decide)
  have h3 : (((p1 &&& (2147483647 : Int32)) - ((p1 &&& (2147483647 : Int32)) / (3 : Int32)) * (3 : Int32))).toInt = 0 ∨ (((p1 &&& (2147483647 : Int32)) - ((p1 &&& (2147483647 : Int32)) / (3 : Int32)) * (3 : Int32))).toInt = 1 ∨ (((p1 &&& (2147483647 : Int32)) - ((p1 &&& (2147483647 : Int32)) / (3 : Int32)) * (3 : Int32))).toInt = 2 := by omega
  rcases h3 with h | h | h
  · exact Or.inl (Int32.toInt_inj.mp h)
  · exact Or.inr (Or.inl (Int32.toInt_inj.mp h))
  · exact Or.inr (Or.inr (Int32.toInt_inj.mp h))
theorem rm0 (l : Launch) (Z : State) (a0 : Array Value) (hw : ∀ d ∈ tables_1, d.before a0 Z = true) (ws : List Jvm.Cond) (p1 : Int32) (p2 : Int32) (p3 : Int32) (p4 : Int32) (p5 : Int32) (p6 : Int32) (sa1 : Addr) (sa2 : Addr) (sa3 : Addr) (sa4 : Addr) (sa5 : Addr) (sk9 : ClassId) (sk11 : ClassId) (sk14 : ClassId) (smr : Addr) (h0 : Heap) (n0 : Nat) (Z0 : n0 ≤ h0.size) (Od0 : Old Z n0 h0) (S8_EMPTY_ELEMENTDATA : Sta Z Z.heap "java/util/ArrayList" "EMPTY_ELEMENTDATA" "[Ljava/lang/Object;" (.ref sa1)) (E_sa1 : Exa Z h0 sa1 "[Ljava/lang/Object;") (V_sa1 : Arv Z h0 sa1 sk9 (.object "java/lang/Object") (0 : Int32) [] .null) (S10_DEFAULTCAPACITY_EMPTY_ELEMENTDATA : Sta Z Z.heap "java/util/ArrayList" "DEFAULTCAPACITY_EMPTY_ELEMENTDATA" "[Ljava/lang/Object;" (.ref sa2)) (E_sa2 : Exa Z h0 sa2 "[Ljava/lang/Object;") (V_sa2 : Arv Z h0 sa2 sk11 (.object "java/lang/Object") (0 : Int32) [] .null) (S12_EMPTY_LIST : Sta Z Z.heap "java/util/ImmutableCollections" "EMPTY_LIST" "Ljava/util/ImmutableCollections$ListN;" (.ref sa3)) (E_sa3 : Exa Z h0 sa3 "java/util/ImmutableCollections$ListN") (F13_elements : Fld Z h0 sa3 "java/util/ImmutableCollections$ListN" "elements" "[Ljava/lang/Object;" (.ref sa4)) (E_sa4 : Exa Z h0 sa4 "[Ljava/lang/Object;") (V_sa4 : Arv Z h0 sa4 sk14 (.object "java/lang/Object") (0 : Int32) [] .null) (S15_EMPTY : Sta Z Z.heap "java/util/ImmutableCollections" "EMPTY" "Ljava/lang/Object;" (.ref sa5)) (E_sa5 : Exa Z h0 sa5 "java/lang/Object") (F16_allowNulls : Fld Z h0 sa3 "java/util/ImmutableCollections$ListN" "allowNulls" "Z" (.int (0 : Int32))) (S17__assertionsDisabled : Sta Z Z.heap "java/util/ImmutableCollections" "$assertionsDisabled" "Z" (.int (1 : Int32))) (M_top : OwnMir Z "[Ljava/lang/Object;" smr) :
    OwnMet l Z x code maxLocals ret ws room_1 #[(.int p1), (.int p2), (.int p3), (.int p4), (.int p5), (.int p6)] h0 (Q0 n0) := by
  rcases own_k3 p1 with hk | hk | hk
  · exact rm0_0 l Z a0 hw ws p1 p2 p3 p4 p5 p6 sa1 sa2 sa3 sa4 sa5 sk9 sk11 sk14 smr h0 n0 Z0 Od0 S8_EMPTY_ELEMENTDATA E_sa1 V_sa1 S10_DEFAULTCAPACITY_EMPTY_ELEMENTDATA E_sa2 V_sa2 S12_EMPTY_LIST E_sa3 F13_elements E_sa4 V_sa4 S15_EMPTY E_sa5 F16_allowNulls S17__assertionsDisabled M_top hk
  · exact rm0_1 l Z a0 hw ws p1 p2 p3 p4 p5 p6 sa1 sa2 sa3 sa4 sa5 sk9 sk11 sk14 smr h0 n0 Z0 Od0 S8_EMPTY_ELEMENTDATA E_sa1 V_sa1 S10_DEFAULTCAPACITY_EMPTY_ELEMENTDATA E_sa2 V_sa2 S12_EMPTY_LIST E_sa3 F13_elements E_sa4 V_sa4 S15_EMPTY E_sa5 F16_allowNulls S17__assertionsDisabled M_top hk
  · exact rm0_2 l Z a0 hw ws p1 p2 p3 p4 p5 p6 sa1 sa2 sa3 sa4 sa5 sk9 sk11 sk14 smr h0 n0 Z0 Od0 S8_EMPTY_ELEMENTDATA E_sa1 V_sa1 S10_DEFAULTCAPACITY_EMPTY_ELEMENTDATA E_sa2 V_sa2 S12_EMPTY_LIST E_sa3 F13_elements E_sa4 V_sa4 S15_EMPTY E_sa5 F16_allowNulls S17__assertionsDisabled M_top hk
theorem comes_1 {Post : Tables → Env → Array Value → State → Outcome → State → Prop} (hpost : ∀ tb e args s v u, (limb_1_1.after args s (.returned v) u = true ∧ limb_1_2.after args s (.returned v) u = true ∧ True) → FrameEnd s (.returned v) u (Jvm.fieldLocs frame_1_writes args s ++ Jvm.arrayLocs frame_1_arrays args s ++ Jvm.staticLocs frame_1_statics s) 48 192 → Post tb e args s (.returned v) u) :
    ArmFor flags0 classFile x code maxLocals ret World_1 tables_1 room_1 Calls_1 rest_1 Pre_1 Post := by
  intro l hfl _ _ p e ha hc hk s m args below hf hA hF happ hP
  obtain ⟨hcalls, hrest, hpre⟩ := hP
  obtain ⟨-, -, -, hnamed, -, -, -, hat⟩ := (Spec.applies_iff hf).mp happ
  obtain ⟨hg, hn⟩ := and_e (Cond.before_iff.mp (show (Jvm.Cond.and given_1 narrow_1).before args s = true from hpre))
  obtain ⟨hg0, hr0⟩ := and_e hg
  obtain ⟨hg1, hr1⟩ := and_e hr0
  obtain ⟨hg2, hr2⟩ := and_e hr1
  obtain ⟨hg3, hr3⟩ := and_e hr2
  obtain ⟨hg4, hr4⟩ := and_e hr3
  obtain ⟨hg5, hr5⟩ := and_e hr4
  obtain ⟨w0, w1, w2, w3, w4, w5, rfl⟩ : ∃ w0 w1 w2 w3 w4 w5 : Value, args = #[w0, w1, w2, w3, w4, w5] := by
    have hs : args.size = 6 := by simpa [Cond.value, given_1] using hg0
    obtain ⟨L⟩ := args
    match L, hs with
    | [w0, w1, w2, w3, w4, w5], _ => exact ⟨w0, w1, w2, w3, w4, w5, rfl⟩
  have hw := fun d (hd : d ∈ tables_1) => atoms_spec (ws := Jvm.Cond.code x code maxLocals ret :: tables_1) hat d (List.mem_cons_of_mem _ hd)
  have hfit : Fit s := fun {y c} hc i hi => by
    obtain ⟨ha, rfl⟩ := Array.getElem?_eq_some_iff.mp hc
    have q := List.all_eq_true.mp ((Array.all_eq_true_iff_forall_mem.mp hF) _ (Array.getElem_mem ha)) i (List.mem_range.mpr hi)
    simpa [Array.getElem?_eq_getElem hi] using q
  obtain ⟨hsets, hown0⟩ := atoms_of _ (rest_1_c_eq ▸ (show rest_1_c.before _ s = true from hrest))
  have hro := Cond.before_iff.mp hown0
  obtain ⟨p1, ei0⟩ := is_v hg1
  obtain rfl : w0 = (.int p1) := Option.some.inj ei0
  obtain ⟨p2, ei1⟩ := is_v hg2
  obtain rfl : w1 = (.int p2) := Option.some.inj ei1
  obtain ⟨p3, ei2⟩ := is_v hg3
  obtain rfl : w2 = (.int p3) := Option.some.inj ei2
  obtain ⟨p4, ei3⟩ := is_v hg4
  obtain rfl : w3 = (.int p4) := Option.some.inj ei3
  obtain ⟨p5, ei4⟩ := is_v hg5
  obtain rfl : w4 = (.int p5) := Option.some.inj ei4
  obtain ⟨p6, ei5⟩ := is_v hr5
  obtain rfl : w5 = (.int p6) := Option.some.inj ei5
  obtain ⟨sa1, ev_sa1⟩ := exa_v (Cond.before_iff.mp (hsets _ (List.mem_of_getElem? (i := 4) rfl)))
  obtain ⟨sa2, ev_sa2⟩ := exa_v (Cond.before_iff.mp (hsets _ (List.mem_of_getElem? (i := 7) rfl)))
  obtain ⟨sa3, ev_sa3⟩ := exa_v (Cond.before_iff.mp (hsets _ (List.mem_of_getElem? (i := 24) rfl)))
  obtain ⟨sa4, ev_sa4⟩ := exa_v (Cond.before_iff.mp (hsets _ (List.mem_of_getElem? (i := 13) rfl)))
  obtain ⟨sa5, ev_sa5⟩ := exa_v (Cond.before_iff.mp (hsets _ (List.mem_of_getElem? (i := 18) rfl)))
  have ev6 := own_eqI (Cond.before_iff.mp (hsets _ (List.mem_of_getElem? (i := 15) rfl)))
  have ev7 := own_eqI (Cond.before_iff.mp (hsets _ (List.mem_of_getElem? (i := 21) rfl)))
  have S8_EMPTY_ELEMENTDATA : Sta s s.heap "java/util/ArrayList" "EMPTY_ELEMENTDATA" "[Ljava/lang/Object;" (.ref sa1) := Sta.start ev_sa1 (Or.inl (hsets _ (List.mem_of_getElem? (i := 1) rfl)))
  have E_sa1 : Exa s s.heap sa1 "[Ljava/lang/Object;" := Exa.start ev_sa1 (Cond.before_iff.mp (hsets _ (List.mem_of_getElem? (i := 4) rfl)))
  obtain ⟨c9, A9⟩ := Arr.start ev_sa1 (Cond.before_iff.mp (hsets _ (List.mem_of_getElem? (i := 3) rfl)))
  have L9 := own_len (own_eqI (Cond.before_iff.mp (hsets _ (List.mem_of_getElem? (i := 5) rfl)))) ev_sa1 A9
  obtain ⟨sk9, ek9⟩ : ∃ z, z = c9.cls := ⟨_, rfl⟩
  have V_sa1 : Arv s s.heap sa1 sk9 (.object "java/lang/Object") (0 : Int32) [] .null := by rw [ek9]; exact Arv.start hfit A9 L9.1 L9.2 (by decide) rfl trivial
  have S10_DEFAULTCAPACITY_EMPTY_ELEMENTDATA : Sta s s.heap "java/util/ArrayList" "DEFAULTCAPACITY_EMPTY_ELEMENTDATA" "[Ljava/lang/Object;" (.ref sa2) := Sta.start ev_sa2 (Or.inr ⟨(hw _ (List.mem_of_getElem? (i := 23) rfl)), (hsets _ (List.mem_of_getElem? (i := 2) rfl))⟩)
  have E_sa2 : Exa s s.heap sa2 "[Ljava/lang/Object;" := Exa.start ev_sa2 (Cond.before_iff.mp (hsets _ (List.mem_of_getElem? (i := 7) rfl)))
  obtain ⟨c11, A11⟩ := Arr.start ev_sa2 (Cond.before_iff.mp (hsets _ (List.mem_of_getElem? (i := 6) rfl)))
  have L11 := own_len (own_eqI (Cond.before_iff.mp (hsets _ (List.mem_of_getElem? (i := 8) rfl)))) ev_sa2 A11
  obtain ⟨sk11, ek11⟩ : ∃ z, z = c11.cls := ⟨_, rfl⟩
  have V_sa2 : Arv s s.heap sa2 sk11 (.object "java/lang/Object") (0 : Int32) [] .null := by rw [ek11]; exact Arv.start hfit A11 L11.1 L11.2 (by decide) rfl trivial
  have S12_EMPTY_LIST : Sta s s.heap "java/util/ImmutableCollections" "EMPTY_LIST" "Ljava/util/ImmutableCollections$ListN;" (.ref sa3) := Sta.start ev_sa3 (Or.inl (hsets _ (List.mem_of_getElem? (i := 10) rfl)))
  have E_sa3 : Exa s s.heap sa3 "java/util/ImmutableCollections$ListN" := Exa.start ev_sa3 (Cond.before_iff.mp (hsets _ (List.mem_of_getElem? (i := 24) rfl)))
  have F13_elements : Fld s s.heap sa3 "java/util/ImmutableCollections$ListN" "elements" "[Ljava/lang/Object;" (.ref sa4) := Fld.start ((fld_at ev_sa3).symm.trans ev_sa4)
  have E_sa4 : Exa s s.heap sa4 "[Ljava/lang/Object;" := Exa.start ev_sa4 (Cond.before_iff.mp (hsets _ (List.mem_of_getElem? (i := 13) rfl)))
  obtain ⟨c14, A14⟩ := Arr.start ev_sa4 (Cond.before_iff.mp (hsets _ (List.mem_of_getElem? (i := 12) rfl)))
  have L14 := own_len (own_eqI (Cond.before_iff.mp (hsets _ (List.mem_of_getElem? (i := 14) rfl)))) ev_sa4 A14
  obtain ⟨sk14, ek14⟩ : ∃ z, z = c14.cls := ⟨_, rfl⟩
  have V_sa4 : Arv s s.heap sa4 sk14 (.object "java/lang/Object") (0 : Int32) [] .null := by rw [ek14]; exact Arv.start hfit A14 L14.1 L14.2 (by decide) rfl trivial
  have S15_EMPTY : Sta s s.heap "java/util/ImmutableCollections" "EMPTY" "Ljava/lang/Object;" (.ref sa5) := Sta.start ev_sa5 (Or.inl (hsets _ (List.mem_of_getElem? (i := 17) rfl)))
  have E_sa5 : Exa s s.heap sa5 "java/lang/Object" := Exa.start ev_sa5 (Cond.before_iff.mp (hsets _ (List.mem_of_getElem? (i := 18) rfl)))
  have F16_allowNulls : Fld s s.heap sa3 "java/util/ImmutableCollections$ListN" "allowNulls" "Z" (.int (0 : Int32)) := Fld.start ((fld_at ev_sa3).symm.trans ev6)
  have S17__assertionsDisabled : Sta s s.heap "java/util/ImmutableCollections" "$assertionsDisabled" "Z" (.int (1 : Int32)) := Sta.start ev7 (Or.inl (hsets _ (List.mem_of_getElem? (i := 20) rfl)))
  obtain ⟨mc, mk, smr, mm1, mm2, mm3, -⟩ := hcalls.1
  obtain ⟨n, o, h1, h2, h3, _, L, rfl, ⟨rfl, N⟩, hq⟩ := rm0 l s _ hw tables_1 p1 p2 p3 p4 p5 p6 sa1 sa2 sa3 sa4 sa5 sk9 sk11 sk14 smr s.heap s.heap.size (Nat.le_refl _) (Old.start s) S8_EMPTY_ELEMENTDATA E_sa1 V_sa1 S10_DEFAULTCAPACITY_EMPTY_ELEMENTDATA E_sa2 V_sa2 S12_EMPTY_LIST E_sa3 F13_elements E_sa4 V_sa4 S15_EMPTY E_sa5 F16_allowNulls S17__assertionsDisabled ⟨mc, mk, mm1, mm2, mm3⟩ p e ha hc hk s m _ below hf ((Spec.applies_iff_loose hf).mp happ).1 ⟨rfl, State.Warmed39.refl s, rfl⟩ trivial
  refine ⟨n, _, h1, h2, h3, hpost _ _ _ _ _ _ ⟨Cond.after_iff.mpr rfl, Cond.after_iff.mpr (eq_i res_at (Term.int_eval (1)) rfl), trivial⟩ ⟨hq.1, hq.2.1, (hq.2.2.sift fun y hy => Or.inr (N y hy)).mono (by decide) (by decide)⟩⟩
theorem main_1_1 : Claimed_1_1 := comes_1 fun _ _ _ _ _ _ h hF => ⟨h.1, hF⟩
theorem main_1_2 : Claimed_1_2 := comes_1 fun _ _ _ _ _ _ h hF => ⟨h.2.1, hF⟩
end Jvm.Pilot.@@N@@
namespace Jvm.Pilot.@@N@@
open Jvm Jvm.ClassFile Sem Op Lib Jvm.Free Jvm.Stand Jvm.Pilot.@@N@@.Jvm.D
/-! MADE BY PROGRAM (witnessworld.py) out of the Statement's table words and the real class files: 35 classes; the members and pool entries that the words name. The judged class is class 1, her method 1. -/
namespace start1
open Jvm.ClassFile
def u (s : String) : CpInfo := .utf8 (stringToUtf16 s)
/-- a pool by its gaps: so many unusable entries, then the entry; so many at the end -/
def gap : Nat → List CpInfo → List CpInfo
  | 0, r => r
  | n + 1, r => .unusable :: gap n r
def poolList (es : List (Nat × CpInfo)) (last : Nat) : List CpInfo := es.foldr (fun e r => gap e.1 (e.2 :: r)) (gap last [])
def pool (es : List (Nat × CpInfo)) (last : Nat) : Array CpInfo := ⟨poolList es last⟩
def fileOf (pool : Array CpInfo) (this : Nat) (attrs : Array Attribute := #[]) (ms : Array MethodInfo := #[]) (fl : Nat := 33) (sup : Nat := 0) (ifs : Array Nat := #[]) (fds : Array FieldInfo := #[]) : ClassFile where
  minorVersion := 0
  majorVersion := 65
  constantPool := pool
  accessFlags := fl
  thisClass := this
  superClass := sup
  interfaces := ifs
  fields := fds
  methods := ms
  attributes := attrs
def plain (name : String) (sup : Option ClassId) : Class where
  name := name
  kind := .ordinary
  loader := none
  accessFlags := 33
  super := sup
  interfaces := #[]
  cf := none
  fields := #[]
  methods := #[]
  instanceTypes := #[]
  staticTypes := #[]
  resolved := #[]
  callSites := []
  init := .initialized
  statics := none
  mirror := none

def pool0 : Array CpInfo := pool [(5, u "<init>"), (0, u "()V"), (1, .class_ 10), (1, u "java/lang/Object"), (0, u "getClass"), (0, u "()Ljava/lang/Class;")] 111

def k0c0 : Code := { maxStack := 0, maxLocals := 1, code := object_method_1_code, exceptionTable := #[], attributes := #[] }
def k0m0 : Method := { name := "<init>", desc := "()V", sig := { parameters := [], returnType := none }, accessFlags := 1, code := some k0c0 }
def k0m1 : Method := { name := "getClass", desc := "()Ljava/lang/Class;", sig := { parameters := [], returnType := some (.object "java/lang/Class") }, accessFlags := 273, code := none }
/-- java/lang/Object -/
def k0 : Class := { plain "java/lang/Object" none with
  accessFlags := 33
  interfaces := #[]
  cf := some (fileOf pool0 8 #[] #[{ accessFlags := 1, nameIndex := 5, descriptorIndex := 6, attributes := #[] }, { accessFlags := 273, nameIndex := 11, descriptorIndex := 12, attributes := #[] }] 33 0 #[] #[])
  fields := #[]
  methods := #[k0m0, k0m1]
  instanceTypes := #[]
  staticTypes := #[]
  resolved := Array.replicate 124 none
  statics := none }

def pool1 : Array CpInfo := pool [(2, .class_ 4), (0, .nameAndType 5 6), (0, u "java/lang/Object"), (0, u "<init>"), (0, u "()V"), (0, .integer 2147483647), (0, .class_ 9), (0, u "com/example/feedergen/feedergen/core/StopCandidate"), (0, .methodref 8 11), (0, .nameAndType 5 12), (0, u "(ILcom/example/feedergen/feedergen/core/StreetLink;D)V"), (0, .class_ 14), (0, u "java/util/ArrayList"), (0, .methodref 13 3), (0, .methodref 13 17), (0, .nameAndType 18 19), (0, u "add"), (0, u "(Ljava/lang/Object;)Z"), (0, .methodref 21 22), (0, .class_ 23), (0, .nameAndType 24 25), (0, u "java/lang/Double"), (0, u "valueOf"), (0, u "(D)Ljava/lang/Double;"), (0, .class_ 27), (0, u "com/example/feedergen/feedergen/core/DrivenLine"), (0, .methodref 26 29), (0, .nameAndType 5 30), (0, u "(Ljava/util/List;Ljava/util/List;DLjava/util/List;)V"), (0, .methodref 26 32), (0, .nameAndType 33 34), (0, u "lengthForward"), (0, u "()D"), (0, .class_ 36), (0, u "com/example/feedergen/feedergen/core/DrivenLineLengthForwardPinLaw"), (2, u "law"), (0, u "(IIIIII)Z")] 3

def k1m0 : Method := { name := "<init>", desc := "()V", sig := { parameters := [], returnType := none }, accessFlags := 1, code := none }
def k1c1 : Code := { maxStack := 7, maxLocals := 14, code := code, exceptionTable := #[], attributes := #[] }
def k1m1 : Method := { name := "law", desc := "(IIIIII)Z", sig := { parameters := [.int, .int, .int, .int, .int, .int], returnType := some .boolean }, accessFlags := 9, code := some k1c1 }
/-- com/example/feedergen/feedergen/core/DrivenLineLengthForwardPinLaw -/
def k1 : Class := { plain "com/example/feedergen/feedergen/core/DrivenLineLengthForwardPinLaw" (some 0) with
  accessFlags := 49
  interfaces := #[]
  cf := some (fileOf pool1 35 #[] #[{ accessFlags := 1, nameIndex := 5, descriptorIndex := 6, attributes := #[] }, { accessFlags := 9, nameIndex := 39, descriptorIndex := 40, attributes := #[] }] 49 2 #[] #[])
  fields := #[]
  methods := #[k1m0, k1m1]
  instanceTypes := #[]
  staticTypes := #[]
  resolved := Array.replicate 44 none
  statics := none }

def pool2 : Array CpInfo := pool [(1, .methodref 2 3), (0, .class_ 4), (0, .nameAndType 5 6), (0, u "java/lang/Object"), (0, u "<init>"), (0, u "()V"), (0, .class_ 8), (0, u "java/lang/Record")] 13

def k2c0 : Code := { maxStack := 1, maxLocals := 1, code := jdk_30_method_1_code, exceptionTable := #[], attributes := #[] }
def k2m0 : Method := { name := "<init>", desc := "()V", sig := { parameters := [], returnType := none }, accessFlags := 4, code := some k2c0 }
/-- java/lang/Record -/
def k2 : Class := { plain "java/lang/Record" (some 0) with
  accessFlags := 1057
  interfaces := #[]
  cf := some (fileOf pool2 7 #[] #[{ accessFlags := 4, nameIndex := 5, descriptorIndex := 6, attributes := #[] }] 1057 2 #[] #[])
  fields := #[]
  methods := #[k2m0]
  instanceTypes := #[]
  staticTypes := #[]
  resolved := Array.replicate 22 none
  statics := none }

def pool3 : Array CpInfo := pool [(1, .methodref 2 3), (0, .class_ 4), (0, .nameAndType 5 6), (0, u "java/lang/Record"), (0, u "<init>"), (0, u "()V"), (0, .fieldref 8 9), (0, .class_ 10), (0, .nameAndType 11 12), (0, u "com/example/feedergen/feedergen/core/StopCandidate"), (0, u "id"), (0, u "I"), (0, .fieldref 8 14), (0, .nameAndType 15 16), (0, u "link"), (0, u "Lcom/example/feedergen/feedergen/core/StreetLink;"), (0, .fieldref 8 18), (0, .nameAndType 19 20), (0, u "trips"), (0, u "D"), (18, u "(ILcom/example/feedergen/feedergen/core/StreetLink;D)V")] 31

def k3c0 : Code := { maxStack := 3, maxLocals := 5, code := prog_27_method_1_code, exceptionTable := #[], attributes := #[] }
def k3m0 : Method := { name := "<init>", desc := "(ILcom/example/feedergen/feedergen/core/StreetLink;D)V", sig := { parameters := [.int, (.object "com/example/feedergen/feedergen/core/StreetLink"), .double], returnType := none }, accessFlags := 1, code := some k3c0 }
/-- com/example/feedergen/feedergen/core/StopCandidate -/
def k3 : Class := { plain "com/example/feedergen/feedergen/core/StopCandidate" (some 2) with
  accessFlags := 49
  interfaces := #[]
  cf := some (fileOf pool3 8 #[] #[{ accessFlags := 1, nameIndex := 5, descriptorIndex := 39, attributes := #[] }] 49 2 #[] #[{ accessFlags := 18, nameIndex := 11, descriptorIndex := 12, attributes := #[] }, { accessFlags := 18, nameIndex := 15, descriptorIndex := 16, attributes := #[] }, { accessFlags := 18, nameIndex := 19, descriptorIndex := 20, attributes := #[] }])
  fields := #[{ name := "id", type := .int, accessFlags := 18, slot := 0, constantValue := 0 }, { name := "link", type := (.object "com/example/feedergen/feedergen/core/StreetLink"), accessFlags := 18, slot := 1, constantValue := 0 }, { name := "trips", type := .double, accessFlags := 18, slot := 2, constantValue := 0 }]
  methods := #[k3m0]
  instanceTypes := #[.int, (.object "com/example/feedergen/feedergen/core/StreetLink"), .double]
  staticTypes := #[]
  resolved := Array.replicate 71 none
  statics := none }

def pool4 : Array CpInfo := pool [(8, .class_ 10), (1, u "java/lang/Iterable"), (24, .class_ 36), (0, u "java/lang/Object")] 25

/-- java/lang/Iterable -/
def k4 : Class := { plain "java/lang/Iterable" (some 0) with
  accessFlags := 1537
  interfaces := #[]
  cf := some (fileOf pool4 8 #[] #[] 1537 35 #[] #[])
  fields := #[]
  methods := #[]
  instanceTypes := #[]
  staticTypes := #[]
  resolved := Array.replicate 62 none
  statics := none }

def pool5 : Array CpInfo := pool [(10, .class_ 12), (1, u "java/util/Collection"), (0, u "toArray"), (16, u "()Z"), (29, .class_ 61), (0, u "java/lang/Object"), (0, .class_ 63), (0, u "java/lang/Iterable"), (2, u "isEmpty"), (3, u "()[Ljava/lang/Object;")] 44

def k5m0 : Method := { name := "isEmpty", desc := "()Z", sig := { parameters := [], returnType := some .boolean }, accessFlags := 1025, code := none }
def k5m1 : Method := { name := "toArray", desc := "()[Ljava/lang/Object;", sig := { parameters := [], returnType := some (.array (.object "java/lang/Object")) }, accessFlags := 1025, code := none }
/-- java/util/Collection -/
def k5 : Class := { plain "java/util/Collection" (some 0) with
  accessFlags := 1537
  interfaces := #[4]
  cf := some (fileOf pool5 10 #[] #[{ accessFlags := 1025, nameIndex := 66, descriptorIndex := 30, attributes := #[] }, { accessFlags := 1025, nameIndex := 13, descriptorIndex := 70, attributes := #[] }] 1537 60 #[62] #[])
  fields := #[]
  methods := #[k5m0, k5m1]
  instanceTypes := #[]
  staticTypes := #[]
  resolved := Array.replicate 115 none
  statics := none }

def pool6 : Array CpInfo := pool [(1, .methodref 2 3), (0, .class_ 4), (0, .nameAndType 5 6), (0, u "java/lang/Object"), (0, u "<init>"), (0, u "()V"), (1, .class_ 10), (1, u "java/util/AbstractCollection"), (66, .class_ 78), (0, u "java/util/Collection")] 81

def k6c0 : Code := { maxStack := 1, maxLocals := 1, code := jdk_22_method_1_code, exceptionTable := #[], attributes := #[] }
def k6m0 : Method := { name := "<init>", desc := "()V", sig := { parameters := [], returnType := none }, accessFlags := 4, code := some k6c0 }
/-- java/util/AbstractCollection -/
def k6 : Class := { plain "java/util/AbstractCollection" (some 0) with
  accessFlags := 1057
  interfaces := #[5]
  cf := some (fileOf pool6 8 #[] #[{ accessFlags := 4, nameIndex := 5, descriptorIndex := 6, attributes := #[] }] 1057 2 #[77] #[])
  fields := #[]
  methods := #[k6m0]
  instanceTypes := #[]
  staticTypes := #[]
  resolved := Array.replicate 160 none
  statics := none }

def pool7 : Array CpInfo := pool [(8, .class_ 10), (1, u "java/util/SequencedCollection"), (15, .class_ 27), (0, u "java/lang/Object"), (0, .class_ 29), (0, u "java/util/Collection")] 27

/-- java/util/SequencedCollection -/
def k7 : Class := { plain "java/util/SequencedCollection" (some 0) with
  accessFlags := 1537
  interfaces := #[5]
  cf := some (fileOf pool7 8 #[] #[] 1537 26 #[28] #[])
  fields := #[]
  methods := #[]
  instanceTypes := #[]
  staticTypes := #[]
  resolved := Array.replicate 57 none
  statics := none }

def pool8 : Array CpInfo := pool [(8, .class_ 10), (1, u "java/util/List"), (37, u "<init>"), (26, u "get"), (0, u "(I)Ljava/lang/Object;"), (2, u "size"), (0, u "()I"), (7, u "of"), (1, .fieldref 91 92), (0, .class_ 93), (0, .nameAndType 94 95), (0, u "java/util/ImmutableCollections"), (0, u "EMPTY_LIST"), (0, u "Ljava/util/ImmutableCollections$ListN;"), (0, .class_ 97), (0, u "java/util/ImmutableCollections$List12"), (2, .methodref 96 101), (0, .nameAndType 48 102), (0, u "(Ljava/lang/Object;Ljava/lang/Object;)V"), (0, .class_ 104), (0, u "java/lang/Object"), (3, u "([Ljava/lang/Object;)Ljava/util/List;"), (0, .methodref 91 110), (0, .nameAndType 111 108), (0, u "listFromArray"), (0, .methodref 91 113), (0, .nameAndType 114 115), (0, u "listCopy"), (0, u "(Ljava/util/Collection;)Ljava/util/List;"), (3, u "()Ljava/util/List;"), (0, .class_ 121), (0, u "java/util/SequencedCollection"), (112, u "copyOf")] 16

def k8m0 : Method := { name := "size", desc := "()I", sig := { parameters := [], returnType := some .int }, accessFlags := 1025, code := none }
def k8m1 : Method := { name := "get", desc := "(I)Ljava/lang/Object;", sig := { parameters := [.int], returnType := some (.object "java/lang/Object") }, accessFlags := 1025, code := none }
def k8c2 : Code := { maxStack := 1, maxLocals := 0, code := jdk_40_method_36_code, exceptionTable := #[], attributes := #[] }
def k8m2 : Method := { name := "of", desc := "()Ljava/util/List;", sig := { parameters := [], returnType := some (.object "java/util/List") }, accessFlags := 9, code := some k8c2 }
def k8c3 : Code := { maxStack := 5, maxLocals := 2, code := jdk_40_method_47_code, exceptionTable := #[], attributes := #[] }
def k8m3 : Method := { name := "of", desc := "([Ljava/lang/Object;)Ljava/util/List;", sig := { parameters := [(.array (.object "java/lang/Object"))], returnType := some (.object "java/util/List") }, accessFlags := 137, code := some k8c3 }
def k8c4 : Code := { maxStack := 1, maxLocals := 1, code := jdk_40_method_48_code, exceptionTable := #[], attributes := #[] }
def k8m4 : Method := { name := "copyOf", desc := "(Ljava/util/Collection;)Ljava/util/List;", sig := { parameters := [(.object "java/util/Collection")], returnType := some (.object "java/util/List") }, accessFlags := 9, code := some k8c4 }
/-- java/util/List -/
def k8 : Class := { plain "java/util/List" (some 0) with
  accessFlags := 1537
  interfaces := #[7]
  cf := some (fileOf pool8 8 #[] #[{ accessFlags := 1025, nameIndex := 79, descriptorIndex := 80, attributes := #[] }, { accessFlags := 1025, nameIndex := 75, descriptorIndex := 76, attributes := #[] }, { accessFlags := 9, nameIndex := 88, descriptorIndex := 119, attributes := #[] }, { accessFlags := 137, nameIndex := 88, descriptorIndex := 108, attributes := #[] }, { accessFlags := 9, nameIndex := 234, descriptorIndex := 115, attributes := #[] }] 1537 103 #[120] #[])
  fields := #[]
  methods := #[k8m0, k8m1, k8m2, k8m3, k8m4]
  instanceTypes := #[]
  staticTypes := #[]
  resolved := Array.replicate 251 none
  statics := none }

def pool9 : Array CpInfo := pool [(1, .methodref 2 3), (0, .class_ 4), (0, .nameAndType 5 6), (0, u "java/util/AbstractCollection"), (0, u "<init>"), (0, u "()V"), (0, .fieldref 8 9), (0, .class_ 10), (0, .nameAndType 11 12), (0, u "java/util/AbstractList"), (0, u "modCount"), (0, u "I"), (64, .class_ 78), (0, u "java/util/AbstractList$Itr"), (3, .class_ 83), (0, u "java/util/AbstractList$ListItr"), (9, .class_ 94), (0, u "java/util/AbstractList$RandomAccessSubList"), (3, .class_ 99), (0, u "java/util/AbstractList$SubList"), (33, .class_ 134), (0, u "java/util/List"), (73, .class_ 209), (0, u "java/util/AbstractList$SubList$1"), (0, .class_ 211), (0, u "java/util/AbstractList$RandomAccessSpliterator")] 6

def k9c0 : Code := { maxStack := 2, maxLocals := 1, code := jdk_39_method_1_code, exceptionTable := #[], attributes := #[] }
def k9m0 : Method := { name := "<init>", desc := "()V", sig := { parameters := [], returnType := none }, accessFlags := 4, code := some k9c0 }
/-- java/util/AbstractList -/
def k9 : Class := { plain "java/util/AbstractList" (some 6) with
  accessFlags := 1057
  interfaces := #[8]
  cf := some (fileOf pool9 8 #[.nestMembers #[93, 98, 208, 210, 82, 77]] #[{ accessFlags := 4, nameIndex := 5, descriptorIndex := 6, attributes := #[] }] 1057 2 #[133] #[{ accessFlags := 132, nameIndex := 11, descriptorIndex := 12, attributes := #[] }])
  fields := #[{ name := "modCount", type := .int, accessFlags := 132, slot := 0, constantValue := 0 }]
  methods := #[k9m0]
  instanceTypes := #[.int]
  staticTypes := #[]
  resolved := Array.replicate 218 none
  statics := none }

def pool10 : Array CpInfo := pool [(1, .class_ 2), (0, u "java/util/RandomAccess"), (0, .class_ 4), (0, u "java/lang/Object")] 2

/-- java/util/RandomAccess -/
def k10 : Class := { plain "java/util/RandomAccess" (some 0) with
  accessFlags := 1537
  interfaces := #[]
  cf := some (fileOf pool10 1 #[] #[] 1537 3 #[] #[])
  fields := #[]
  methods := #[]
  instanceTypes := #[]
  staticTypes := #[]
  resolved := Array.replicate 7 none
  statics := none }

def pool11 : Array CpInfo := pool [(1, .class_ 2), (0, u "java/lang/Cloneable"), (0, .class_ 4), (0, u "java/lang/Object")] 2

/-- java/lang/Cloneable -/
def k11 : Class := { plain "java/lang/Cloneable" (some 0) with
  accessFlags := 1537
  interfaces := #[]
  cf := some (fileOf pool11 1 #[] #[] 1537 3 #[] #[])
  fields := #[]
  methods := #[]
  instanceTypes := #[]
  staticTypes := #[]
  resolved := Array.replicate 7 none
  statics := none }

def pool12 : Array CpInfo := pool [(1, .class_ 2), (0, u "java/io/Serializable"), (0, .class_ 4), (0, u "java/lang/Object")] 2

/-- java/io/Serializable -/
def k12 : Class := { plain "java/io/Serializable" (some 0) with
  accessFlags := 1537
  interfaces := #[]
  cf := some (fileOf pool12 1 #[] #[] 1537 3 #[] #[])
  fields := #[]
  methods := #[]
  instanceTypes := #[]
  staticTypes := #[]
  resolved := Array.replicate 7 none
  statics := none }

def pool13 : Array CpInfo := pool [(1, .methodref 2 3), (0, .class_ 4), (0, .nameAndType 5 6), (0, u "java/util/AbstractList"), (0, u "<init>"), (0, u "()V"), (0, .class_ 8), (0, u "java/lang/Object"), (0, .fieldref 10 11), (0, .class_ 12), (0, .nameAndType 13 14), (0, u "java/util/ArrayList"), (0, u "elementData"), (0, u "[Ljava/lang/Object;"), (2, u "EMPTY_ELEMENTDATA"), (21, .fieldref 10 40), (0, .nameAndType 41 14), (0, u "DEFAULTCAPACITY_EMPTY_ELEMENTDATA"), (4, u "toArray"), (0, u "()[Ljava/lang/Object;"), (0, .fieldref 10 49), (0, .nameAndType 50 51), (0, u "size"), (0, u "I"), (6, .class_ 60), (1, u "java/util/Arrays"), (0, u "copyOf"), (1, .fieldref 10 64), (0, .nameAndType 65 51), (0, u "modCount"), (0, .methodref 58 67), (0, .nameAndType 61 68), (0, u "([Ljava/lang/Object;I)[Ljava/lang/Object;"), (0, .methodref 10 70), (0, .nameAndType 71 72), (0, u "grow"), (0, u "(I)[Ljava/lang/Object;"), (6, .methodref 80 81), (0, .class_ 82), (0, .nameAndType 83 84), (0, u "java/lang/Math"), (0, u "max"), (0, u "(II)I"), (11, u "(Ljava/lang/Object;)Z"), (32, .methodref 10 130), (0, .nameAndType 71 47), (0, .methodref 10 132), (0, .nameAndType 133 134), (0, u "add"), (0, u "(Ljava/lang/Object;[Ljava/lang/Object;I)V"), (13, .class_ 149), (0, u "java/util/List"), (23, u "()Z"), (12, u "()I"), (75, .class_ 263), (0, u "java/util/ArrayList$ListItr"), (3, .class_ 268), (0, u "java/util/ArrayList$Itr"), (7, .class_ 277), (0, u "java/util/ArrayList$SubList"), (12, .class_ 291), (0, u "java/util/ArrayList$ArrayListSpliterator"), (37, .class_ 330), (0, u "java/util/RandomAccess"), (0, .class_ 332), (0, u "java/lang/Cloneable"), (0, .class_ 334), (0, u "java/io/Serializable"), (0, u "serialVersionUID"), (0, u "J"), (3, u "DEFAULT_CAPACITY"), (22, u "isEmpty"), (136, .class_ 501), (0, u "java/util/ArrayList$SubList$2"), (0, .class_ 503), (0, u "java/util/ArrayList$SubList$1")] 5

def k13c0 : Code := { maxStack := 2, maxLocals := 1, code := jdk_38_method_2_code, exceptionTable := #[], attributes := #[] }
def k13m0 : Method := { name := "<init>", desc := "()V", sig := { parameters := [], returnType := none }, accessFlags := 1, code := some k13c0 }
def k13c1 : Code := { maxStack := 4, maxLocals := 4, code := jdk_38_method_6_code, exceptionTable := #[], attributes := #[] }
def k13m1 : Method := { name := "grow", desc := "(I)[Ljava/lang/Object;", sig := { parameters := [.int], returnType := some (.array (.object "java/lang/Object")) }, accessFlags := 2, code := some k13c1 }
def k13c2 : Code := { maxStack := 3, maxLocals := 1, code := jdk_38_method_7_code, exceptionTable := #[], attributes := #[] }
def k13m2 : Method := { name := "grow", desc := "()[Ljava/lang/Object;", sig := { parameters := [], returnType := some (.array (.object "java/lang/Object")) }, accessFlags := 2, code := some k13c2 }
def k13c3 : Code := { maxStack := 1, maxLocals := 1, code := jdk_38_method_8_code, exceptionTable := #[], attributes := #[] }
def k13m3 : Method := { name := "size", desc := "()I", sig := { parameters := [], returnType := some .int }, accessFlags := 1, code := some k13c3 }
def k13c4 : Code := { maxStack := 1, maxLocals := 1, code := jdk_38_method_9_code, exceptionTable := #[], attributes := #[] }
def k13m4 : Method := { name := "isEmpty", desc := "()Z", sig := { parameters := [], returnType := some .boolean }, accessFlags := 1, code := some k13c4 }
def k13c5 : Code := { maxStack := 2, maxLocals := 1, code := jdk_38_method_16_code, exceptionTable := #[], attributes := #[] }
def k13m5 : Method := { name := "toArray", desc := "()[Ljava/lang/Object;", sig := { parameters := [], returnType := some (.array (.object "java/lang/Object")) }, accessFlags := 1, code := some k13c5 }
def k13c6 : Code := { maxStack := 3, maxLocals := 4, code := jdk_38_method_24_code, exceptionTable := #[], attributes := #[] }
def k13m6 : Method := { name := "add", desc := "(Ljava/lang/Object;[Ljava/lang/Object;I)V", sig := { parameters := [(.object "java/lang/Object"), (.array (.object "java/lang/Object")), .int], returnType := none }, accessFlags := 2, code := some k13c6 }
def k13c7 : Code := { maxStack := 4, maxLocals := 2, code := jdk_38_method_25_code, exceptionTable := #[], attributes := #[] }
def k13m7 : Method := { name := "add", desc := "(Ljava/lang/Object;)Z", sig := { parameters := [(.object "java/lang/Object")], returnType := some .boolean }, accessFlags := 1, code := some k13c7 }
/-- java/util/ArrayList -/
def k13 : Class := { plain "java/util/ArrayList" (some 9) with
  accessFlags := 33
  interfaces := #[8, 10, 11, 12]
  cf := some (fileOf pool13 10 #[.nestMembers #[290, 276, 500, 502, 262, 267]] #[{ accessFlags := 1, nameIndex := 5, descriptorIndex := 6, attributes := #[] }, { accessFlags := 2, nameIndex := 71, descriptorIndex := 72, attributes := #[] }, { accessFlags := 2, nameIndex := 71, descriptorIndex := 47, attributes := #[] }, { accessFlags := 1, nameIndex := 50, descriptorIndex := 186, attributes := #[] }, { accessFlags := 1, nameIndex := 363, descriptorIndex := 173, attributes := #[] }, { accessFlags := 1, nameIndex := 46, descriptorIndex := 47, attributes := #[] }, { accessFlags := 2, nameIndex := 133, descriptorIndex := 134, attributes := #[] }, { accessFlags := 1, nameIndex := 133, descriptorIndex := 96, attributes := #[] }] 33 2 #[148, 329, 331, 333] #[{ accessFlags := 26, nameIndex := 335, descriptorIndex := 336, attributes := #[] }, { accessFlags := 26, nameIndex := 340, descriptorIndex := 51, attributes := #[] }, { accessFlags := 26, nameIndex := 17, descriptorIndex := 14, attributes := #[] }, { accessFlags := 26, nameIndex := 41, descriptorIndex := 14, attributes := #[] }, { accessFlags := 128, nameIndex := 13, descriptorIndex := 14, attributes := #[] }, { accessFlags := 2, nameIndex := 50, descriptorIndex := 51, attributes := #[] }])
  fields := #[{ name := "serialVersionUID", type := .long, accessFlags := 26, slot := 0, constantValue := 0 }, { name := "DEFAULT_CAPACITY", type := .int, accessFlags := 26, slot := 1, constantValue := 0 }, { name := "EMPTY_ELEMENTDATA", type := (.array (.object "java/lang/Object")), accessFlags := 26, slot := 2, constantValue := 0 }, { name := "DEFAULTCAPACITY_EMPTY_ELEMENTDATA", type := (.array (.object "java/lang/Object")), accessFlags := 26, slot := 3, constantValue := 0 }, { name := "elementData", type := (.array (.object "java/lang/Object")), accessFlags := 128, slot := 1, constantValue := 0 }, { name := "size", type := .int, accessFlags := 2, slot := 2, constantValue := 0 }]
  methods := #[k13m0, k13m1, k13m2, k13m3, k13m4, k13m5, k13m6, k13m7]
  instanceTypes := #[.int, (.array (.object "java/lang/Object")), .int]
  staticTypes := #[.long, .int, (.array (.object "java/lang/Object")), (.array (.object "java/lang/Object"))]
  resolved := Array.replicate 509 none
  statics := some 0 }

def pool14 : Array CpInfo := pool [(1, .class_ 2), (0, u "java/lang/Math"), (1, .class_ 6), (1, u "java/lang/Object"), (0, u "<init>"), (0, u "()V"), (89, .class_ 100), (1, u "java/lang/Math$RandomNumberGeneratorHolder"), (71, u "negativeZeroFloatBits"), (0, u "J"), (2, u "negativeZeroDoubleBits"), (21, u "max"), (2, u "min"), (43, u "$assertionsDisabled"), (0, u "Z"), (88, u "(II)I"), (2, u "twoToTheDoubleScaleDown"), (0, u "D"), (4, u "twoToTheDoubleScaleUp"), (9, u "E"), (3, u "PI"), (2, u "TAU"), (2, u "DEGREES_TO_RADIANS"), (0, u "RADIANS_TO_DEGREES")] 94

def k14m0 : Method := { name := "<init>", desc := "()V", sig := { parameters := [], returnType := none }, accessFlags := 2, code := none }
def k14c1 : Code := { maxStack := 2, maxLocals := 2, code := jdk_29_method_65_code, exceptionTable := #[], attributes := #[] }
def k14m1 : Method := { name := "max", desc := "(II)I", sig := { parameters := [.int, .int], returnType := some .int }, accessFlags := 9, code := some k14c1 }
def k14c2 : Code := { maxStack := 2, maxLocals := 2, code := jdk_29_method_69_code, exceptionTable := #[], attributes := #[] }
def k14m2 : Method := { name := "min", desc := "(II)I", sig := { parameters := [.int, .int], returnType := some .int }, accessFlags := 9, code := some k14c2 }
/-- java/lang/Math -/
def k14 : Class := { plain "java/lang/Math" (some 0) with
  accessFlags := 49
  interfaces := #[]
  cf := some (fileOf pool14 1 #[.nestMembers #[98]] #[{ accessFlags := 2, nameIndex := 7, descriptorIndex := 8, attributes := #[] }, { accessFlags := 9, nameIndex := 198, descriptorIndex := 335, attributes := #[] }, { accessFlags := 9, nameIndex := 201, descriptorIndex := 335, attributes := #[] }] 49 4 #[] #[{ accessFlags := 25, nameIndex := 354, descriptorIndex := 339, attributes := #[] }, { accessFlags := 25, nameIndex := 358, descriptorIndex := 339, attributes := #[] }, { accessFlags := 25, nameIndex := 361, descriptorIndex := 339, attributes := #[] }, { accessFlags := 26, nameIndex := 364, descriptorIndex := 339, attributes := #[] }, { accessFlags := 26, nameIndex := 365, descriptorIndex := 339, attributes := #[] }, { accessFlags := 26, nameIndex := 172, descriptorIndex := 173, attributes := #[] }, { accessFlags := 26, nameIndex := 176, descriptorIndex := 173, attributes := #[] }, { accessFlags := 8, nameIndex := 344, descriptorIndex := 339, attributes := #[] }, { accessFlags := 8, nameIndex := 338, descriptorIndex := 339, attributes := #[] }, { accessFlags := 4120, nameIndex := 245, descriptorIndex := 246, attributes := #[] }])
  fields := #[{ name := "E", type := .double, accessFlags := 25, slot := 0, constantValue := 0 }, { name := "PI", type := .double, accessFlags := 25, slot := 1, constantValue := 0 }, { name := "TAU", type := .double, accessFlags := 25, slot := 2, constantValue := 0 }, { name := "DEGREES_TO_RADIANS", type := .double, accessFlags := 26, slot := 3, constantValue := 0 }, { name := "RADIANS_TO_DEGREES", type := .double, accessFlags := 26, slot := 4, constantValue := 0 }, { name := "negativeZeroFloatBits", type := .long, accessFlags := 26, slot := 5, constantValue := 0 }, { name := "negativeZeroDoubleBits", type := .long, accessFlags := 26, slot := 6, constantValue := 0 }, { name := "twoToTheDoubleScaleUp", type := .double, accessFlags := 8, slot := 7, constantValue := 0 }, { name := "twoToTheDoubleScaleDown", type := .double, accessFlags := 8, slot := 8, constantValue := 0 }, { name := "$assertionsDisabled", type := .boolean, accessFlags := 4120, slot := 9, constantValue := 0 }]
  methods := #[k14m0, k14m1, k14m2]
  instanceTypes := #[]
  staticTypes := #[.double, .double, .double, .double, .double, .long, .long, .double, .double, .boolean]
  resolved := Array.replicate 460 none
  statics := none }

def pool15 : Array CpInfo := pool [(1, .methodref 2 3), (0, .class_ 4), (0, .nameAndType 5 6), (0, u "java/lang/Object"), (0, u "<init>"), (0, u "()V"), (1, .class_ 10), (1, u "java/lang/Number"), (2, .class_ 14), (0, u "java/io/Serializable"), (0, u "serialVersionUID"), (0, u "J")] 20

def k15c0 : Code := { maxStack := 1, maxLocals := 1, code := jdk_18_method_1_code, exceptionTable := #[], attributes := #[] }
def k15m0 : Method := { name := "<init>", desc := "()V", sig := { parameters := [], returnType := none }, accessFlags := 1, code := some k15c0 }
/-- java/lang/Number -/
def k15 : Class := { plain "java/lang/Number" (some 0) with
  accessFlags := 1057
  interfaces := #[12]
  cf := some (fileOf pool15 8 #[] #[{ accessFlags := 1, nameIndex := 5, descriptorIndex := 6, attributes := #[] }] 1057 2 #[13] #[{ accessFlags := 26, nameIndex := 15, descriptorIndex := 16, attributes := #[] }])
  fields := #[{ name := "serialVersionUID", type := .long, accessFlags := 26, slot := 0, constantValue := 0 }]
  methods := #[k15m0]
  instanceTypes := #[]
  staticTypes := #[.long]
  resolved := Array.replicate 37 none
  statics := none }

def pool16 : Array CpInfo := pool [(1, .class_ 2), (0, u "java/lang/Comparable"), (0, .class_ 4), (0, u "java/lang/Object")] 7

/-- java/lang/Comparable -/
def k16 : Class := { plain "java/lang/Comparable" (some 0) with
  accessFlags := 1537
  interfaces := #[]
  cf := some (fileOf pool16 1 #[] #[] 1537 3 #[] #[])
  fields := #[]
  methods := #[]
  instanceTypes := #[]
  staticTypes := #[]
  resolved := Array.replicate 12 none
  statics := none }

def pool17 : Array CpInfo := pool [(1, .class_ 2), (0, u "java/lang/constant/Constable"), (0, .class_ 4), (0, u "java/lang/Object")] 6

/-- java/lang/constant/Constable -/
def k17 : Class := { plain "java/lang/constant/Constable" (some 0) with
  accessFlags := 1537
  interfaces := #[]
  cf := some (fileOf pool17 1 #[] #[] 1537 3 #[] #[])
  fields := #[]
  methods := #[]
  instanceTypes := #[]
  staticTypes := #[]
  resolved := Array.replicate 11 none
  statics := none }

def pool18 : Array CpInfo := pool [(1, .class_ 2), (0, u "java/lang/constant/ConstantDesc"), (0, .class_ 4), (0, u "java/lang/Object")] 32

/-- java/lang/constant/ConstantDesc -/
def k18 : Class := { plain "java/lang/constant/ConstantDesc" (some 0) with
  accessFlags := 1537
  interfaces := #[]
  cf := some (fileOf pool18 1 #[] #[] 1537 3 #[] #[])
  fields := #[]
  methods := #[]
  instanceTypes := #[]
  staticTypes := #[]
  resolved := Array.replicate 37 none
  statics := none }

def pool19 : Array CpInfo := pool [(1, .class_ 2), (0, u "java/lang/Double"), (17, u "<init>"), (84, .methodref 1 106), (0, .nameAndType 20 107), (0, u "(D)V"), (5, .methodref 114 115), (0, .class_ 116), (0, .nameAndType 20 117), (0, u "java/lang/Number"), (0, u "()V"), (0, .fieldref 1 119), (0, .nameAndType 120 121), (0, u "value"), (0, u "D"), (51, u "TYPE"), (0, u "Ljava/lang/Class;"), (0, .class_ 176), (0, u "java/lang/Comparable"), (0, .class_ 178), (0, u "java/lang/constant/Constable"), (0, .class_ 180), (0, u "java/lang/constant/ConstantDesc"), (0, u "POSITIVE_INFINITY"), (3, u "NEGATIVE_INFINITY"), (2, u "NaN"), (2, u "MAX_VALUE"), (0, u "MIN_NORMAL"), (0, u "MIN_VALUE"), (2, u "SIZE"), (0, u "I"), (1, u "PRECISION"), (1, u "MAX_EXPONENT"), (1, u "MIN_EXPONENT"), (1, u "BYTES"), (3, u "serialVersionUID"), (0, u "J"), (14, u "valueOf"), (5, u "(D)Ljava/lang/Double;"), (23, u "doubleValue"), (0, u "()D")] 33

def k19c0 : Code := { maxStack := 4, maxLocals := 2, code := jdk_117_method_4_code, exceptionTable := #[], attributes := #[] }
def k19m0 : Method := { name := "valueOf", desc := "(D)Ljava/lang/Double;", sig := { parameters := [.double], returnType := some (.object "java/lang/Double") }, accessFlags := 9, code := some k19c0 }
def k19c1 : Code := { maxStack := 3, maxLocals := 3, code := jdk_117_method_9_code, exceptionTable := #[], attributes := #[] }
def k19m1 : Method := { name := "<init>", desc := "(D)V", sig := { parameters := [.double], returnType := none }, accessFlags := 1, code := some k19c1 }
def k19c2 : Code := { maxStack := 2, maxLocals := 1, code := jdk_117_method_19_code, exceptionTable := #[], attributes := #[] }
def k19m2 : Method := { name := "doubleValue", desc := "()D", sig := { parameters := [], returnType := some .double }, accessFlags := 1, code := some k19c2 }
/-- java/lang/Double -/
def k19 : Class := { plain "java/lang/Double" (some 15) with
  accessFlags := 49
  interfaces := #[16, 17, 18]
  cf := some (fileOf pool19 1 #[] #[{ accessFlags := 9, nameIndex := 225, descriptorIndex := 231, attributes := #[] }, { accessFlags := 1, nameIndex := 20, descriptorIndex := 107, attributes := #[] }, { accessFlags := 1, nameIndex := 255, descriptorIndex := 256, attributes := #[] }] 49 114 #[175, 177, 179] #[{ accessFlags := 25, nameIndex := 181, descriptorIndex := 121, attributes := #[] }, { accessFlags := 25, nameIndex := 185, descriptorIndex := 121, attributes := #[] }, { accessFlags := 25, nameIndex := 188, descriptorIndex := 121, attributes := #[] }, { accessFlags := 25, nameIndex := 191, descriptorIndex := 121, attributes := #[] }, { accessFlags := 25, nameIndex := 192, descriptorIndex := 121, attributes := #[] }, { accessFlags := 25, nameIndex := 193, descriptorIndex := 121, attributes := #[] }, { accessFlags := 25, nameIndex := 196, descriptorIndex := 197, attributes := #[] }, { accessFlags := 25, nameIndex := 199, descriptorIndex := 197, attributes := #[] }, { accessFlags := 25, nameIndex := 201, descriptorIndex := 197, attributes := #[] }, { accessFlags := 25, nameIndex := 203, descriptorIndex := 197, attributes := #[] }, { accessFlags := 25, nameIndex := 205, descriptorIndex := 197, attributes := #[] }, { accessFlags := 25, nameIndex := 173, descriptorIndex := 174, attributes := #[] }, { accessFlags := 18, nameIndex := 120, descriptorIndex := 121, attributes := #[] }, { accessFlags := 26, nameIndex := 209, descriptorIndex := 210, attributes := #[] }])
  fields := #[{ name := "POSITIVE_INFINITY", type := .double, accessFlags := 25, slot := 0, constantValue := 0 }, { name := "NEGATIVE_INFINITY", type := .double, accessFlags := 25, slot := 1, constantValue := 0 }, { name := "NaN", type := .double, accessFlags := 25, slot := 2, constantValue := 0 }, { name := "MAX_VALUE", type := .double, accessFlags := 25, slot := 3, constantValue := 0 }, { name := "MIN_NORMAL", type := .double, accessFlags := 25, slot := 4, constantValue := 0 }, { name := "MIN_VALUE", type := .double, accessFlags := 25, slot := 5, constantValue := 0 }, { name := "SIZE", type := .int, accessFlags := 25, slot := 6, constantValue := 0 }, { name := "PRECISION", type := .int, accessFlags := 25, slot := 7, constantValue := 0 }, { name := "MAX_EXPONENT", type := .int, accessFlags := 25, slot := 8, constantValue := 0 }, { name := "MIN_EXPONENT", type := .int, accessFlags := 25, slot := 9, constantValue := 0 }, { name := "BYTES", type := .int, accessFlags := 25, slot := 10, constantValue := 0 }, { name := "TYPE", type := (.object "java/lang/Class"), accessFlags := 25, slot := 11, constantValue := 0 }, { name := "value", type := .double, accessFlags := 18, slot := 0, constantValue := 0 }, { name := "serialVersionUID", type := .long, accessFlags := 26, slot := 12, constantValue := 0 }]
  methods := #[k19m0, k19m1, k19m2]
  instanceTypes := #[.double]
  staticTypes := #[.double, .double, .double, .double, .double, .double, .int, .int, .int, .int, .int, (.object "java/lang/Class"), .long]
  resolved := Array.replicate 290 none
  statics := none }

def pool20 : Array CpInfo := pool [(1, .methodref 2 3), (0, .class_ 4), (0, .nameAndType 5 6), (0, u "java/lang/Record"), (0, u "<init>"), (0, u "()V"), (0, .interfaceMethodref 8 9), (0, .class_ 10), (0, .nameAndType 11 12), (0, u "java/util/List"), (0, u "size"), (0, u "()I"), (9, .interfaceMethodref 8 23), (0, .nameAndType 24 25), (0, u "copyOf"), (0, u "(Ljava/util/Collection;)Ljava/util/List;"), (0, .fieldref 27 28), (0, .class_ 29), (0, .nameAndType 30 31), (0, u "com/example/feedergen/feedergen/core/DrivenLine"), (0, u "stops"), (0, u "Ljava/util/List;"), (0, .fieldref 27 33), (0, .nameAndType 34 31), (0, u "distances"), (0, .fieldref 27 36), (0, .nameAndType 37 38), (0, u "lengthBackward"), (0, u "D"), (0, .fieldref 27 40), (0, .nameAndType 41 31), (0, u "route"), (0, .interfaceMethodref 8 43), (0, .nameAndType 44 45), (0, u "get"), (0, u "(I)Ljava/lang/Object;"), (0, .class_ 47), (0, u "java/lang/Double"), (0, .methodref 46 49), (0, .nameAndType 50 51), (0, u "doubleValue"), (0, u "()D"), (16, u "(Ljava/util/List;Ljava/util/List;DLjava/util/List;)V"), (5, u "lengthForward")] 37

def k20c0 : Code := { maxStack := 4, maxLocals := 6, code := prog_9_method_1_code, exceptionTable := #[], attributes := #[] }
def k20m0 : Method := { name := "<init>", desc := "(Ljava/util/List;Ljava/util/List;DLjava/util/List;)V", sig := { parameters := [(.object "java/util/List"), (.object "java/util/List"), .double, (.object "java/util/List")], returnType := none }, accessFlags := 1, code := some k20c0 }
def k20c1 : Code := { maxStack := 3, maxLocals := 1, code := prog_9_method_2_code, exceptionTable := #[], attributes := #[] }
def k20m1 : Method := { name := "lengthForward", desc := "()D", sig := { parameters := [], returnType := some .double }, accessFlags := 1, code := some k20c1 }
/-- com/example/feedergen/feedergen/core/DrivenLine -/
def k20 : Class := { plain "com/example/feedergen/feedergen/core/DrivenLine" (some 2) with
  accessFlags := 49
  interfaces := #[]
  cf := some (fileOf pool20 27 #[] #[{ accessFlags := 1, nameIndex := 5, descriptorIndex := 68, attributes := #[] }, { accessFlags := 1, nameIndex := 74, descriptorIndex := 51, attributes := #[] }] 49 2 #[] #[{ accessFlags := 18, nameIndex := 30, descriptorIndex := 31, attributes := #[] }, { accessFlags := 18, nameIndex := 34, descriptorIndex := 31, attributes := #[] }, { accessFlags := 18, nameIndex := 37, descriptorIndex := 38, attributes := #[] }, { accessFlags := 18, nameIndex := 41, descriptorIndex := 31, attributes := #[] }])
  fields := #[{ name := "stops", type := (.object "java/util/List"), accessFlags := 18, slot := 0, constantValue := 0 }, { name := "distances", type := (.object "java/util/List"), accessFlags := 18, slot := 1, constantValue := 0 }, { name := "lengthBackward", type := .double, accessFlags := 18, slot := 2, constantValue := 0 }, { name := "route", type := (.object "java/util/List"), accessFlags := 18, slot := 3, constantValue := 0 }]
  methods := #[k20m0, k20m1]
  instanceTypes := #[(.object "java/util/List"), (.object "java/util/List"), .double, (.object "java/util/List")]
  staticTypes := #[]
  resolved := Array.replicate 112 none
  statics := none }

def pool21 : Array CpInfo := pool [(2, .class_ 4), (1, u "java/lang/Object"), (0, u "<init>"), (0, u "()V"), (3, .class_ 11), (0, u "java/util/ImmutableCollections$List12"), (0, .class_ 13), (0, u "java/util/ImmutableCollections$ListN"), (3, u "Z"), (0, .class_ 19), (0, u "java/util/List"), (0, .interfaceMethodref 21 22), (0, .class_ 23), (0, .nameAndType 24 25), (0, u "java/util/Collection"), (0, u "isEmpty"), (0, u "()Z"), (0, .interfaceMethodref 18 27), (0, .nameAndType 28 29), (0, u "of"), (0, u "()Ljava/util/List;"), (0, .interfaceMethodref 21 31), (0, .nameAndType 32 33), (0, u "toArray"), (0, u "()[Ljava/lang/Object;"), (0, .interfaceMethodref 18 35), (0, .nameAndType 28 36), (0, u "([Ljava/lang/Object;)Ljava/util/List;"), (0, .methodref 38 39), (0, .class_ 40), (0, .nameAndType 41 42), (0, u "java/util/Objects"), (0, u "requireNonNull"), (0, u "(Ljava/lang/Object;)Ljava/lang/Object;"), (0, .methodref 12 44), (0, .nameAndType 5 45), (0, u "([Ljava/lang/Object;Z)V"), (1, .class_ 49), (1, u "java/util/ImmutableCollections"), (0, u "$assertionsDisabled"), (5, u "[Ljava/lang/Object;"), (5, u "EMPTY_LIST"), (0, u "Ljava/util/ImmutableCollections$ListN;"), (8, u "EMPTY_LIST_NULLS"), (22, u "SALT32L"), (0, u "J"), (2, u "REVERSE"), (6, u "archivedObjects"), (2, u "EMPTY"), (0, u "Ljava/lang/Object;"), (0, .class_ 112), (0, u "java/util/ImmutableCollections$SetN"), (5, u "EMPTY_SET"), (0, u "Ljava/util/ImmutableCollections$SetN;"), (0, .class_ 121), (0, u "java/util/ImmutableCollections$MapN"), (3, u "EMPTY_MAP"), (0, u "Ljava/util/ImmutableCollections$MapN;"), (4, u "EXPAND_FACTOR"), (0, u "I"), (9, u "listCopy"), (0, u "(Ljava/util/Collection;)Ljava/util/List;"), (7, u "listFromArray"), (17, .class_ 170), (0, u "java/util/ImmutableCollections$MapN$MapNIterator"), (0, .class_ 172), (0, u "java/util/ImmutableCollections$MapN$1"), (0, .class_ 174), (0, u "java/util/ImmutableCollections$Map1"), (0, .class_ 176), (0, u "java/util/ImmutableCollections$AbstractImmutableMap"), (0, .class_ 178), (0, u "java/util/ImmutableCollections$SetN$SetNIterator"), (0, .class_ 180), (0, u "java/util/ImmutableCollections$Set12"), (0, .class_ 182), (0, u "java/util/ImmutableCollections$Set12$1"), (0, .class_ 184), (0, u "java/util/ImmutableCollections$AbstractImmutableSet"), (0, .class_ 186), (0, u "java/util/ImmutableCollections$SubList"), (0, .class_ 188), (0, u "java/util/ImmutableCollections$ListItr"), (0, .class_ 190), (0, u "java/util/ImmutableCollections$AbstractImmutableList"), (0, .class_ 192), (0, u "java/util/ImmutableCollections$AbstractImmutableCollection"), (0, .class_ 194), (0, u "java/util/ImmutableCollections$Access"), (0, .class_ 196), (0, u "java/util/ImmutableCollections$Access$1")] 16

def k21m0 : Method := { name := "<init>", desc := "()V", sig := { parameters := [], returnType := none }, accessFlags := 2, code := none }
def k21c1 : Code := { maxStack := 1, maxLocals := 2, code := jdk_56_method_3_code, exceptionTable := #[], attributes := #[] }
def k21m1 : Method := { name := "listCopy", desc := "(Ljava/util/Collection;)Ljava/util/List;", sig := { parameters := [(.object "java/util/Collection")], returnType := some (.object "java/util/List") }, accessFlags := 8, code := some k21c1 }
def k21c2 : Code := { maxStack := 4, maxLocals := 3, code := jdk_56_method_4_code, exceptionTable := #[], attributes := #[] }
def k21m2 : Method := { name := "listFromArray", desc := "([Ljava/lang/Object;)Ljava/util/List;", sig := { parameters := [(.array (.object "java/lang/Object"))], returnType := some (.object "java/util/List") }, accessFlags := 136, code := some k21c2 }
/-- java/util/ImmutableCollections -/
def k21 : Class := { plain "java/util/ImmutableCollections" (some 0) with
  accessFlags := 32
  interfaces := #[]
  cf := some (fileOf pool21 47 #[.nestMembers #[120, 169, 171, 173, 175, 111, 177, 179, 181, 183, 12, 10, 185, 187, 189, 191, 193, 195]] #[{ accessFlags := 2, nameIndex := 5, descriptorIndex := 6, attributes := #[] }, { accessFlags := 8, nameIndex := 142, descriptorIndex := 143, attributes := #[] }, { accessFlags := 136, nameIndex := 151, descriptorIndex := 36, attributes := #[] }] 32 2 #[] #[{ accessFlags := 26, nameIndex := 95, descriptorIndex := 96, attributes := #[] }, { accessFlags := 26, nameIndex := 99, descriptorIndex := 17, attributes := #[] }, { accessFlags := 10, nameIndex := 106, descriptorIndex := 56, attributes := #[] }, { accessFlags := 26, nameIndex := 109, descriptorIndex := 110, attributes := #[] }, { accessFlags := 24, nameIndex := 62, descriptorIndex := 63, attributes := #[] }, { accessFlags := 24, nameIndex := 72, descriptorIndex := 63, attributes := #[] }, { accessFlags := 24, nameIndex := 118, descriptorIndex := 119, attributes := #[] }, { accessFlags := 24, nameIndex := 125, descriptorIndex := 126, attributes := #[] }, { accessFlags := 24, nameIndex := 131, descriptorIndex := 132, attributes := #[] }, { accessFlags := 4120, nameIndex := 50, descriptorIndex := 17, attributes := #[] }])
  fields := #[{ name := "SALT32L", type := .long, accessFlags := 26, slot := 0, constantValue := 0 }, { name := "REVERSE", type := .boolean, accessFlags := 26, slot := 1, constantValue := 0 }, { name := "archivedObjects", type := (.array (.object "java/lang/Object")), accessFlags := 10, slot := 2, constantValue := 0 }, { name := "EMPTY", type := (.object "java/lang/Object"), accessFlags := 26, slot := 3, constantValue := 0 }, { name := "EMPTY_LIST", type := (.object "java/util/ImmutableCollections$ListN"), accessFlags := 24, slot := 4, constantValue := 0 }, { name := "EMPTY_LIST_NULLS", type := (.object "java/util/ImmutableCollections$ListN"), accessFlags := 24, slot := 5, constantValue := 0 }, { name := "EMPTY_SET", type := (.object "java/util/ImmutableCollections$SetN"), accessFlags := 24, slot := 6, constantValue := 0 }, { name := "EMPTY_MAP", type := (.object "java/util/ImmutableCollections$MapN"), accessFlags := 24, slot := 7, constantValue := 0 }, { name := "EXPAND_FACTOR", type := .int, accessFlags := 24, slot := 8, constantValue := 0 }, { name := "$assertionsDisabled", type := .boolean, accessFlags := 4120, slot := 9, constantValue := 0 }]
  methods := #[k21m0, k21m1, k21m2]
  instanceTypes := #[]
  staticTypes := #[.long, .boolean, (.array (.object "java/lang/Object")), (.object "java/lang/Object"), (.object "java/util/ImmutableCollections$ListN"), (.object "java/util/ImmutableCollections$ListN"), (.object "java/util/ImmutableCollections$SetN"), (.object "java/util/ImmutableCollections$MapN"), .int, .boolean]
  resolved := Array.replicate 213 none
  statics := some 1 }

def pool22 : Array CpInfo := pool [(1, .methodref 2 3), (0, .class_ 4), (0, .nameAndType 5 6), (0, u "java/util/AbstractCollection"), (0, u "<init>"), (0, u "()V"), (1, .class_ 10), (1, u "java/util/ImmutableCollections"), (2, .class_ 14), (0, u "java/util/ImmutableCollections$AbstractImmutableCollection")] 41

def k22c0 : Code := { maxStack := 1, maxLocals := 1, code := jdk_47_method_1_code, exceptionTable := #[], attributes := #[] }
def k22m0 : Method := { name := "<init>", desc := "()V", sig := { parameters := [], returnType := none }, accessFlags := 0, code := some k22c0 }
/-- java/util/ImmutableCollections$AbstractImmutableCollection -/
def k22 : Class := { plain "java/util/ImmutableCollections$AbstractImmutableCollection" (some 6) with
  accessFlags := 1056
  interfaces := #[]
  cf := some (fileOf pool22 13 #[.nestHost 8] #[{ accessFlags := 0, nameIndex := 5, descriptorIndex := 6, attributes := #[] }] 1056 2 #[] #[])
  fields := #[]
  methods := #[k22m0]
  instanceTypes := #[]
  staticTypes := #[]
  resolved := Array.replicate 56 none
  statics := none }

def pool23 : Array CpInfo := pool [(1, .methodref 2 3), (0, .class_ 4), (0, .nameAndType 5 6), (0, u "java/util/ImmutableCollections$AbstractImmutableCollection"), (0, u "<init>"), (0, u "()V"), (1, .class_ 10), (1, u "java/util/ImmutableCollections"), (3, .class_ 16), (1, u "java/util/ImmutableCollections$AbstractImmutableList"), (60, .class_ 78), (0, u "java/util/List"), (45, .class_ 125), (0, u "java/util/RandomAccess")] 70

def k23c0 : Code := { maxStack := 1, maxLocals := 1, code := jdk_46_method_1_code, exceptionTable := #[], attributes := #[] }
def k23m0 : Method := { name := "<init>", desc := "()V", sig := { parameters := [], returnType := none }, accessFlags := 0, code := some k23c0 }
/-- java/util/ImmutableCollections$AbstractImmutableList -/
def k23 : Class := { plain "java/util/ImmutableCollections$AbstractImmutableList" (some 22) with
  accessFlags := 1056
  interfaces := #[8, 10]
  cf := some (fileOf pool23 14 #[.nestHost 8] #[{ accessFlags := 0, nameIndex := 5, descriptorIndex := 6, attributes := #[] }] 1056 2 #[77, 124] #[])
  fields := #[]
  methods := #[k23m0]
  instanceTypes := #[]
  staticTypes := #[]
  resolved := Array.replicate 196 none
  statics := none }

def pool24 : Array CpInfo := pool [(1, .methodref 2 3), (0, .class_ 4), (0, .nameAndType 5 6), (0, u "java/util/ImmutableCollections$AbstractImmutableList"), (0, u "<init>"), (0, u "()V"), (0, .methodref 8 9), (0, .class_ 10), (0, .nameAndType 11 12), (0, u "java/util/Objects"), (0, u "requireNonNull"), (0, u "(Ljava/lang/Object;)Ljava/lang/Object;"), (0, .fieldref 14 15), (0, .class_ 16), (0, .nameAndType 17 18), (0, u "java/util/ImmutableCollections$List12"), (0, u "e0"), (0, u "Ljava/lang/Object;"), (0, .fieldref 20 21), (0, .class_ 22), (0, .nameAndType 23 18), (0, u "java/util/ImmutableCollections"), (0, u "EMPTY"), (0, .fieldref 14 25), (0, .nameAndType 26 18), (0, u "e1"), (24, u "size"), (0, u "()I"), (17, .class_ 71), (0, u "java/io/Serializable"), (13, u "(Ljava/lang/Object;Ljava/lang/Object;)V"), (4, u "get"), (0, u "(I)Ljava/lang/Object;")] 33

def k24c0 : Code := { maxStack := 2, maxLocals := 3, code := jdk_44_method_2_code, exceptionTable := #[], attributes := #[] }
def k24m0 : Method := { name := "<init>", desc := "(Ljava/lang/Object;Ljava/lang/Object;)V", sig := { parameters := [(.object "java/lang/Object"), (.object "java/lang/Object")], returnType := none }, accessFlags := 0, code := some k24c0 }
def k24c1 : Code := { maxStack := 2, maxLocals := 1, code := jdk_44_method_3_code, exceptionTable := #[], attributes := #[] }
def k24m1 : Method := { name := "size", desc := "()I", sig := { parameters := [], returnType := some .int }, accessFlags := 1, code := some k24c1 }
def k24c2 : Code := { maxStack := 2, maxLocals := 2, code := jdk_44_method_5_code, exceptionTable := #[], attributes := #[] }
def k24m2 : Method := { name := "get", desc := "(I)Ljava/lang/Object;", sig := { parameters := [.int], returnType := some (.object "java/lang/Object") }, accessFlags := 1, code := some k24c2 }
/-- java/util/ImmutableCollections$List12 -/
def k24 : Class := { plain "java/util/ImmutableCollections$List12" (some 23) with
  accessFlags := 48
  interfaces := #[12]
  cf := some (fileOf pool24 14 #[.nestHost 20] #[{ accessFlags := 0, nameIndex := 5, descriptorIndex := 85, attributes := #[] }, { accessFlags := 1, nameIndex := 51, descriptorIndex := 52, attributes := #[] }, { accessFlags := 1, nameIndex := 90, descriptorIndex := 91, attributes := #[] }] 48 2 #[70] #[{ accessFlags := 18, nameIndex := 17, descriptorIndex := 18, attributes := #[] }, { accessFlags := 18, nameIndex := 26, descriptorIndex := 18, attributes := #[] }])
  fields := #[{ name := "e0", type := (.object "java/lang/Object"), accessFlags := 18, slot := 0, constantValue := 0 }, { name := "e1", type := (.object "java/lang/Object"), accessFlags := 18, slot := 1, constantValue := 0 }]
  methods := #[k24m0, k24m1, k24m2]
  instanceTypes := #[(.object "java/lang/Object"), (.object "java/lang/Object")]
  staticTypes := #[]
  resolved := Array.replicate 125 none
  statics := none }

def pool25 : Array CpInfo := pool [(1, .methodref 2 3), (0, .class_ 4), (0, .nameAndType 5 6), (0, u "java/util/ImmutableCollections$AbstractImmutableList"), (0, u "<init>"), (0, u "()V"), (0, .fieldref 8 9), (0, .class_ 10), (0, .nameAndType 11 12), (0, u "java/util/ImmutableCollections$ListN"), (0, u "elements"), (0, u "[Ljava/lang/Object;"), (0, .fieldref 8 14), (0, .nameAndType 15 16), (0, u "allowNulls"), (0, u "Z"), (42, .class_ 60), (0, u "java/io/Serializable"), (4, u "([Ljava/lang/Object;Z)V"), (11, u "size"), (0, u "()I"), (0, u "get"), (0, u "(I)Ljava/lang/Object;"), (33, .class_ 115), (0, u "java/util/ImmutableCollections")] 3

def k25c0 : Code := { maxStack := 2, maxLocals := 3, code := jdk_45_method_1_code, exceptionTable := #[], attributes := #[] }
def k25m0 : Method := { name := "<init>", desc := "([Ljava/lang/Object;Z)V", sig := { parameters := [(.array (.object "java/lang/Object")), .boolean], returnType := none }, accessFlags := 2, code := some k25c0 }
def k25c1 : Code := { maxStack := 1, maxLocals := 1, code := jdk_45_method_3_code, exceptionTable := #[], attributes := #[] }
def k25m1 : Method := { name := "size", desc := "()I", sig := { parameters := [], returnType := some .int }, accessFlags := 1, code := some k25c1 }
def k25c2 : Code := { maxStack := 2, maxLocals := 2, code := jdk_45_method_4_code, exceptionTable := #[], attributes := #[] }
def k25m2 : Method := { name := "get", desc := "(I)Ljava/lang/Object;", sig := { parameters := [.int], returnType := some (.object "java/lang/Object") }, accessFlags := 1, code := some k25c2 }
/-- java/util/ImmutableCollections$ListN -/
def k25 : Class := { plain "java/util/ImmutableCollections$ListN" (some 23) with
  accessFlags := 48
  interfaces := #[12]
  cf := some (fileOf pool25 8 #[.nestHost 114] #[{ accessFlags := 2, nameIndex := 5, descriptorIndex := 65, attributes := #[] }, { accessFlags := 1, nameIndex := 77, descriptorIndex := 78, attributes := #[] }, { accessFlags := 1, nameIndex := 79, descriptorIndex := 80, attributes := #[] }] 48 2 #[59] #[{ accessFlags := 18, nameIndex := 11, descriptorIndex := 12, attributes := #[] }, { accessFlags := 18, nameIndex := 15, descriptorIndex := 16, attributes := #[] }])
  fields := #[{ name := "elements", type := (.array (.object "java/lang/Object")), accessFlags := 18, slot := 0, constantValue := 0 }, { name := "allowNulls", type := .boolean, accessFlags := 18, slot := 1, constantValue := 0 }]
  methods := #[k25m0, k25m1, k25m2]
  instanceTypes := #[(.array (.object "java/lang/Object")), .boolean]
  staticTypes := #[]
  resolved := Array.replicate 119 none
  statics := none }

def pool26 : Array CpInfo := pool [(2, .class_ 4), (1, u "java/lang/Object"), (0, u "<init>"), (0, u "()V"), (7, .class_ 16), (1, u "java/util/Arrays"), (57, .class_ 76), (1, u "java/util/Arrays$NaturalOrder"), (9, .methodref 2 87), (0, .nameAndType 88 89), (0, u "getClass"), (0, u "()Ljava/lang/Class;"), (20, .class_ 111), (0, u "[Ljava/lang/Object;"), (1, .class_ 115), (1, u "java/util/Arrays$LegacyMergeSort"), (1, u "Z"), (32, .methodref 151 152), (0, .class_ 153), (0, .nameAndType 154 155), (0, u "java/lang/System"), (0, u "arraycopy"), (0, u "(Ljava/lang/Object;ILjava/lang/Object;II)V"), (144, .methodref 14 301), (0, .nameAndType 302 303), (0, u "copyOf"), (0, u "([Ljava/lang/Object;ILjava/lang/Class;)[Ljava/lang/Object;"), (0, .methodref 305 306), (0, .class_ 307), (0, .nameAndType 308 309), (0, u "java/lang/Math"), (0, u "min"), (0, u "(II)I"), (65, .class_ 376), (0, u "java/util/Arrays$ArrayList"), (68, u "$assertionsDisabled"), (269, u "MIN_ARRAY_SORT_GRAN"), (0, u "I"), (2, u "INSERTIONSORT_THRESHOLD"), (140, u "([Ljava/lang/Object;I)[Ljava/lang/Object;"), (114, .class_ 976), (0, u "java/util/Arrays$ArrayItr")] 52

def k26m0 : Method := { name := "<init>", desc := "()V", sig := { parameters := [], returnType := none }, accessFlags := 2, code := none }
def k26c1 : Code := { maxStack := 3, maxLocals := 2, code := jdk_65_method_119_code, exceptionTable := #[], attributes := #[] }
def k26m1 : Method := { name := "copyOf", desc := "([Ljava/lang/Object;I)[Ljava/lang/Object;", sig := { parameters := [(.array (.object "java/lang/Object")), .int], returnType := some (.array (.object "java/lang/Object")) }, accessFlags := 9, code := some k26c1 }
def k26c2 : Code := { maxStack := 6, maxLocals := 4, code := jdk_65_method_120_code, exceptionTable := #[], attributes := #[] }
def k26m2 : Method := { name := "copyOf", desc := "([Ljava/lang/Object;ILjava/lang/Class;)[Ljava/lang/Object;", sig := { parameters := [(.array (.object "java/lang/Object")), .int, (.object "java/lang/Class")], returnType := some (.array (.object "java/lang/Object")) }, accessFlags := 9, code := some k26c2 }
/-- java/util/Arrays -/
def k26 : Class := { plain "java/util/Arrays" (some 0) with
  accessFlags := 49
  interfaces := #[]
  cf := some (fileOf pool26 14 #[.nestMembers #[975, 375, 113, 74]] #[{ accessFlags := 2, nameIndex := 5, descriptorIndex := 6, attributes := #[] }, { accessFlags := 9, nameIndex := 302, descriptorIndex := 860, attributes := #[] }, { accessFlags := 9, nameIndex := 302, descriptorIndex := 303, attributes := #[] }] 49 2 #[] #[{ accessFlags := 26, nameIndex := 715, descriptorIndex := 716, attributes := #[] }, { accessFlags := 26, nameIndex := 719, descriptorIndex := 716, attributes := #[] }, { accessFlags := 4120, nameIndex := 445, descriptorIndex := 117, attributes := #[] }])
  fields := #[{ name := "MIN_ARRAY_SORT_GRAN", type := .int, accessFlags := 26, slot := 0, constantValue := 0 }, { name := "INSERTIONSORT_THRESHOLD", type := .int, accessFlags := 26, slot := 1, constantValue := 0 }, { name := "$assertionsDisabled", type := .boolean, accessFlags := 4120, slot := 2, constantValue := 0 }]
  methods := #[k26m0, k26m1, k26m2]
  instanceTypes := #[]
  staticTypes := #[.int, .int, .boolean]
  resolved := Array.replicate 1029 none
  statics := none }

def pool27 : Array CpInfo := pool [(2, .class_ 4), (1, u "java/lang/Object"), (0, u "<init>"), (0, u "()V"), (1, .class_ 10), (1, u "java/lang/System"), (0, u "allowSecurityManager"), (0, u "I"), (16, u "cons"), (0, u "Ljava/io/Console;"), (77, .class_ 110), (1, u "java/lang/System$CallersHolder"), (43, u "initialErrStream"), (0, u "Ljava/io/PrintStream;"), (19, u "security"), (0, u "Ljava/lang/SecurityManager;"), (31, .class_ 209), (0, u "java/lang/System$1"), (7, u "props"), (0, u "Ljava/util/Properties;"), (2, u "lineSeparator"), (0, u "Ljava/lang/String;"), (96, .class_ 321), (1, u "java/lang/System$LoggerFinder"), (5, .class_ 328), (0, u "java/lang/System$Logger"), (67, u "err"), (2, u "out"), (91, u "notSupportedJnuEncoding"), (15, u "in"), (17, u "initialIn"), (0, u "Ljava/io/InputStream;"), (35, u "bootLayer"), (0, u "Ljava/lang/ModuleLayer;"), (99, .class_ 664), (0, u "java/lang/System$2"), (9, u "NEVER"), (2, u "MAYBE"), (49, u "arraycopy"), (0, u "(Ljava/lang/Object;ILjava/lang/Object;II)V"), (72, .class_ 802), (0, u "java/lang/System$Logger$Level")] 31

def k27m0 : Method := { name := "<init>", desc := "()V", sig := { parameters := [], returnType := none }, accessFlags := 2, code := none }
def k27m1 : Method := { name := "arraycopy", desc := "(Ljava/lang/Object;ILjava/lang/Object;II)V", sig := { parameters := [(.object "java/lang/Object"), .int, (.object "java/lang/Object"), .int, .int], returnType := none }, accessFlags := 265, code := none }
/-- java/lang/System -/
def k27 : Class := { plain "java/lang/System" (some 0) with
  accessFlags := 49
  interfaces := #[]
  cf := some (fileOf pool27 8 #[.nestMembers #[319, 327, 801, 108, 663, 208]] #[{ accessFlags := 2, nameIndex := 5, descriptorIndex := 6, attributes := #[] }, { accessFlags := 265, nameIndex := 727, descriptorIndex := 728, attributes := #[] }] 49 2 #[] #[{ accessFlags := 25, nameIndex := 507, descriptorIndex := 526, attributes := #[] }, { accessFlags := 25, nameIndex := 399, descriptorIndex := 155, attributes := #[] }, { accessFlags := 25, nameIndex := 396, descriptorIndex := 155, attributes := #[] }, { accessFlags := 10, nameIndex := 525, descriptorIndex := 526, attributes := #[] }, { accessFlags := 26, nameIndex := 674, descriptorIndex := 12, attributes := #[] }, { accessFlags := 26, nameIndex := 677, descriptorIndex := 12, attributes := #[] }, { accessFlags := 10, nameIndex := 11, descriptorIndex := 12, attributes := #[] }, { accessFlags := 74, nameIndex := 175, descriptorIndex := 176, attributes := #[] }, { accessFlags := 10, nameIndex := 491, descriptorIndex := 222, attributes := #[] }, { accessFlags := 74, nameIndex := 29, descriptorIndex := 30, attributes := #[] }, { accessFlags := 74, nameIndex := 154, descriptorIndex := 155, attributes := #[] }, { accessFlags := 10, nameIndex := 217, descriptorIndex := 218, attributes := #[] }, { accessFlags := 10, nameIndex := 221, descriptorIndex := 222, attributes := #[] }, { accessFlags := 8, nameIndex := 562, descriptorIndex := 563, attributes := #[] }])
  fields := #[{ name := "in", type := (.object "java/io/InputStream"), accessFlags := 25, slot := 0, constantValue := 0 }, { name := "out", type := (.object "java/io/PrintStream"), accessFlags := 25, slot := 1, constantValue := 0 }, { name := "err", type := (.object "java/io/PrintStream"), accessFlags := 25, slot := 2, constantValue := 0 }, { name := "initialIn", type := (.object "java/io/InputStream"), accessFlags := 10, slot := 3, constantValue := 0 }, { name := "NEVER", type := .int, accessFlags := 26, slot := 4, constantValue := 0 }, { name := "MAYBE", type := .int, accessFlags := 26, slot := 5, constantValue := 0 }, { name := "allowSecurityManager", type := .int, accessFlags := 10, slot := 6, constantValue := 0 }, { name := "security", type := (.object "java/lang/SecurityManager"), accessFlags := 74, slot := 7, constantValue := 0 }, { name := "notSupportedJnuEncoding", type := (.object "java/lang/String"), accessFlags := 10, slot := 8, constantValue := 0 }, { name := "cons", type := (.object "java/io/Console"), accessFlags := 74, slot := 9, constantValue := 0 }, { name := "initialErrStream", type := (.object "java/io/PrintStream"), accessFlags := 74, slot := 10, constantValue := 0 }, { name := "props", type := (.object "java/util/Properties"), accessFlags := 10, slot := 11, constantValue := 0 }, { name := "lineSeparator", type := (.object "java/lang/String"), accessFlags := 10, slot := 12, constantValue := 0 }, { name := "bootLayer", type := (.object "java/lang/ModuleLayer"), accessFlags := 8, slot := 13, constantValue := 0 }]
  methods := #[k27m0, k27m1]
  instanceTypes := #[]
  staticTypes := #[(.object "java/io/InputStream"), (.object "java/io/PrintStream"), (.object "java/io/PrintStream"), (.object "java/io/InputStream"), .int, .int, .int, (.object "java/lang/SecurityManager"), (.object "java/lang/String"), (.object "java/io/Console"), (.object "java/io/PrintStream"), (.object "java/util/Properties"), (.object "java/lang/String"), (.object "java/lang/ModuleLayer")]
  resolved := Array.replicate 834 none
  statics := none }

def pool28 : Array CpInfo := pool [(2, .class_ 4), (1, u "java/lang/Object"), (0, u "<init>"), (0, u "()V"), (35, .class_ 44), (1, u "java/util/Objects"), (0, u "requireNonNull"), (0, u "(Ljava/lang/Object;)Ljava/lang/Object;")] 137

def k28m0 : Method := { name := "<init>", desc := "()V", sig := { parameters := [], returnType := none }, accessFlags := 2, code := none }
def k28c1 : Code := { maxStack := 2, maxLocals := 1, code := jdk_31_method_10_code, exceptionTable := #[], attributes := #[] }
def k28m1 : Method := { name := "requireNonNull", desc := "(Ljava/lang/Object;)Ljava/lang/Object;", sig := { parameters := [(.object "java/lang/Object")], returnType := some (.object "java/lang/Object") }, accessFlags := 9, code := some k28c1 }
/-- java/util/Objects -/
def k28 : Class := { plain "java/util/Objects" (some 0) with
  accessFlags := 49
  interfaces := #[]
  cf := some (fileOf pool28 42 #[] #[{ accessFlags := 2, nameIndex := 5, descriptorIndex := 6, attributes := #[] }, { accessFlags := 9, nameIndex := 45, descriptorIndex := 46, attributes := #[] }] 49 2 #[] #[])
  fields := #[]
  methods := #[k28m0, k28m1]
  instanceTypes := #[]
  staticTypes := #[]
  resolved := Array.replicate 184 none
  statics := none }

def pool29 : Array CpInfo := pool [(1, .class_ 2), (0, u "java/lang/Class"), (0, .class_ 4), (0, u "java/lang/Object")] 0

/-- java/lang/Class -/
def k29 : Class := { plain "java/lang/Class" (some 0) with
  accessFlags := 49
  interfaces := #[]
  cf := some (fileOf pool29 1 #[] #[] 49 3 #[] #[])
  fields := #[]
  methods := #[]
  instanceTypes := #[]
  staticTypes := #[]
  resolved := Array.replicate 5 none
  statics := none }

/-- the primitive byte -/
def k30 : Class := { plain "byte" none with kind := .primitive 'B', accessFlags := 0x411 }
/-- [B -/
def k31 : Class := { plain "[B" (some 0) with kind := .array 30 .byte, interfaces := #[11, 12], accessFlags := 1041 }

/-- the primitive int -/
def k32 : Class := { plain "int" none with kind := .primitive 'I', accessFlags := 0x411 }
/-- [I -/
def k33 : Class := { plain "[I" (some 0) with kind := .array 32 .int, interfaces := #[11, 12], accessFlags := 1041 }

/-- [Ljava/lang/Object; -/
def k34 : Class := { plain "[Ljava/lang/Object;" (some 0) with kind := .array 0 (.object "java/lang/Object"), interfaces := #[11, 12], accessFlags := 1041, mirror := some 2 }

def heap : Heap := #[{ cls := 13, slots := #[.long 0, .int 0, .ref 3, .ref 4], vm := .statics 13 },
  { cls := 21, slots := #[.long 0, .int 0, .null, .ref 6, .ref 5, .null, .null, .null, .int 0, .int 1], vm := .statics 21 },
  { cls := 29, slots := #[], vm := .mirror 34 },
  { cls := 34, slots := #[], vm := .none },
  { cls := 34, slots := #[], vm := .none },
  { cls := 25, slots := #[.ref 3, .int 0], vm := .none },
  { cls := 0, slots := #[], vm := .none }]
def classes : Array Class := #[k0, k1, k2, k3, k4, k5, k6, k7, k8, k9, k10, k11, k12, k13, k14, k15, k16, k17, k18, k19, k20, k21, k22, k23, k24, k25, k26, k27, k28, k29, k30, k31, k32, k33, k34]
def interned : List (Array UInt16 × Addr) := []
def slotsUsed : Nat := 16
def theMethod : MethodId := ⟨1, 1⟩
def args0 : Array Value := #[.int 5, .int 6, .int 7, .int 8, .int 9, .int 4]
def aboutOver (below : List Frame) : State where
  vm := { classes := classes, interned := interned.toArray }
  heap := heap
  slotsUsed := slotsUsed
  threads := #[{ frames := .invoking theMethod args0 :: below }]
def below0 : List Frame := [.native { method := ⟨0, 0⟩, args := #[] }]
def about1 : State := aboutOver below0
def p0 : Program := .bare "" "" ""
def e0 : Env := launch0.env 0 0 0
theorem w_frames : about1.frames = Frame.invoking theMethod args0 :: below0 := rfl
set_option maxRecDepth 65536 in
theorem w_args : argsFit about1.vm theMethod args0 = true := by decide +kernel
set_option maxRecDepth 65536 in
theorem w_heap : heapFits about1 = true := by decide +kernel
set_option maxRecDepth 65536 in
theorem w_runnable : about1.curStatus? = some .runnable := by decide +kernel
set_option maxRecDepth 65536 in
theorem w_alone : about1.alone = true := by decide +kernel
set_option maxRecDepth 65536 in
theorem w_named : about1.methodNamed? x = some theMethod := by decide +kernel
set_option maxRecDepth 65536 in
theorem w_hears : about1.hears theMethod below0 = true := by decide +kernel
set_option maxRecDepth 65536 in
theorem w_ripe : about1.ripe theMethod args0 below0 = true := by decide +kernel
theorem w_running : about1.status = .running := rfl
set_option maxRecDepth 65536 in
theorem w_room : about1.hasRoom e0.platform room_1 = true :=
  launch0.hasRoom_least _ room_1 (by decide +kernel) (by decide +kernel) (by decide +kernel) (by decide +kernel) (by decide +kernel) (by decide +kernel)
theorem allAtoms_all (ts : List Jvm.Cond) (a : Array Jvm.Value) (st : Jvm.State) : (allAtoms ts).before a st = ts.all (fun c => c.before a st) := by
  induction ts with
  | nil => rfl
  | cons c t ih =>
    show (Jvm.Cond.and c (allAtoms t)).before a st = _
    rw [Jvm.Cond.before_and, ih, List.all_cons]
def words1 : List Jvm.Cond := Jvm.Cond.code x code maxLocals ret :: tables_1
/-- a 'code' word, met by the world's own term for the bytes: nothing is compared byte by byte -/
theorem code_word {y : MethodName} {bytes : ByteArray} {mx : Nat} {rt : Option FieldType} {a : Array Value} {s : State} {m : MethodId} {meth : Method} {c : Code} (h1 : s.methodNamed? y = some m) (h2 : s.vm.method? m = some meth) (h3 : meth.code = some c) (h4 : c.code = bytes)
    (h5 : (c.maxLocals == mx && c.exceptionTable.isEmpty && decide (c.maxStack ≤ mostOperands) && decide (meth.sig.returnType = rt) && !meth.locks && decide (parseMethodDescriptor y.desc = some meth.sig)) = true) : (Jvm.Cond.code y bytes mx rt).before a s = true := by
  simp only [Bool.and_eq_true, beq_iff_eq, Bool.not_eq_true', decide_eq_true_eq] at h5
  obtain ⟨⟨⟨⟨⟨g1, g2⟩, g3⟩, g4⟩, g5⟩, g6⟩ := h5
  simp [Cond.before, Cond.holds, Cond.value, h1, h2, h3, h4, g1, g2, g3, g4, g5, g6]
def isCode : Jvm.Cond → Bool
  | .code _ _ _ _ => true
  | _ => false
theorem all_split {L : List Jvm.Cond} {P : Jvm.Cond → Bool} (h1 : L.all (fun c => isCode c || P c) = true) (h2 : ∀ c ∈ L.filter isCode, P c = true) : L.all P = true := by
  refine List.all_eq_true.mpr fun c hc => ?_
  have h := List.all_eq_true.mp h1 c hc
  rcases Bool.eq_false_or_eq_true (isCode c) with hi | hi
  · exact h2 c (List.mem_filter.mpr ⟨hc, hi⟩)
  · simpa [hi] using h
set_option maxRecDepth 65536 in
theorem w_c0 : (Jvm.Cond.code x code maxLocals ret).before args0 about1 = true := code_word (m := ⟨1, 1⟩) (meth := k1m1) (c := k1c1) (by decide +kernel) rfl rfl rfl (by decide +kernel)
set_option maxRecDepth 65536 in
theorem w_c1 : (Jvm.Cond.code ({ cls := "com/example/feedergen/feedergen/core/StopCandidate", name := "<init>", desc := "(ILcom/example/feedergen/feedergen/core/StreetLink;D)V" } : Jvm.MethodName) prog_27_method_1_code (5 : Nat) (Option.none : Option Jvm.ClassFile.FieldType)).before args0 about1 = true := code_word (m := ⟨3, 0⟩) (meth := k3m0) (c := k3c0) (by decide +kernel) rfl rfl rfl (by decide +kernel)
set_option maxRecDepth 65536 in
theorem w_c2 : (Jvm.Cond.code ({ cls := "java/lang/Record", name := "<init>", desc := "()V" } : Jvm.MethodName) jdk_30_method_1_code (1 : Nat) (Option.none : Option Jvm.ClassFile.FieldType)).before args0 about1 = true := code_word (m := ⟨2, 0⟩) (meth := k2m0) (c := k2c0) (by decide +kernel) rfl rfl rfl (by decide +kernel)
set_option maxRecDepth 65536 in
theorem w_c3 : (Jvm.Cond.code ({ cls := "java/lang/Object", name := "<init>", desc := "()V" } : Jvm.MethodName) object_method_1_code (1 : Nat) (Option.none : Option Jvm.ClassFile.FieldType)).before args0 about1 = true := code_word (m := ⟨0, 0⟩) (meth := k0m0) (c := k0c0) (by decide +kernel) rfl rfl rfl (by decide +kernel)
set_option maxRecDepth 65536 in
theorem w_c4 : (Jvm.Cond.code ({ cls := "java/util/ArrayList", name := "<init>", desc := "()V" } : Jvm.MethodName) jdk_38_method_2_code (1 : Nat) (Option.none : Option Jvm.ClassFile.FieldType)).before args0 about1 = true := code_word (m := ⟨13, 0⟩) (meth := k13m0) (c := k13c0) (by decide +kernel) rfl rfl rfl (by decide +kernel)
set_option maxRecDepth 65536 in
theorem w_c5 : (Jvm.Cond.code ({ cls := "java/util/AbstractList", name := "<init>", desc := "()V" } : Jvm.MethodName) jdk_39_method_1_code (1 : Nat) (Option.none : Option Jvm.ClassFile.FieldType)).before args0 about1 = true := code_word (m := ⟨9, 0⟩) (meth := k9m0) (c := k9c0) (by decide +kernel) rfl rfl rfl (by decide +kernel)
set_option maxRecDepth 65536 in
theorem w_c6 : (Jvm.Cond.code ({ cls := "java/util/AbstractCollection", name := "<init>", desc := "()V" } : Jvm.MethodName) jdk_22_method_1_code (1 : Nat) (Option.none : Option Jvm.ClassFile.FieldType)).before args0 about1 = true := code_word (m := ⟨6, 0⟩) (meth := k6m0) (c := k6c0) (by decide +kernel) rfl rfl rfl (by decide +kernel)
set_option maxRecDepth 65536 in
theorem w_c7 : (Jvm.Cond.code ({ cls := "java/util/ArrayList", name := "add", desc := "(Ljava/lang/Object;)Z" } : Jvm.MethodName) jdk_38_method_25_code (2 : Nat) (Option.some Jvm.ClassFile.FieldType.boolean)).before args0 about1 = true := code_word (m := ⟨13, 7⟩) (meth := k13m7) (c := k13c7) (by decide +kernel) rfl rfl rfl (by decide +kernel)
set_option maxRecDepth 65536 in
theorem w_c8 : (Jvm.Cond.code ({ cls := "java/util/ArrayList", name := "add", desc := "(Ljava/lang/Object;[Ljava/lang/Object;I)V" } : Jvm.MethodName) jdk_38_method_24_code (4 : Nat) (Option.none : Option Jvm.ClassFile.FieldType)).before args0 about1 = true := code_word (m := ⟨13, 6⟩) (meth := k13m6) (c := k13c6) (by decide +kernel) rfl rfl rfl (by decide +kernel)
set_option maxRecDepth 65536 in
theorem w_c9 : (Jvm.Cond.code ({ cls := "java/util/ArrayList", name := "grow", desc := "()[Ljava/lang/Object;" } : Jvm.MethodName) jdk_38_method_7_code (1 : Nat) (Option.some (Jvm.ClassFile.FieldType.array (Jvm.ClassFile.FieldType.object "java/lang/Object")))).before args0 about1 = true := code_word (m := ⟨13, 2⟩) (meth := k13m2) (c := k13c2) (by decide +kernel) rfl rfl rfl (by decide +kernel)
set_option maxRecDepth 65536 in
theorem w_c10 : (Jvm.Cond.code ({ cls := "java/util/ArrayList", name := "grow", desc := "(I)[Ljava/lang/Object;" } : Jvm.MethodName) jdk_38_method_6_code (4 : Nat) (Option.some (Jvm.ClassFile.FieldType.array (Jvm.ClassFile.FieldType.object "java/lang/Object")))).before args0 about1 = true := code_word (m := ⟨13, 1⟩) (meth := k13m1) (c := k13c1) (by decide +kernel) rfl rfl rfl (by decide +kernel)
set_option maxRecDepth 65536 in
theorem w_c11 : (Jvm.Cond.code ({ cls := "java/lang/Math", name := "max", desc := "(II)I" } : Jvm.MethodName) jdk_29_method_65_code (2 : Nat) (Option.some Jvm.ClassFile.FieldType.int)).before args0 about1 = true := code_word (m := ⟨14, 1⟩) (meth := k14m1) (c := k14c1) (by decide +kernel) rfl rfl rfl (by decide +kernel)
set_option maxRecDepth 65536 in
theorem w_c12 : (Jvm.Cond.code ({ cls := "java/lang/Double", name := "valueOf", desc := "(D)Ljava/lang/Double;" } : Jvm.MethodName) jdk_117_method_4_code (2 : Nat) (Option.some (Jvm.ClassFile.FieldType.object "java/lang/Double"))).before args0 about1 = true := code_word (m := ⟨19, 0⟩) (meth := k19m0) (c := k19c0) (by decide +kernel) rfl rfl rfl (by decide +kernel)
set_option maxRecDepth 65536 in
theorem w_c13 : (Jvm.Cond.code ({ cls := "java/lang/Double", name := "<init>", desc := "(D)V" } : Jvm.MethodName) jdk_117_method_9_code (3 : Nat) (Option.none : Option Jvm.ClassFile.FieldType)).before args0 about1 = true := code_word (m := ⟨19, 1⟩) (meth := k19m1) (c := k19c1) (by decide +kernel) rfl rfl rfl (by decide +kernel)
set_option maxRecDepth 65536 in
theorem w_c14 : (Jvm.Cond.code ({ cls := "java/lang/Number", name := "<init>", desc := "()V" } : Jvm.MethodName) jdk_18_method_1_code (1 : Nat) (Option.none : Option Jvm.ClassFile.FieldType)).before args0 about1 = true := code_word (m := ⟨15, 0⟩) (meth := k15m0) (c := k15c0) (by decide +kernel) rfl rfl rfl (by decide +kernel)
set_option maxRecDepth 65536 in
theorem w_c15 : (Jvm.Cond.code ({ cls := "com/example/feedergen/feedergen/core/DrivenLine", name := "<init>", desc := "(Ljava/util/List;Ljava/util/List;DLjava/util/List;)V" } : Jvm.MethodName) prog_9_method_1_code (6 : Nat) (Option.none : Option Jvm.ClassFile.FieldType)).before args0 about1 = true := code_word (m := ⟨20, 0⟩) (meth := k20m0) (c := k20c0) (by decide +kernel) rfl rfl rfl (by decide +kernel)
set_option maxRecDepth 65536 in
theorem w_c16 : (Jvm.Cond.code ({ cls := "java/util/ArrayList", name := "size", desc := "()I" } : Jvm.MethodName) jdk_38_method_8_code (1 : Nat) (Option.some Jvm.ClassFile.FieldType.int)).before args0 about1 = true := code_word (m := ⟨13, 3⟩) (meth := k13m3) (c := k13c3) (by decide +kernel) rfl rfl rfl (by decide +kernel)
set_option maxRecDepth 65536 in
theorem w_c17 : (Jvm.Cond.code ({ cls := "java/util/List", name := "copyOf", desc := "(Ljava/util/Collection;)Ljava/util/List;" } : Jvm.MethodName) jdk_40_method_48_code (1 : Nat) (Option.some (Jvm.ClassFile.FieldType.object "java/util/List"))).before args0 about1 = true := code_word (m := ⟨8, 4⟩) (meth := k8m4) (c := k8c4) (by decide +kernel) rfl rfl rfl (by decide +kernel)
set_option maxRecDepth 65536 in
theorem w_c18 : (Jvm.Cond.code ({ cls := "java/util/ImmutableCollections", name := "listCopy", desc := "(Ljava/util/Collection;)Ljava/util/List;" } : Jvm.MethodName) jdk_56_method_3_code (2 : Nat) (Option.some (Jvm.ClassFile.FieldType.object "java/util/List"))).before args0 about1 = true := code_word (m := ⟨21, 1⟩) (meth := k21m1) (c := k21c1) (by decide +kernel) rfl rfl rfl (by decide +kernel)
set_option maxRecDepth 65536 in
theorem w_c19 : (Jvm.Cond.code ({ cls := "java/util/ArrayList", name := "isEmpty", desc := "()Z" } : Jvm.MethodName) jdk_38_method_9_code (1 : Nat) (Option.some Jvm.ClassFile.FieldType.boolean)).before args0 about1 = true := code_word (m := ⟨13, 4⟩) (meth := k13m4) (c := k13c4) (by decide +kernel) rfl rfl rfl (by decide +kernel)
set_option maxRecDepth 65536 in
theorem w_c20 : (Jvm.Cond.code ({ cls := "java/util/ArrayList", name := "toArray", desc := "()[Ljava/lang/Object;" } : Jvm.MethodName) jdk_38_method_16_code (1 : Nat) (Option.some (Jvm.ClassFile.FieldType.array (Jvm.ClassFile.FieldType.object "java/lang/Object")))).before args0 about1 = true := code_word (m := ⟨13, 5⟩) (meth := k13m5) (c := k13c5) (by decide +kernel) rfl rfl rfl (by decide +kernel)
set_option maxRecDepth 65536 in
theorem w_c21 : (Jvm.Cond.code ({ cls := "java/util/Arrays", name := "copyOf", desc := "([Ljava/lang/Object;I)[Ljava/lang/Object;" } : Jvm.MethodName) jdk_65_method_119_code (2 : Nat) (Option.some (Jvm.ClassFile.FieldType.array (Jvm.ClassFile.FieldType.object "java/lang/Object")))).before args0 about1 = true := code_word (m := ⟨26, 1⟩) (meth := k26m1) (c := k26c1) (by decide +kernel) rfl rfl rfl (by decide +kernel)
set_option maxRecDepth 65536 in
theorem w_c22 : (Jvm.Cond.code ({ cls := "java/util/Arrays", name := "copyOf", desc := "([Ljava/lang/Object;ILjava/lang/Class;)[Ljava/lang/Object;" } : Jvm.MethodName) jdk_65_method_120_code (4 : Nat) (Option.some (Jvm.ClassFile.FieldType.array (Jvm.ClassFile.FieldType.object "java/lang/Object")))).before args0 about1 = true := code_word (m := ⟨26, 2⟩) (meth := k26m2) (c := k26c2) (by decide +kernel) rfl rfl rfl (by decide +kernel)
set_option maxRecDepth 65536 in
theorem w_c23 : (Jvm.Cond.code ({ cls := "java/lang/Math", name := "min", desc := "(II)I" } : Jvm.MethodName) jdk_29_method_69_code (2 : Nat) (Option.some Jvm.ClassFile.FieldType.int)).before args0 about1 = true := code_word (m := ⟨14, 2⟩) (meth := k14m2) (c := k14c2) (by decide +kernel) rfl rfl rfl (by decide +kernel)
set_option maxRecDepth 65536 in
theorem w_c24 : (Jvm.Cond.code ({ cls := "java/util/List", name := "of", desc := "([Ljava/lang/Object;)Ljava/util/List;" } : Jvm.MethodName) jdk_40_method_47_code (2 : Nat) (Option.some (Jvm.ClassFile.FieldType.object "java/util/List"))).before args0 about1 = true := code_word (m := ⟨8, 3⟩) (meth := k8m3) (c := k8c3) (by decide +kernel) rfl rfl rfl (by decide +kernel)
set_option maxRecDepth 65536 in
theorem w_c25 : (Jvm.Cond.code ({ cls := "java/util/ImmutableCollections$List12", name := "<init>", desc := "(Ljava/lang/Object;Ljava/lang/Object;)V" } : Jvm.MethodName) jdk_44_method_2_code (3 : Nat) (Option.none : Option Jvm.ClassFile.FieldType)).before args0 about1 = true := code_word (m := ⟨24, 0⟩) (meth := k24m0) (c := k24c0) (by decide +kernel) rfl rfl rfl (by decide +kernel)
set_option maxRecDepth 65536 in
theorem w_c26 : (Jvm.Cond.code ({ cls := "java/util/ImmutableCollections$AbstractImmutableList", name := "<init>", desc := "()V" } : Jvm.MethodName) jdk_46_method_1_code (1 : Nat) (Option.none : Option Jvm.ClassFile.FieldType)).before args0 about1 = true := code_word (m := ⟨23, 0⟩) (meth := k23m0) (c := k23c0) (by decide +kernel) rfl rfl rfl (by decide +kernel)
set_option maxRecDepth 65536 in
theorem w_c27 : (Jvm.Cond.code ({ cls := "java/util/ImmutableCollections$AbstractImmutableCollection", name := "<init>", desc := "()V" } : Jvm.MethodName) jdk_47_method_1_code (1 : Nat) (Option.none : Option Jvm.ClassFile.FieldType)).before args0 about1 = true := code_word (m := ⟨22, 0⟩) (meth := k22m0) (c := k22c0) (by decide +kernel) rfl rfl rfl (by decide +kernel)
set_option maxRecDepth 65536 in
theorem w_c28 : (Jvm.Cond.code ({ cls := "java/util/Objects", name := "requireNonNull", desc := "(Ljava/lang/Object;)Ljava/lang/Object;" } : Jvm.MethodName) jdk_31_method_10_code (1 : Nat) (Option.some (Jvm.ClassFile.FieldType.object "java/lang/Object"))).before args0 about1 = true := code_word (m := ⟨28, 1⟩) (meth := k28m1) (c := k28c1) (by decide +kernel) rfl rfl rfl (by decide +kernel)
set_option maxRecDepth 65536 in
theorem w_c29 : (Jvm.Cond.code ({ cls := "java/util/List", name := "of", desc := "()Ljava/util/List;" } : Jvm.MethodName) jdk_40_method_36_code (0 : Nat) (Option.some (Jvm.ClassFile.FieldType.object "java/util/List"))).before args0 about1 = true := code_word (m := ⟨8, 2⟩) (meth := k8m2) (c := k8c2) (by decide +kernel) rfl rfl rfl (by decide +kernel)
set_option maxRecDepth 65536 in
theorem w_c30 : (Jvm.Cond.code ({ cls := "com/example/feedergen/feedergen/core/DrivenLine", name := "lengthForward", desc := "()D" } : Jvm.MethodName) prog_9_method_2_code (1 : Nat) (Option.some Jvm.ClassFile.FieldType.double)).before args0 about1 = true := code_word (m := ⟨20, 1⟩) (meth := k20m1) (c := k20c1) (by decide +kernel) rfl rfl rfl (by decide +kernel)
set_option maxRecDepth 65536 in
theorem w_c31 : (Jvm.Cond.code ({ cls := "java/util/ImmutableCollections$List12", name := "size", desc := "()I" } : Jvm.MethodName) jdk_44_method_3_code (1 : Nat) (Option.some Jvm.ClassFile.FieldType.int)).before args0 about1 = true := code_word (m := ⟨24, 1⟩) (meth := k24m1) (c := k24c1) (by decide +kernel) rfl rfl rfl (by decide +kernel)
set_option maxRecDepth 65536 in
theorem w_c32 : (Jvm.Cond.code ({ cls := "java/util/ImmutableCollections$List12", name := "get", desc := "(I)Ljava/lang/Object;" } : Jvm.MethodName) jdk_44_method_5_code (2 : Nat) (Option.some (Jvm.ClassFile.FieldType.object "java/lang/Object"))).before args0 about1 = true := code_word (m := ⟨24, 2⟩) (meth := k24m2) (c := k24c2) (by decide +kernel) rfl rfl rfl (by decide +kernel)
set_option maxRecDepth 65536 in
theorem w_c33 : (Jvm.Cond.code ({ cls := "java/lang/Double", name := "doubleValue", desc := "()D" } : Jvm.MethodName) jdk_117_method_19_code (1 : Nat) (Option.some Jvm.ClassFile.FieldType.double)).before args0 about1 = true := code_word (m := ⟨19, 2⟩) (meth := k19m2) (c := k19c2) (by decide +kernel) rfl rfl rfl (by decide +kernel)
set_option maxRecDepth 65536 in
theorem w_c34 : (Jvm.Cond.code ({ cls := "java/util/ImmutableCollections", name := "listFromArray", desc := "([Ljava/lang/Object;)Ljava/util/List;" } : Jvm.MethodName) jdk_56_method_4_code (3 : Nat) (Option.some (Jvm.ClassFile.FieldType.object "java/util/List"))).before args0 about1 = true := code_word (m := ⟨21, 2⟩) (meth := k21m2) (c := k21c2) (by decide +kernel) rfl rfl rfl (by decide +kernel)
set_option maxRecDepth 65536 in
theorem w_c35 : (Jvm.Cond.code ({ cls := "java/util/ImmutableCollections$ListN", name := "<init>", desc := "([Ljava/lang/Object;Z)V" } : Jvm.MethodName) jdk_45_method_1_code (3 : Nat) (Option.none : Option Jvm.ClassFile.FieldType)).before args0 about1 = true := code_word (m := ⟨25, 0⟩) (meth := k25m0) (c := k25c0) (by decide +kernel) rfl rfl rfl (by decide +kernel)
set_option maxRecDepth 65536 in
theorem w_c36 : (Jvm.Cond.code ({ cls := "java/util/ImmutableCollections$ListN", name := "size", desc := "()I" } : Jvm.MethodName) jdk_45_method_3_code (1 : Nat) (Option.some Jvm.ClassFile.FieldType.int)).before args0 about1 = true := code_word (m := ⟨25, 1⟩) (meth := k25m1) (c := k25c1) (by decide +kernel) rfl rfl rfl (by decide +kernel)
set_option maxRecDepth 65536 in
theorem w_c37 : (Jvm.Cond.code ({ cls := "java/util/ImmutableCollections$ListN", name := "get", desc := "(I)Ljava/lang/Object;" } : Jvm.MethodName) jdk_45_method_4_code (2 : Nat) (Option.some (Jvm.ClassFile.FieldType.object "java/lang/Object"))).before args0 about1 = true := code_word (m := ⟨25, 2⟩) (meth := k25m2) (c := k25c2) (by decide +kernel) rfl rfl rfl (by decide +kernel)
def codes1 : List Jvm.Cond := [Jvm.Cond.code x code maxLocals ret, Jvm.Cond.code ({ cls := "com/example/feedergen/feedergen/core/StopCandidate", name := "<init>", desc := "(ILcom/example/feedergen/feedergen/core/StreetLink;D)V" } : Jvm.MethodName) prog_27_method_1_code (5 : Nat) (Option.none : Option Jvm.ClassFile.FieldType), Jvm.Cond.code ({ cls := "java/lang/Record", name := "<init>", desc := "()V" } : Jvm.MethodName) jdk_30_method_1_code (1 : Nat) (Option.none : Option Jvm.ClassFile.FieldType), Jvm.Cond.code ({ cls := "java/lang/Object", name := "<init>", desc := "()V" } : Jvm.MethodName) object_method_1_code (1 : Nat) (Option.none : Option Jvm.ClassFile.FieldType), Jvm.Cond.code ({ cls := "java/util/ArrayList", name := "<init>", desc := "()V" } : Jvm.MethodName) jdk_38_method_2_code (1 : Nat) (Option.none : Option Jvm.ClassFile.FieldType), Jvm.Cond.code ({ cls := "java/util/AbstractList", name := "<init>", desc := "()V" } : Jvm.MethodName) jdk_39_method_1_code (1 : Nat) (Option.none : Option Jvm.ClassFile.FieldType), Jvm.Cond.code ({ cls := "java/util/AbstractCollection", name := "<init>", desc := "()V" } : Jvm.MethodName) jdk_22_method_1_code (1 : Nat) (Option.none : Option Jvm.ClassFile.FieldType), Jvm.Cond.code ({ cls := "java/util/ArrayList", name := "add", desc := "(Ljava/lang/Object;)Z" } : Jvm.MethodName) jdk_38_method_25_code (2 : Nat) (Option.some Jvm.ClassFile.FieldType.boolean), Jvm.Cond.code ({ cls := "java/util/ArrayList", name := "add", desc := "(Ljava/lang/Object;[Ljava/lang/Object;I)V" } : Jvm.MethodName) jdk_38_method_24_code (4 : Nat) (Option.none : Option Jvm.ClassFile.FieldType), Jvm.Cond.code ({ cls := "java/util/ArrayList", name := "grow", desc := "()[Ljava/lang/Object;" } : Jvm.MethodName) jdk_38_method_7_code (1 : Nat) (Option.some (Jvm.ClassFile.FieldType.array (Jvm.ClassFile.FieldType.object "java/lang/Object"))), Jvm.Cond.code ({ cls := "java/util/ArrayList", name := "grow", desc := "(I)[Ljava/lang/Object;" } : Jvm.MethodName) jdk_38_method_6_code (4 : Nat) (Option.some (Jvm.ClassFile.FieldType.array (Jvm.ClassFile.FieldType.object "java/lang/Object"))), Jvm.Cond.code ({ cls := "java/lang/Math", name := "max", desc := "(II)I" } : Jvm.MethodName) jdk_29_method_65_code (2 : Nat) (Option.some Jvm.ClassFile.FieldType.int), Jvm.Cond.code ({ cls := "java/lang/Double", name := "valueOf", desc := "(D)Ljava/lang/Double;" } : Jvm.MethodName) jdk_117_method_4_code (2 : Nat) (Option.some (Jvm.ClassFile.FieldType.object "java/lang/Double")), Jvm.Cond.code ({ cls := "java/lang/Double", name := "<init>", desc := "(D)V" } : Jvm.MethodName) jdk_117_method_9_code (3 : Nat) (Option.none : Option Jvm.ClassFile.FieldType), Jvm.Cond.code ({ cls := "java/lang/Number", name := "<init>", desc := "()V" } : Jvm.MethodName) jdk_18_method_1_code (1 : Nat) (Option.none : Option Jvm.ClassFile.FieldType), Jvm.Cond.code ({ cls := "com/example/feedergen/feedergen/core/DrivenLine", name := "<init>", desc := "(Ljava/util/List;Ljava/util/List;DLjava/util/List;)V" } : Jvm.MethodName) prog_9_method_1_code (6 : Nat) (Option.none : Option Jvm.ClassFile.FieldType), Jvm.Cond.code ({ cls := "java/util/ArrayList", name := "size", desc := "()I" } : Jvm.MethodName) jdk_38_method_8_code (1 : Nat) (Option.some Jvm.ClassFile.FieldType.int), Jvm.Cond.code ({ cls := "java/util/List", name := "copyOf", desc := "(Ljava/util/Collection;)Ljava/util/List;" } : Jvm.MethodName) jdk_40_method_48_code (1 : Nat) (Option.some (Jvm.ClassFile.FieldType.object "java/util/List")), Jvm.Cond.code ({ cls := "java/util/ImmutableCollections", name := "listCopy", desc := "(Ljava/util/Collection;)Ljava/util/List;" } : Jvm.MethodName) jdk_56_method_3_code (2 : Nat) (Option.some (Jvm.ClassFile.FieldType.object "java/util/List")), Jvm.Cond.code ({ cls := "java/util/ArrayList", name := "isEmpty", desc := "()Z" } : Jvm.MethodName) jdk_38_method_9_code (1 : Nat) (Option.some Jvm.ClassFile.FieldType.boolean), Jvm.Cond.code ({ cls := "java/util/ArrayList", name := "toArray", desc := "()[Ljava/lang/Object;" } : Jvm.MethodName) jdk_38_method_16_code (1 : Nat) (Option.some (Jvm.ClassFile.FieldType.array (Jvm.ClassFile.FieldType.object "java/lang/Object"))), Jvm.Cond.code ({ cls := "java/util/Arrays", name := "copyOf", desc := "([Ljava/lang/Object;I)[Ljava/lang/Object;" } : Jvm.MethodName) jdk_65_method_119_code (2 : Nat) (Option.some (Jvm.ClassFile.FieldType.array (Jvm.ClassFile.FieldType.object "java/lang/Object"))), Jvm.Cond.code ({ cls := "java/util/Arrays", name := "copyOf", desc := "([Ljava/lang/Object;ILjava/lang/Class;)[Ljava/lang/Object;" } : Jvm.MethodName) jdk_65_method_120_code (4 : Nat) (Option.some (Jvm.ClassFile.FieldType.array (Jvm.ClassFile.FieldType.object "java/lang/Object"))), Jvm.Cond.code ({ cls := "java/lang/Math", name := "min", desc := "(II)I" } : Jvm.MethodName) jdk_29_method_69_code (2 : Nat) (Option.some Jvm.ClassFile.FieldType.int), Jvm.Cond.code ({ cls := "java/util/List", name := "of", desc := "([Ljava/lang/Object;)Ljava/util/List;" } : Jvm.MethodName) jdk_40_method_47_code (2 : Nat) (Option.some (Jvm.ClassFile.FieldType.object "java/util/List")), Jvm.Cond.code ({ cls := "java/util/ImmutableCollections$List12", name := "<init>", desc := "(Ljava/lang/Object;Ljava/lang/Object;)V" } : Jvm.MethodName) jdk_44_method_2_code (3 : Nat) (Option.none : Option Jvm.ClassFile.FieldType), Jvm.Cond.code ({ cls := "java/util/ImmutableCollections$AbstractImmutableList", name := "<init>", desc := "()V" } : Jvm.MethodName) jdk_46_method_1_code (1 : Nat) (Option.none : Option Jvm.ClassFile.FieldType), Jvm.Cond.code ({ cls := "java/util/ImmutableCollections$AbstractImmutableCollection", name := "<init>", desc := "()V" } : Jvm.MethodName) jdk_47_method_1_code (1 : Nat) (Option.none : Option Jvm.ClassFile.FieldType), Jvm.Cond.code ({ cls := "java/util/Objects", name := "requireNonNull", desc := "(Ljava/lang/Object;)Ljava/lang/Object;" } : Jvm.MethodName) jdk_31_method_10_code (1 : Nat) (Option.some (Jvm.ClassFile.FieldType.object "java/lang/Object")), Jvm.Cond.code ({ cls := "java/util/List", name := "of", desc := "()Ljava/util/List;" } : Jvm.MethodName) jdk_40_method_36_code (0 : Nat) (Option.some (Jvm.ClassFile.FieldType.object "java/util/List")), Jvm.Cond.code ({ cls := "com/example/feedergen/feedergen/core/DrivenLine", name := "lengthForward", desc := "()D" } : Jvm.MethodName) prog_9_method_2_code (1 : Nat) (Option.some Jvm.ClassFile.FieldType.double), Jvm.Cond.code ({ cls := "java/util/ImmutableCollections$List12", name := "size", desc := "()I" } : Jvm.MethodName) jdk_44_method_3_code (1 : Nat) (Option.some Jvm.ClassFile.FieldType.int), Jvm.Cond.code ({ cls := "java/util/ImmutableCollections$List12", name := "get", desc := "(I)Ljava/lang/Object;" } : Jvm.MethodName) jdk_44_method_5_code (2 : Nat) (Option.some (Jvm.ClassFile.FieldType.object "java/lang/Object")), Jvm.Cond.code ({ cls := "java/lang/Double", name := "doubleValue", desc := "()D" } : Jvm.MethodName) jdk_117_method_19_code (1 : Nat) (Option.some Jvm.ClassFile.FieldType.double), Jvm.Cond.code ({ cls := "java/util/ImmutableCollections", name := "listFromArray", desc := "([Ljava/lang/Object;)Ljava/util/List;" } : Jvm.MethodName) jdk_56_method_4_code (3 : Nat) (Option.some (Jvm.ClassFile.FieldType.object "java/util/List")), Jvm.Cond.code ({ cls := "java/util/ImmutableCollections$ListN", name := "<init>", desc := "([Ljava/lang/Object;Z)V" } : Jvm.MethodName) jdk_45_method_1_code (3 : Nat) (Option.none : Option Jvm.ClassFile.FieldType), Jvm.Cond.code ({ cls := "java/util/ImmutableCollections$ListN", name := "size", desc := "()I" } : Jvm.MethodName) jdk_45_method_3_code (1 : Nat) (Option.some Jvm.ClassFile.FieldType.int), Jvm.Cond.code ({ cls := "java/util/ImmutableCollections$ListN", name := "get", desc := "(I)Ljava/lang/Object;" } : Jvm.MethodName) jdk_45_method_4_code (2 : Nat) (Option.some (Jvm.ClassFile.FieldType.object "java/lang/Object"))]
set_option maxRecDepth 65536 in
theorem codes_eq : words1.filter isCode = codes1 := rfl
theorem w_codes : ∀ c ∈ words1.filter isCode, c.before args0 about1 = true := by
  rw [codes_eq]
  intro c hc
  simp only [codes1, List.mem_cons, List.not_mem_nil, or_false] at hc
  rcases hc with rfl | rfl | rfl | rfl | rfl | rfl | rfl | rfl | rfl | rfl | rfl | rfl | rfl | rfl | rfl | rfl | rfl | rfl | rfl | rfl | rfl | rfl | rfl | rfl | rfl | rfl | rfl | rfl | rfl | rfl | rfl | rfl | rfl | rfl | rfl | rfl | rfl | rfl
  · exact w_c0
  · exact w_c1
  · exact w_c2
  · exact w_c3
  · exact w_c4
  · exact w_c5
  · exact w_c6
  · exact w_c7
  · exact w_c8
  · exact w_c9
  · exact w_c10
  · exact w_c11
  · exact w_c12
  · exact w_c13
  · exact w_c14
  · exact w_c15
  · exact w_c16
  · exact w_c17
  · exact w_c18
  · exact w_c19
  · exact w_c20
  · exact w_c21
  · exact w_c22
  · exact w_c23
  · exact w_c24
  · exact w_c25
  · exact w_c26
  · exact w_c27
  · exact w_c28
  · exact w_c29
  · exact w_c30
  · exact w_c31
  · exact w_c32
  · exact w_c33
  · exact w_c34
  · exact w_c35
  · exact w_c36
  · exact w_c37
set_option maxRecDepth 65536 in
theorem w_t1 : (words1.take 24).all (fun c => isCode c || c.before args0 about1) = true := by decide +kernel
set_option maxRecDepth 65536 in
theorem w_t2 : ((words1.drop 24).take 24).all (fun c => isCode c || c.before args0 about1) = true := by decide +kernel
set_option maxRecDepth 65536 in
theorem w_t3 : (((words1.drop 24).drop 24).take 24).all (fun c => isCode c || c.before args0 about1) = true := by decide +kernel
set_option maxRecDepth 65536 in
theorem w_t4 : ((((words1.drop 24).drop 24).drop 24).take 24).all (fun c => isCode c || c.before args0 about1) = true := by decide +kernel
set_option maxRecDepth 65536 in
theorem w_t5 : (((((words1.drop 24).drop 24).drop 24).drop 24).take 24).all (fun c => isCode c || c.before args0 about1) = true := by decide +kernel
set_option maxRecDepth 65536 in
theorem w_t6 : ((((((words1.drop 24).drop 24).drop 24).drop 24).drop 24).take 24).all (fun c => isCode c || c.before args0 about1) = true := by decide +kernel
set_option maxRecDepth 65536 in
theorem w_t7 : (((((((words1.drop 24).drop 24).drop 24).drop 24).drop 24).drop 24).take 24).all (fun c => isCode c || c.before args0 about1) = true := by decide +kernel
set_option maxRecDepth 65536 in
theorem w_t8 : ((((((((words1.drop 24).drop 24).drop 24).drop 24).drop 24).drop 24).drop 24).take 24).all (fun c => isCode c || c.before args0 about1) = true := by decide +kernel
set_option maxRecDepth 65536 in
theorem w_t9 : (((((((((words1.drop 24).drop 24).drop 24).drop 24).drop 24).drop 24).drop 24).drop 24).take 24).all (fun c => isCode c || c.before args0 about1) = true := by decide +kernel
set_option maxRecDepth 65536 in
theorem w_t10 : ((((((((((words1.drop 24).drop 24).drop 24).drop 24).drop 24).drop 24).drop 24).drop 24).drop 24).take 24).all (fun c => isCode c || c.before args0 about1) = true := by decide +kernel
set_option maxRecDepth 65536 in
theorem w_t11 : (((((((((((words1.drop 24).drop 24).drop 24).drop 24).drop 24).drop 24).drop 24).drop 24).drop 24).drop 24).take 24).all (fun c => isCode c || c.before args0 about1) = true := by decide +kernel
set_option maxRecDepth 65536 in
theorem w_t12 : (((((((((((words1.drop 24).drop 24).drop 24).drop 24).drop 24).drop 24).drop 24).drop 24).drop 24).drop 24).drop 24).all (fun c => isCode c || c.before args0 about1) = true := by decide +kernel
theorem w_tables : (allAtoms (Jvm.Cond.code x code maxLocals ret :: tables_1)).before args0 about1 = true := by
  rw [allAtoms_all]
  show words1.all (fun c => c.before args0 about1) = true
  refine all_split ?_ w_codes
  rw [← List.take_append_drop 24 words1, List.all_append, w_t1, ← List.take_append_drop 24 (words1.drop 24), List.all_append, w_t2, ← List.take_append_drop 24 ((words1.drop 24).drop 24), List.all_append, w_t3, ← List.take_append_drop 24 (((words1.drop 24).drop 24).drop 24), List.all_append, w_t4, ← List.take_append_drop 24 ((((words1.drop 24).drop 24).drop 24).drop 24), List.all_append, w_t5, ← List.take_append_drop 24 (((((words1.drop 24).drop 24).drop 24).drop 24).drop 24), List.all_append, w_t6, ← List.take_append_drop 24 ((((((words1.drop 24).drop 24).drop 24).drop 24).drop 24).drop 24), List.all_append, w_t7, ← List.take_append_drop 24 (((((((words1.drop 24).drop 24).drop 24).drop 24).drop 24).drop 24).drop 24), List.all_append, w_t8, ← List.take_append_drop 24 ((((((((words1.drop 24).drop 24).drop 24).drop 24).drop 24).drop 24).drop 24).drop 24), List.all_append, w_t9, ← List.take_append_drop 24 (((((((((words1.drop 24).drop 24).drop 24).drop 24).drop 24).drop 24).drop 24).drop 24).drop 24), List.all_append, w_t10, ← List.take_append_drop 24 ((((((((((words1.drop 24).drop 24).drop 24).drop 24).drop 24).drop 24).drop 24).drop 24).drop 24).drop 24), List.all_append, w_t11, w_t12]
  rfl
set_option maxRecDepth 65536 in
theorem w_rest : rest_1_c.before args0 about1 = true := by decide +kernel
set_option maxRecDepth 65536 in
theorem w_case : (Jvm.Cond.and given_1 narrow_1).before args0 about1 = true := by decide +kernel
theorem w_applies : (headSpec (Jvm.Cond.code x code maxLocals ret :: tables_1) room_1).applies x e0.platform about1 = true :=
  (Spec.applies_iff w_frames).mpr ⟨w_running, w_runnable, w_alone, w_named, w_hears, w_ripe, w_room, w_tables⟩
theorem atStart : AtStart classFile x code maxLocals ret World_1 tables_1 room_1 Calls_1 rest_1 Pre_1 launch0 p0 e0 about1 theMethod args0 below0 :=
  ⟨lists_1, trivial, launch0.admits_env _ _ _, launch0.least_env, fairChoices_fair.cas, fairChoices_fair.clock, w_frames, w_args, w_heap, w_applies, ⟨⟨34, k34, 2, by decide +kernel, rfl, rfl, _, rfl, rfl⟩, trivial⟩, w_rest, w_case⟩
end start1
theorem witness_1 : WitnessClaimed_1 := ⟨start1.p0, start1.e0, start1.about1, start1.theMethod, start1.args0, start1.below0, start1.atStart⟩
end Jvm.Pilot.@@N@@
