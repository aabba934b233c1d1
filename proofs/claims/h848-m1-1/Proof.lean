import JvmDerived
import JvmDerived.Pilot.@@N@@Statement
import JvmDerived.Pilot.@@N@@Code
set_option linter.unusedVariables false
set_option linter.unusedSimpArgs false
set_option maxRecDepth 65536
set_option maxHeartbeats 40000000
namespace Jvm.RoadKit
open Sem ClassFile Op Lib Jvm.Stand Jvm.Free Jvm.LawKit
section New
variable {p : Program} {l : Launch} {e : Env} {R : Room} {s : State} {m : MethodId} {args : Array Value} {below : List Frame} {meth : Method} {c : Code} {T : State} {locs : List Loc} {cells slots : Nat}
theorem retI (X : Stand p l e R s m args below meth c T locs cells slots) (hx : p.tables.exec = Jvm.exec) {pc : Nat} {Ls : Array Slot} {z : Int32} {rest : List Value} (hret : meth.sig.returnType = some .int) (hd : decode c.code pc = .ok (.ireturn, 1)) {fs : List Frame}
    (hl : ∀ (f : JFrame) (acts : List Action), f.method = m → f.locked = none → f.entered = [] → (doReturn e (T.setTop f) acts (some (.int z))).1 = T.setFrames fs) : Steps p.tables e below (T.setTop (mkF m pc Ls (.int z :: rest))) (T.setFrames fs) := by
  have hm' : T.vm.method? m = some meth := X.method'
  have hn : narrow .int (.int z) = .int z := rfl
  show Steps p.tables e below (T.setTop { method := m, pc := pc, locals := Ls, stack := _ :: rest, locked := none }) _
  jvm_step X.here [X.here.top, hx, hd, hm', hret, hn]
  first | (intro acts; rw [hl _ acts rfl rfl rfl]) | rw [hl _ _ rfl rfl rfl]
  exact Steps.refl _
end New
/-- a body's contract, written short -/
abbrev OwnMet (l : Launch) (Z : State) (y : MethodName) (bytes : ByteArray) (maxL : Nat) (ret : Option FieldType) (ws : List Cond) (rm : Room) (as' : Array Value) (h0 : Heap) (Q : Option Value → Heap → List Loc → Prop) : Prop :=
  MetFree l y (head1 (Cond.code y bytes maxL ret :: ws) rm) (fun a U => a = as' ∧ Z.Warmed39 U.vm ∧ U.heap = h0) (fun _ _ _ _ _ => True) (fun _ U o U' => ∃ v L, o = .returned v ∧ Q v U'.heap L ∧ FrameEnd U o U' L rm.cells rm.slots)
theorem own_body {l : Launch} {Z : State} {y : MethodName} {bytes : ByteArray} {maxL : Nat} {ret : Option FieldType} {ws : List Cond} {rm : Room} {as' : Array Value} {h0 : Heap} {Q : Option Value → Heap → List Loc → Prop} {L0 : Array Slot} (hp : plainFor y = true) (hef : ∀ m, entryFrame m as' maxL = mkF m 0 L0 [])
    (k : ∀ (p : Program) (e : Env) (s : State) (m : MethodId) (below : List Frame) (meth : Method) (c : Code) (s₁ : State), p.tables.exec = Jvm.exec → c.code = bytes → c.maxLocals = maxL → s.vm.findClass y.cls = some m.cls → meth.name = y.name → meth.sig.returnType = ret → Z.Warmed39 s.vm → Stand p l e rm s m as' below meth c s₁ [] 0 0 → s₁.heap = h0 →
      ∃ (T : State) (L : List Loc) (ce sl : Nat) (v : Option Value), Stand p l e rm s m as' below meth c T L ce sl ∧ (ret = none → v = none) ∧ ce ≤ rm.cells ∧ sl ≤ rm.slots ∧ Q v T.heap L ∧
        ∀ fs, (∀ (f : JFrame) (acts : List Action), f.method = m → f.locked = none → f.entered = [] → (doReturn e (T.setTop f) acts v).1 = T.setFrames fs) → Steps p.tables e below (s₁.setTop (mkF m 0 L0 [])) (T.setFrames fs)) :
    OwnMet l Z y bytes maxL ret ws rm as' h0 Q := by
  refine MetFree.of_bodySF hp hisR ?_
  intro p e s m args below meth c s₁ Bd hml hP hK
  obtain ⟨hargs, hZ, hh⟩ := hP
  subst hargs
  obtain ⟨T, L, ce, sl, v, X, hv, hc, hs, hq, st⟩ := k p e s m below meth c s₁ Bd.exec Bd.bytes hml (findClass_of_methodNamed Bd.named) (name_of_methodNamed Bd.named Bd.method).1 Bd.returns hZ (Stand.of_body Bd) (by rw [← hh, Bd.state]; rfl)
  obtain ⟨fs, hr, hrun, hended, hW, hsame⟩ := X.leave (v := v) (fun h => hv (Bd.returns ▸ h))
  exact ⟨_, _, castTop (hef m) (st fs hr), hrun, hended, v, L, rfl, hq, ⟨_, rfl⟩, hW, hsame.mono hc hs⟩
theorem own_mvNest {Z s : State} {a0 args : Array Value} {own host : String} {index : Nat} {y : MethodName} (hZ : Z.Warmed39 s.vm) (w : (Cond.methodLinkNest own index y host).before a0 Z = true) : (Cond.methodLinkNest own index y host).before args s = true := (Cond.methodLinkNest_wide hZ w :)
section Calls
variable {p : Program} {l : Launch} {e : Env} {R : Room} {s : State} {m : MethodId} {args : Array Value} {below : List Frame} {meth : Method} {c : Code} {T : State} {locs : List Loc} {cells slots : Nat} {Z : State} {a0 : Array Value} {h : Heap}
  {own : String} {index : Nat} {y z : MethodName} {bytes : ByteArray} {maxL : Nat} {ret : Option FieldType} {rm : Room} {as' : Array Value} {Q : Option Value → Heap → List Loc → Prop} {pc : Nat} {Ls : Array Slot} {argsL rest : List Value} {W : Nat}
/-- what a call leaves -/
abbrev OwnCame (p : Program) (l : Launch) (e : Env) (R : Room) (s : State) (m : MethodId) (args : Array Value) (below : List Frame) (meth : Method) (c : Code) (T : State) (locs : List Loc) (cells slots : Nat) (rm : Room) (Q : Option Value → Heap → List Loc → Prop) (pc pc' : Nat) (Ls : Array Slot) (st rest : List Value) : Prop :=
  ∃ (v : Option Value) (T' : State) (L : List Loc), Stand p l e R s m args below meth c T' (locs ++ L) (cells + rm.cells) (slots + rm.slots) ∧ Q v T'.heap L ∧
    ∀ target, Steps p.tables e below (T'.setTop (mkF m pc' Ls (v.toList ++ rest))) target → Steps p.tables e below (T.setTop (mkF m pc Ls st)) target
theorem own_callS (X : Stand p l e R s m args below meth c T locs cells slots) (hx : p.tables.exec = Jvm.exec) (hZ : Z.Warmed39 s.vm) (hown : s.vm.findClass own = some m.cls)
    (w1 : (Cond.methodLink own index y).before a0 Z = true) (w2 : (Cond.static y).before a0 Z = true) (w3 : (Cond.initialized y.cls).before a0 Z = true) (w4 : (Cond.code y bytes maxL ret).before a0 Z = true)
    (hM : OwnMet l Z y bytes maxL ret [] rm as' h Q) (eT : T.heap = h) (hsize : Ls.size = c.maxLocals) (hlen : ∀ sig, parseMethodDescriptor y.desc = some sig → argsL.length = sig.parameters.length) (hd : decode c.code pc = .ok (.invokestatic index, 3))
    (has : argsL.toArray = as' := by rfl) (hW : (rest.map fun v => v.category).sum ≤ W := by exact Nat.le_of_eq rfl) (hf : rm.frames + 1 ≤ R.frames := by decide) (hl : W + (maxL + 11) + rm.locals ≤ R.locals := by decide) (hc : cells + rm.cells ≤ R.cells := by decide) (hs : slots + rm.slots ≤ R.slots := by decide) (hy : y.cls ≠ "java/lang/invoke/MethodHandle" ∧ y.cls ≠ "java/lang/invoke/VarHandle" := by decide) :
    OwnCame p l e R s m args below meth c T locs cells slots rm Q pc (pc + 3) Ls (argsL.reverse ++ rest) rest := by
  obtain ⟨v, vm1, ⟨T', L', c', n'⟩, -, XB, ⟨L, hQ, l1, y1, z1⟩, st⟩ := Jvm.LawKit.callS X hx (y := y) hown (mvT hZ w1) (mvT hZ w2) (mvT hZ w3) (mvT hZ w4) hy (backOf (W := W) hM hZ w4 w3 hf hl) (g := mkF m pc Ls (argsL.reverse ++ rest)) rfl hsize (argsL := argsL) (rest := rest) hlen rfl (by show 2 * 0 + _ ≤ _; omega) hd (fun _ _ => ⟨has, eT, hc, hs⟩)
  dsimp only at XB l1 y1 z1 st hQ
  subst l1 y1 z1
  exact ⟨v, T', L, XB, hQ, st⟩
theorem own_special (X : Stand p l e R s m args below meth c T locs cells slots) (hx : p.tables.exec = Jvm.exec) (hZ : Z.Warmed39 s.vm) (hown : s.vm.findClass own = some m.cls) {a : Addr}
    (w1 : (Cond.methodLink own index y).before a0 Z = true) (w2 : (Cond.instanceMethod y).before a0 Z = true) (w3 : (Cond.initialized y.cls).before a0 Z = true) (w4 : (Cond.code y bytes maxL none).before a0 Z = true)
    (hM : OwnMet l Z y bytes maxL none [] rm as' h Q) (eT : T.heap = h) (hsize : Ls.size = c.maxLocals) (hlen : ∀ sig, parseMethodDescriptor y.desc = some sig → argsL.length = sig.parameters.length) (hd : decode c.code pc = .ok (.invokespecial index, 3))
    (has : (.ref a :: argsL).toArray = as' := by rfl) (hW : (rest.map fun v => v.category).sum ≤ W := by exact Nat.le_of_eq rfl) (hf : rm.frames + 1 ≤ R.frames := by decide) (hl : W + (maxL + 11) + rm.locals ≤ R.locals := by decide) (hc : cells + rm.cells ≤ R.cells := by decide) (hs : slots + rm.slots ≤ R.slots := by decide) (hy : y.cls ≠ "java/lang/invoke/MethodHandle" ∧ y.cls ≠ "java/lang/invoke/VarHandle" := by decide) (hy1 : y.name = "<init>" := by rfl) :
    OwnCame p l e R s m args below meth c T locs cells slots rm Q pc (pc + 3) Ls (argsL.reverse ++ .ref a :: rest) rest := by
  obtain ⟨v, vm1, ⟨T', L', c', n'⟩, -, XB, ⟨L, hQ, l1, y1, z1⟩, st⟩ := X.specialBack hx (y := y) hy1 hown (mvT hZ w1) (mvT hZ w2) (mvT hZ w4) hy (backOf (W := W) hM hZ w4 w3 hf hl) (g := mkF m pc Ls (argsL.reverse ++ .ref a :: rest)) rfl hsize (Steps.refl _) (a := a) (argsL := argsL) (rest := rest) hlen rfl (by show 2 * 0 + _ ≤ _; omega) hd (fun _ _ => ⟨has, eT, hc, hs⟩)
  dsimp only at XB l1 y1 z1 st hQ
  subst l1 y1 z1
  exact ⟨v, T', L, XB, hQ, fun t k => st.trans k⟩
theorem own_virtual (X : Stand p l e R s m args below meth c T locs cells slots) (hx : p.tables.exec = Jvm.exec) (hZ : Z.Warmed39 s.vm) (hown : s.vm.findClass own = some m.cls) {a : Addr} {C : String} (E : Exa Z h a C)
    (w1 : (Cond.methodLink own index y).before a0 Z = true) (w2 : (Cond.declares y).before a0 Z = true) (nf : NotFace s y) (w5 : (Cond.selects C y z).before a0 Z = true) (w6 : (Cond.instanceMethod z).before a0 Z = true) (w3 : (Cond.initialized z.cls).before a0 Z = true) (w4 : (Cond.code z bytes maxL ret).before a0 Z = true)
    (hM : OwnMet l Z z bytes maxL ret [] rm as' h Q) (eT : T.heap = h) (hsize : Ls.size = c.maxLocals) (hlen : ∀ sig, parseMethodDescriptor y.desc = some sig → argsL.length = sig.parameters.length) (hd : decode c.code pc = .ok (.invokevirtual index, 3))
    (has : (.ref a :: argsL).toArray = as' := by rfl) (hW : (rest.map fun v => v.category).sum ≤ W := by exact Nat.le_of_eq rfl) (hf : rm.frames + 1 ≤ R.frames := by decide) (hl : W + (maxL + 11) + rm.locals ≤ R.locals := by decide) (hc : cells + rm.cells ≤ R.cells := by decide) (hs : slots + rm.slots ≤ R.slots := by decide) (hy : y.cls ≠ "java/lang/invoke/MethodHandle" ∧ y.cls ≠ "java/lang/invoke/VarHandle" := by decide) :
    OwnCame p l e R s m args below meth c T locs cells slots rm Q pc (pc + 3) Ls (argsL.reverse ++ .ref a :: rest) rest := by
  obtain ⟨cB, kB, i1, -, i3⟩ := isOf hZ eT E
  obtain ⟨v, vm1, ⟨T', L', c', n'⟩, -, XB, ⟨L, hQ, l1, y1, z1⟩, st⟩ := X.virtualBack hx (y := y) (z := z) hown (mvT hZ w1) (mvT hZ w2) nf (mvT hZ w5) (mvT hZ w6) hy (backOf (W := W) hM hZ w4 w3 hf hl) i1 i3 (g := mkF m pc Ls (argsL.reverse ++ .ref a :: rest)) rfl hsize (Steps.refl _) (argsL := argsL) (rest := rest) hlen rfl (by show 2 * 0 + _ ≤ _; omega) hd (fun _ _ => ⟨has, eT, hc, hs⟩)
  dsimp only at XB l1 y1 z1 st hQ
  subst l1 y1 z1
  exact ⟨v, T', L, XB, hQ, fun t k => st.trans k⟩
theorem own_virtualUp (X : Stand p l e R s m args below meth c T locs cells slots) (hx : p.tables.exec = Jvm.exec) (hZ : Z.Warmed39 s.vm) (hown : s.vm.findClass own = some m.cls) {a : Addr} {C owner : String} (E : Exa Z h a C)
    (w1 : (Cond.methodLink own index y).before a0 Z = true) (w7 : (Cond.sameMethod y.cls owner y.name y.desc).before a0 Z = true) (w2 : (Cond.declares ⟨owner, y.name, y.desc⟩).before a0 Z = true) (w5 : (Cond.selects C y z).before a0 Z = true) (w6 : (Cond.instanceMethod z).before a0 Z = true) (w3 : (Cond.initialized z.cls).before a0 Z = true) (w4 : (Cond.code z bytes maxL ret).before a0 Z = true)
    (hM : OwnMet l Z z bytes maxL ret [] rm as' h Q) (eT : T.heap = h) (hsize : Ls.size = c.maxLocals) (hlen : ∀ sig, parseMethodDescriptor y.desc = some sig → argsL.length = sig.parameters.length) (hd : decode c.code pc = .ok (.invokevirtual index, 3))
    (has : (.ref a :: argsL).toArray = as' := by rfl) (hW : (rest.map fun v => v.category).sum ≤ W := by exact Nat.le_of_eq rfl) (hf : rm.frames + 1 ≤ R.frames := by decide) (hl : W + (maxL + 11) + rm.locals ≤ R.locals := by decide) (hc : cells + rm.cells ≤ R.cells := by decide) (hs : slots + rm.slots ≤ R.slots := by decide) (hy : owner ≠ "java/lang/invoke/MethodHandle" ∧ owner ≠ "java/lang/invoke/VarHandle" := by decide) :
    OwnCame p l e R s m args below meth c T locs cells slots rm Q pc (pc + 3) Ls (argsL.reverse ++ .ref a :: rest) rest := by
  obtain ⟨cB, kB, i1, -, i3⟩ := isOf hZ eT E
  obtain ⟨v, vm1, ⟨T', L', c', n'⟩, -, XB, ⟨L, hQ, l1, y1, z1⟩, st⟩ := X.virtualBackUp hx (x := y) (y := z) (owner := owner) hown (mvT hZ w1) (mvT hZ w7) (mvT hZ w2) hy (mvT hZ w5) (mvT hZ w6) (backOf (W := W) hM hZ w4 w3 hf hl) i1 i3 (g := mkF m pc Ls (argsL.reverse ++ .ref a :: rest)) rfl hsize (Steps.refl _) (argsL := argsL) (rest := rest) hlen rfl (by show 2 * 0 + _ ≤ _; omega) hd (fun _ _ => ⟨has, eT, hc, hs⟩)
  dsimp only at XB l1 y1 z1 st hQ
  subst l1 y1 z1
  exact ⟨v, T', L, XB, hQ, fun t k => st.trans k⟩
theorem own_private (X : Stand p l e R s m args below meth c T locs cells slots) (hx : p.tables.exec = Jvm.exec) (hZ : Z.Warmed39 s.vm) (hown : s.vm.findClass own = some m.cls) {a : Addr} {C : String} (E : Exa Z h a C)
    (w1 : (Cond.methodLink own index y).before a0 Z = true) (w2 : (Cond.instanceMethod y).before a0 Z = true) (w5 : (Cond.selects y.cls y y).before args s = true) (w6 : (Cond.privateMethod y).before a0 Z = true) (w3 : (Cond.initialized y.cls).before a0 Z = true) (w4 : (Cond.code y bytes maxL ret).before a0 Z = true)
    (hM : OwnMet l Z y bytes maxL ret [] rm as' h Q) (eT : T.heap = h) (hsize : Ls.size = c.maxLocals) (hlen : ∀ sig, parseMethodDescriptor y.desc = some sig → argsL.length = sig.parameters.length) (hd : decode c.code pc = .ok (.invokevirtual index, 3))
    (has : (.ref a :: argsL).toArray = as' := by rfl) (hW : (rest.map fun v => v.category).sum ≤ W := by exact Nat.le_of_eq rfl) (hf : rm.frames + 1 ≤ R.frames := by decide) (hl : W + (maxL + 11) + rm.locals ≤ R.locals := by decide) (hc : cells + rm.cells ≤ R.cells := by decide) (hs : slots + rm.slots ≤ R.slots := by decide) (hy : y.cls ≠ "java/lang/invoke/MethodHandle" ∧ y.cls ≠ "java/lang/invoke/VarHandle" := by decide) :
    OwnCame p l e R s m args below meth c T locs cells slots rm Q pc (pc + 3) Ls (argsL.reverse ++ .ref a :: rest) rest := by
  obtain ⟨cq, q1, q2⟩ := E.cell
  obtain ⟨v, vm1, ⟨T', L', c', n'⟩, -, XB, ⟨L, hQ, l1, y1, z1⟩, st⟩ := X.privateBack hx (y := y) hown (mvT hZ w1) (mvT hZ w2) w5 (Cond.privateMethod_at (mvP hZ w6 (args := #[]))) (mvT hZ w4) hy (backOf (W := W) hM hZ w4 w3 hf hl) (g := mkF m pc Ls (argsL.reverse ++ .ref a :: rest)) rfl hsize (Steps.refl _) (a := a) (by rw [eT]; exact q1) q2 (argsL := argsL) (rest := rest) hlen rfl (by show 2 * 0 + _ ≤ _; omega) hd (fun _ _ => ⟨has, eT, hc, hs⟩)
  dsimp only at XB l1 y1 z1 st hQ
  subst l1 y1 z1
  exact ⟨v, T', L, XB, hQ, fun t k => st.trans k⟩
theorem own_iface (X : Stand p l e R s m args below meth c T locs cells slots) (hx : p.tables.exec = Jvm.exec) (hZ : Z.Warmed39 s.vm) (hown : s.vm.findClass own = some m.cls) {a : Addr} {C : String} {count : Nat} (E : Exa Z h a C)
    (w1 : (Cond.methodLink own index y).before a0 Z = true) (w2 : (Cond.declares y).before a0 Z = true) (w7 : (Cond.interfaceMethod y.cls y.cls y.name y.desc).before a0 Z = true) (w5 : (Cond.selects C y z).before a0 Z = true) (w6 : (Cond.instanceMethod z).before a0 Z = true) (w8 : (Cond.publicMethod z).before a0 Z = true) (w9 : (Cond.unhidden C y.name y.desc).before a0 Z = true) (wc : (Cond.castable C y.cls).before a0 Z = true) (w3 : (Cond.initialized z.cls).before a0 Z = true) (w4 : (Cond.code z bytes maxL ret).before a0 Z = true)
    (hM : OwnMet l Z z bytes maxL ret [] rm as' h Q) (eT : T.heap = h) (hsize : Ls.size = c.maxLocals) (hlen : ∀ sig, parseMethodDescriptor y.desc = some sig → argsL.length = sig.parameters.length) (hd : decode c.code pc = .ok (.invokeinterface index count, 5))
    (has : (.ref a :: argsL).toArray = as' := by rfl) (hW : (rest.map fun v => v.category).sum ≤ W := by exact Nat.le_of_eq rfl) (hf : rm.frames + 1 ≤ R.frames := by decide) (hl : W + (maxL + 11) + rm.locals ≤ R.locals := by decide) (hc : cells + rm.cells ≤ R.cells := by decide) (hs : slots + rm.slots ≤ R.slots := by decide) (hy : y.cls ≠ "java/lang/invoke/MethodHandle" ∧ y.cls ≠ "java/lang/invoke/VarHandle" := by decide) :
    OwnCame p l e R s m args below meth c T locs cells slots rm Q pc (pc + 5) Ls (argsL.reverse ++ .ref a :: rest) rest := by
  obtain ⟨cB, kB, i1, i2, i3⟩ := isOf hZ eT E
  obtain ⟨v, vm1, ⟨T', L', c', n'⟩, -, XB, ⟨L, hQ, l1, y1, z1⟩, st⟩ := X.interfaceBack hx (xi := y) (y := z) hown (mvT hZ w1) (mvT hZ w2) (mvT hZ w7 (by simp [Cond.onTables, Cond.keepsFace, Cond.keeps, Cond.steady, Cond.faceAtom, hy.1, hy.2])) (mvT hZ w5) (mvT hZ w6) (mvT hZ w8) (mvT hZ w9) (mvT hZ wc) hy (backOf (W := W) hM hZ w4 w3 hf hl) i1 i2 i3 (g := mkF m pc Ls (argsL.reverse ++ .ref a :: rest)) rfl hsize (Steps.refl _) (argsL := argsL) (rest := rest) hlen rfl (by show 2 * 0 + _ ≤ _; omega) hd (fun _ _ => ⟨has, eT, hc, hs⟩)
  dsimp only at XB l1 y1 z1 st hQ
  subst l1 y1 z1
  exact ⟨v, T', L, XB, hQ, fun t k => st.trans k⟩
theorem own_specialNest (X : Stand p l e R s m args below meth c T locs cells slots) (hx : p.tables.exec = Jvm.exec) (hZ : Z.Warmed39 s.vm) (hown : s.vm.findClass own = some m.cls) {a : Addr} {host : String}
    (w1 : (Cond.methodLinkNest own index y host).before args s = true) (w2 : (Cond.instanceMethod y).before a0 Z = true) (w3 : (Cond.initialized y.cls).before a0 Z = true) (w4 : (Cond.code y bytes maxL none).before a0 Z = true)
    (hM : OwnMet l Z y bytes maxL none [] rm as' h Q) (eT : T.heap = h) (hsize : Ls.size = c.maxLocals) (hlen : ∀ sig, parseMethodDescriptor y.desc = some sig → argsL.length = sig.parameters.length) (hd : decode c.code pc = .ok (.invokespecial index, 3))
    (has : (.ref a :: argsL).toArray = as' := by rfl) (hW : (rest.map fun v => v.category).sum ≤ W := by exact Nat.le_of_eq rfl) (hf : rm.frames + 1 ≤ R.frames := by decide) (hl : W + (maxL + 11) + rm.locals ≤ R.locals := by decide) (hc : cells + rm.cells ≤ R.cells := by decide) (hs : slots + rm.slots ≤ R.slots := by decide) (hy : y.cls ≠ "java/lang/invoke/MethodHandle" ∧ y.cls ≠ "java/lang/invoke/VarHandle" := by decide) (hy1 : y.name = "<init>" := by rfl) :
    OwnCame p l e R s m args below meth c T locs cells slots rm Q pc (pc + 3) Ls (argsL.reverse ++ .ref a :: rest) rest := by
  obtain ⟨v, vm1, ⟨T', L', c', n'⟩, -, XB, ⟨L, hQ, l1, y1, z1⟩, st⟩ := X.specialBackNest hx (y := y) hy1 hown w1 (mvT hZ w2) (mvT hZ w4) hy (backOf (W := W) hM hZ w4 w3 hf hl) (g := mkF m pc Ls (argsL.reverse ++ .ref a :: rest)) rfl hsize (Steps.refl _) (a := a) (argsL := argsL) (rest := rest) hlen rfl (by show 2 * 0 + _ ≤ _; omega) hd (fun _ _ => ⟨has, eT, hc, hs⟩)
  dsimp only at XB l1 y1 z1 st hQ
  subst l1 y1 z1
  exact ⟨v, T', L, XB, hQ, fun t k => st.trans k⟩
end Calls
theorem own_narR {v : Value} (h : v.isRef = true) {t : FieldType} (ht : t.isReference = true := by rfl) : narrow t v = v := by
  rcases ref_cases h with rfl | ⟨a, rfl⟩ <;> cases t <;> first | rfl | cases ht
theorem own_fitR {v : Value} (h : v.isRef = true) {t : FieldType} (ht : t.isReference = true := by rfl) : fits t v = true := by
  rcases ref_cases h with rfl | ⟨a, rfl⟩ <;> cases t <;> first | rfl | cases ht
theorem own_catR {v : Value} (h : v.isRef = true) : v.category = 1 := by rcases ref_cases h with rfl | ⟨a, rfl⟩ <;> rfl
theorem own_arv_of_arh {Z : State} {h : Heap} {a : Addr} {k : ClassId} {ty : FieldType} {z : Int32} {vs : List Value} {dv : Value} (F : Arh Z h a k ty z [] vs dv) : Arv Z h a k ty z vs dv := by
  obtain ⟨c, A, q, S, N, H, G⟩ := F
  exact ⟨c, A, q, S, N, H, G⟩
theorem own_getD_all (j : Nat) (d : Value) : ∀ n, (List.replicate n d).getD j d = d := by
  intro n
  simp only [List.getD_eq_getElem?_getD, List.getElem?_replicate]
  split <;> rfl
theorem own_c_nar_char (x : Int32) : ((nar .char x).toInt - x.toInt) % 65536 = 0 ∧ 0 ≤ (nar .char x).toInt ∧ (nar .char x).toInt < 65536 := c_i2c x
theorem own_c_nar_byte (x : Int32) : ((nar .byte x).toInt - x.toInt) % 256 = 0 ∧ -128 ≤ (nar .byte x).toInt ∧ (nar .byte x).toInt < 128 := c_i2b x
theorem own_mask (x m : Int32) (k : Nat) (hk : k ≤ 31) (hm : m.toBitVec.toNat = 2 ^ k - 1) (P : Int) (hP : ((2 ^ k : Nat) : Int) = P) : (x &&& m).toInt = x.toInt % P := by rw [← hP]; exact c_mask x m k hk hm
theorem own_maskL (x m : Int64) (k : Nat) (hk : k ≤ 63) (hm : m.toBitVec.toNat = 2 ^ k - 1) (P : Int) (hP : ((2 ^ k : Nat) : Int) = P) : (x &&& m).toInt = x.toInt % P := by rw [← hP]; exact c_maskL x m k hk hm
theorem own_ushr (x q : Int32) (k : Nat) (hk : q.toBitVec.toNat % 32 = k) (h0 : 0 < k) (P : Int) (hP : ((2 ^ k : Nat) : Int) = P) : ((x.toUInt32 >>> (q &&& 31).toUInt32).toInt32).toInt = (x.toInt % 4294967296) / P := by rw [← hP]; exact c_iushr x q k hk h0
theorem own_shr (x q : Int32) (k : Nat) (hk : q.toBitVec.toNat % 32 = k) (P : Int) (hP : ((2 ^ k : Nat) : Int) = P) : (x >>> (q &&& 31)).toInt = x.toInt / P := by rw [← hP]; exact c_ishr x q k hk
theorem own_irem_eq (x y : Int32) : x - (x / y) * y = x % y := by
  have h : (x - (x / y) * y).toInt = (x % y).toInt := by
    rw [Int32.toInt_sub, Int32.toInt_mul, Int32.toInt_mod, Int32.toInt_div, Int.bmod_mul_bmod, Int.sub_bmod_bmod]
    have hx := x.le_toInt; have hx' := x.toInt_lt
    have e : x.toInt - x.toInt.tdiv y.toInt * y.toInt = x.toInt.tmod y.toInt := by rw [Int.tmod_def, Int.mul_comm]
    rw [e]
    have h4 : (x.toInt.tmod y.toInt) ≤ 2147483647 := by
      by_cases hp : 0 ≤ x.toInt
      · have := Int.natAbs_tmod x.toInt y.toInt; have := Nat.mod_le x.toInt.natAbs y.toInt.natAbs; omega
      · have := Int.tmod_nonneg (a := -x.toInt) y.toInt (by omega); rw [Int.neg_tmod] at this; omega
    have h5 : -2147483648 ≤ (x.toInt.tmod y.toInt) := by
      have := Int.natAbs_tmod x.toInt y.toInt; have := Nat.mod_le x.toInt.natAbs y.toInt.natAbs; omega
    exact Int.bmod_eq_of_le (by omega) (by omega)
  exact Int32.toInt_inj.mp h
theorem own_irem (x y : Int32) (d : Int) (hy : y.toInt = d) : (0 ≤ x.toInt → (x - (x / y) * y).toInt = x.toInt % d) ∧ (x.toInt < 0 → (x - (x / y) * y).toInt = -((-x.toInt) % d)) := by rw [own_irem_eq]; exact c_irem x y d hy
end Jvm.RoadKit
namespace Jvm.FP.Core
def own_u : Nat := 2 ^ 1053
theorem own_one : one64 = 2 ^ 21 * own_u := Nat.pow_add 2 21 1053
theorem own_upos : 0 < own_u := Nat.two_pow_pos _
theorem own_V (k : Nat) (hk : k < 2 ^ 53) : ∃ V, fits b64 V ∧ V ≠ .nan ∧ zmag b64 V = k * own_u ∧ sgn V = false := by
  by_cases h0 : k = 0
  · subst h0
    exact ⟨.fin false 0 b64.qmin, ⟨by decide, by decide, by decide, Or.inl rfl⟩, nofun, by simp [zmag, inUnits], rfl⟩
  · have h1 : 2 ^ k.log2 ≤ k := Nat.log2_self_le h0
    have h2 : k < 2 ^ (k.log2 + 1) := Nat.lt_log2_self
    have h3 : k.log2 < 53 := (Nat.log2_lt h0).mpr hk
    have e0 : b64.qmin = -1074 := by decide
    have e1 : b64.qmax = 971 := by decide
    have e2 : b64.p = 53 := by decide
    have e3 : b64.tails = 2 ^ 52 := by decide
    refine ⟨.fin false (k * 2 ^ (52 - k.log2)) (-21 - (52 - (k.log2 : Int))), ⟨?_, ?_, ?_, Or.inr ?_⟩, nofun, ?_, rfl⟩
    · rw [e2]
      calc k * 2 ^ (52 - k.log2) < 2 ^ (k.log2 + 1) * 2 ^ (52 - k.log2) := Nat.mul_lt_mul_of_pos_right h2 (Nat.two_pow_pos _)
        _ = 2 ^ 53 := by rw [← Nat.pow_add]; congr 1; omega
    · rw [e0]; omega
    · rw [e1]; omega
    · rw [e3]
      calc 2 ^ 52 = 2 ^ k.log2 * 2 ^ (52 - k.log2) := by rw [← Nat.pow_add]; congr 1; omega
        _ ≤ k * 2 ^ (52 - k.log2) := Nat.mul_le_mul_right _ h1
    · show k * 2 ^ (52 - k.log2) * 2 ^ (-21 - (52 - (k.log2 : Int)) - b64.qmin).toNat = k * own_u
      rw [Nat.mul_assoc, ← Nat.pow_add, show 52 - k.log2 + (-21 - (52 - (k.log2 : Int)) - b64.qmin).toNat = 1053 by rw [e0]; omega]
      rfl
theorem own_div {a b : UInt64} {t n c : Nat} {q : Int} (ha : val64 a = .fin false c q) (hd : DInt t a) (hb : DInt n b) (hn : 0 < n) :
    val64 (ddiv a b) ≠ .nan ∧ ∃ M : Nat, zval b64 (val64 (ddiv a b)) = (M : Int) ∧ ∀ k, k < 2 ^ 53 → (k * n ≤ t * 2 ^ 21 → k * own_u ≤ M) ∧ (t * 2 ^ 21 ≤ k * n → M ≤ k * own_u) := by
  rw [val64_ddiv, ha]
  unfold DInt at hd hb
  rw [ha] at hd
  revert hb
  cases hv : val64 b with
  | nan => intro h; exact h.elim
  | inf s => intro h; exact h.elim
  | fin s d r =>
    intro hb
    have w1 : c * 2 ^ q.toNat = t * 2 ^ (-q).toNat := by
      have : ((c * 2 ^ q.toNat : Nat) : Int) = (t : Int) * ((2 ^ (-q).toNat : Nat) : Int) := hd
      exact_mod_cast this
    have hb' : signed s (d * 2 ^ r.toNat) = ((n * 2 ^ (-r).toNat : Nat) : Int) := by rw [Int.natCast_mul]; exact hb
    have pos : 0 < n * 2 ^ (-r).toNat := Nat.mul_pos hn (Nat.two_pow_pos _)
    cases s with
    | true =>
      have : -((d * 2 ^ r.toNat : Nat) : Int) = ((n * 2 ^ (-r).toNat : Nat) : Int) := hb'
      omega
    | false =>
      have w2 : d * 2 ^ r.toNat = n * 2 ^ (-r).toNat := by
        have : ((d * 2 ^ r.toNat : Nat) : Int) = ((n * 2 ^ (-r).toNat : Nat) : Int) := hb'
        exact_mod_cast this
      have d0 : d ≠ 0 := by intro z; subst z; simp at w2; omega
      have dp : 0 < d := Nat.pos_of_ne_zero d0
      have e : quotient b64 (.fin false c q) (.fin false d r) = roundRatio b64 false t n 0 := by
        show (if d = 0 then _ else roundRatio b64 _ c d (q - r)) = _
        rw [if_neg d0]
        refine roundRatio_congr dp hn ?_
        have k1 : (q - r - 0).toNat + (-q).toNat + r.toNat = (0 - (q - r)).toNat + q.toNat + (-r).toNat := by omega
        have k2 : 0 < 2 ^ (-q).toNat * 2 ^ r.toNat := Nat.mul_pos (Nat.two_pow_pos _) (Nat.two_pow_pos _)
        refine Nat.eq_of_mul_eq_mul_right k2 ?_
        calc c * n * 2 ^ (q - r - 0).toNat * (2 ^ (-q).toNat * 2 ^ r.toNat) = c * n * 2 ^ ((q - r - 0).toNat + (-q).toNat + r.toNat) := by rw [Nat.pow_add, Nat.pow_add]; ac_rfl
          _ = c * n * 2 ^ ((0 - (q - r)).toNat + q.toNat + (-r).toNat) := by rw [k1]
          _ = (c * 2 ^ q.toNat) * (n * 2 ^ (-r).toNat) * 2 ^ (0 - (q - r)).toNat := by rw [Nat.pow_add, Nat.pow_add]; ac_rfl
          _ = (t * 2 ^ (-q).toNat) * (d * 2 ^ r.toNat) * 2 ^ (0 - (q - r)).toNat := by rw [w1, w2]
          _ = t * d * 2 ^ (0 - (q - r)).toNat * (2 ^ (-q).toNat * 2 ^ r.toNat) := by ac_rfl
      rw [e]
      refine ⟨roundRatio_ne_nan _ _ _ _ _, zmag b64 (roundRatio b64 false t n 0), ?_, fun k hk => ?_⟩
      · unfold zval; rw [sgn_roundRatio]; rfl
      · obtain ⟨V, v1, v2, v3, v4⟩ := own_V k hk
        have u1 : inUnits t 0 b64.qmin = t * 2 ^ 21 * own_u := by
          show t * 2 ^ (0 - b64.qmin).toNat = _
          rw [show (0 - b64.qmin).toNat = 21 + 1053 by decide, Nat.pow_add, Nat.mul_assoc]; rfl
        have u2 : zmag b64 V * 2 ^ (b64.qmin - b64.qmin).toNat * n = k * n * own_u := by
          rw [Int.sub_self, v3]; show k * own_u * 1 * n = _; rw [Nat.mul_one]; ac_rfl
        constructor
        · intro h
          rw [← v3]
          exact zmag_roundRatio_ge good_b64 hn v1 (Int.le_refl _) (by decide) (by rw [u1, u2]; exact Nat.mul_le_mul_right _ h)
        · intro h
          rw [← v3]
          exact zmag_roundRatio_le good_b64 hn v1 v2 (Int.le_refl _) (by decide) (by rw [u1, u2]; exact Nat.mul_le_mul_right _ h)
theorem own_mean {T Q : Int64} {NI : Int32} {q n r : Nat} (hT : T.toInt = ((q * n + r : Nat) : Int)) (hQ : Q.toInt = (q : Int)) (hN : NI.toInt = (n : Int)) (hn : 0 < n) (hn' : n ≤ 2 ^ 20) (hq : q < 2 ^ 20) (hr : r < n) :
    ∃ M : Nat, (val64 (ddiv (l2d T) (i2d NI)) ≠ .nan ∧ zval b64 (val64 (ddiv (l2d T) (i2d NI))) = (M : Int)) ∧ (val64 (dneg (ddiv (l2d (-T)) (i2d NI))) ≠ .nan ∧ zval b64 (val64 (dneg (ddiv (l2d (-T)) (i2d NI)))) = (M : Int)) ∧
      (val64 (l2d Q) ≠ .nan ∧ zval b64 (val64 (l2d Q)) = ((q * 2 ^ 21 * own_u : Nat) : Int)) ∧
      (val64 (dadd (l2d Q) 0x3fe0000000000000) ≠ .nan ∧ zval b64 (val64 (dadd (l2d Q) 0x3fe0000000000000)) = (((q * 2 ^ 21 + 2 ^ 20) * own_u : Nat) : Int)) ∧
      (val64 (dadd (l2d Q) 0x3ff0000000000000) ≠ .nan ∧ zval b64 (val64 (dadd (l2d Q) 0x3ff0000000000000)) = (((q + 1) * 2 ^ 21 * own_u : Nat) : Int)) ∧
      (r = 0 → M = q * 2 ^ 21 * own_u) ∧ (0 < r → (q * 2 ^ 21 + 2) * own_u ≤ M ∧ M ≤ (q * 2 ^ 21 + 2097150) * own_u) ∧
      (2 * r < n → M ≤ (q * 2 ^ 21 + 1048575) * own_u) ∧ (n < 2 * r → (q * 2 ^ 21 + 1048577) * own_u ≤ M) ∧ (2 * r = n → M = (q * 2 ^ 21 + 1048576) * own_u) := by
  have hqn : q * n ≤ 1048575 * 1048576 := Nat.mul_le_mul (by omega) hn'
  have dT : DInt ((q * n + r : Nat) : Int) (l2d T) := by rw [← hT]; exact l2d_int (by omega)
  have dN : DInt (n : Int) (i2d NI) := by rw [← hN]; exact i2d_int NI
  have dQ : DInt (q : Int) (l2d Q) := by rw [← hQ]; exact l2d_int (by omega)
  obtain ⟨c, e, sh⟩ := l2d_shape T
  rw [show decide (T.toInt < 0) = false from decide_eq_false (by omega)] at sh
  obtain ⟨nn, M, zM, hM⟩ := own_div sh dT dN hn
  have zQ : zval b64 (val64 (l2d Q)) = ((q * 2 ^ 21 * own_u : Nat) : Int) := by
    rw [DInt_zval dQ, own_one, ← Int.natCast_mul, Nat.mul_assoc]
  have nQ := DInt_ne_nan dQ
  have k0 := hM (q * 2 ^ 21) (by omega)
  have k1 := hM (q * 2 ^ 21 + 2) (by omega)
  have k2 := hM (q * 2 ^ 21 + 2097150) (by omega)
  have k3 := hM (q * 2 ^ 21 + 1048575) (by omega)
  have k4 := hM (q * 2 ^ 21 + 1048577) (by omega)
  have k5 := hM (q * 2 ^ 21 + 1048576) (by omega)
  have e0 : q * 2 ^ 21 * n = q * n * 2097152 := by rw [Nat.mul_assoc, Nat.mul_comm (2 ^ 21) n, ← Nat.mul_assoc]
  rw [e0] at k0
  rw [Nat.add_mul, e0] at k1 k2 k3 k4 k5
  have r0 : r = 0 → M = q * 2 ^ 21 * own_u := fun h => Nat.le_antisymm (k0.2 (by omega)) (k0.1 (by omega))
  refine ⟨M, ⟨nn, zM⟩, ?_, ⟨nQ, zQ⟩, ?_, ?_, r0, fun h => ⟨k1.1 (by omega), k2.2 (by omega)⟩, fun h => k3.2 (by omega), fun h => k4.1 (by omega), fun h => Nat.le_antisymm (k5.2 (by omega)) (k5.1 (by omega))⟩
  · by_cases z : T = 0
    · subst z
      have h0 : q * n + r = 0 := by have : ((0 : Int64)).toInt = 0 := by decide
                                    omega
      have hq0 : q * n = 0 := by omega
      have hr0 : r = 0 := by omega
      have q0 : q = 0 := by rcases Nat.mul_eq_zero.mp hq0 with h | h <;> omega
      have m0 : M = 0 := by rw [r0 hr0, q0]; simp
      have e1 : (-(0 : Int64)) = 0 := by decide
      rw [e1, val64_dneg]
      refine ⟨negate_ne_nan nn, ?_⟩
      rw [zval_negate, zM, m0]; rfl
    · have e1 : dneg (ddiv (l2d (-T)) (i2d NI)) = ddiv (l2d T) (i2d NI) := by
        rw [l2d_neg z (by omega), ddiv_dneg, dneg_dneg nn]
      rw [e1]; exact ⟨nn, zM⟩
  · obtain ⟨V, v1, v2, v3, v4⟩ := own_V (q * 2 ^ 21 + 2 ^ 20) (by omega)
    have zV : zval b64 V = (((q * 2 ^ 21 + 2 ^ 20) * own_u : Nat) : Int) := by unfold zval; rw [v4, v3]; rfl
    obtain ⟨c', e', sh'⟩ := l2d_shape Q
    have hh : ∃ s c q, val64 0x3fe0000000000000 = .fin s c q := ⟨false, 2 ^ 52, -53, by decide +kernel⟩
    have zh : zval b64 (val64 0x3fe0000000000000) = ((2 ^ 20 * own_u : Nat) : Int) := by
      have e2 : val64 0x3fe0000000000000 = .fin false (2 ^ 52) (-53) := by decide +kernel
      rw [e2]
      show ((2 ^ 52 * 2 ^ (-53 - b64.qmin).toNat : Nat) : Int) = _
      rw [show (-53 - b64.qmin).toNat = 1021 by decide, ← Nat.pow_add]
      show ((2 ^ (20 + 1053) : Nat) : Int) = ((2 ^ 20 * 2 ^ 1053 : Nat) : Int)
      rw [Nat.pow_add]
    have sm : zval b64 (val64 (l2d Q)) + zval b64 (val64 0x3fe0000000000000) = zval b64 V := by
      rw [zQ, zh, zV, ← Int.natCast_add, Nat.add_mul]
    have le := sum_le good_b64 ⟨_, _, _, sh'⟩ hh (val64_fits _) (val64_fits _) v1 v2 (Int.le_of_eq sm)
    have ge := sum_ge good_b64 ⟨_, _, _, sh'⟩ hh (val64_fits _) (val64_fits _) v1 v2 (Int.le_of_eq sm.symm)
    rw [val64_dadd]
    refine ⟨?_, by rw [← zV]; exact Int.le_antisymm le ge⟩
    rw [← val64_dadd, ne_eq, ← dIsNaN_iff]
    have := dadd_out' (b := 0x3fe0000000000000) (l2d_fin Q) (by decide +kernel)
    simp [this]
  · have d1 := dadd_int dQ dint_one (by omega)
    have e2 : (4607182418800017408 : UInt64) = 0x3ff0000000000000 := by decide
    rw [e2] at d1
    refine ⟨DInt_ne_nan d1, ?_⟩
    rw [DInt_zval d1, own_one]
    have : (q : Int) + 1 = ((q + 1 : Nat) : Int) := by omega
    rw [this, ← Int.natCast_mul, Nat.mul_assoc]
theorem own_clt {a b : UInt64} (ha : val64 a ≠ .nan) (hb : val64 b ≠ .nan) (h : zval b64 (val64 a) < zval b64 (val64 b)) (o : Jvm.ClassFile.CmpOp) : Jvm.Op.cmpValue (dcmp a b) o = -1 := by
  rw [dcmp_zval ha hb, (compare_lt_iff _ _).mpr h]; rfl
theorem own_cgt {a b : UInt64} (ha : val64 a ≠ .nan) (hb : val64 b ≠ .nan) (h : zval b64 (val64 b) < zval b64 (val64 a)) (o : Jvm.ClassFile.CmpOp) : Jvm.Op.cmpValue (dcmp a b) o = 1 := by
  rw [dcmp_zval ha hb, (compare_gt_iff _ _).mpr h]; rfl
theorem own_ceq {a b : UInt64} (ha : val64 a ≠ .nan) (hb : val64 b ≠ .nan) (h : zval b64 (val64 a) = zval b64 (val64 b)) (o : Jvm.ClassFile.CmpOp) : Jvm.Op.cmpValue (dcmp a b) o = 0 := by
  rw [dcmp_zval ha hb, (compare_eq_iff _ _).mpr h]; rfl
end Jvm.FP.Core
namespace Jvm.Pilot.@@N@@
open Jvm Jvm.ClassFile Sem Op Lib Jvm.Free Jvm.Stand Jvm.LawKit Jvm.RoadKit Bundle Jvm.Pilot.@@N@@.Jvm.D
def Q0 (n0 : Nat) (v : Option Value) (h : Heap) (L : List Loc) : Prop := v = some (.int 1) ∧ Fr n0 L
theorem own_eqI {args : Array Value} {first s : State} {o : Option Outcome} {idx : List Nat} {t : Term} {n : Int32} (h : (Jvm.Cond.eq t (.int n)).value args first o s idx = some true) : t.eval args first o idx s = some (.int n) := by
  simp only [Jvm.Cond.value, Term.eval] at h
  cases ht : t.eval args first o idx s with
  | none => simp [ht] at h
  | some x => cases x <;> simp [ht] at h ⊢; exact h
theorem own_eqR {args : Array Value} {first s : State} {o : Option Outcome} {idx : List Nat} {t u : Term} {a : Addr} (h : (Jvm.Cond.eq t u).value args first o s idx = some true) (hu : u.eval args first o idx s = some (.ref a)) : t.eval args first o idx s = some (.ref a) := by
  simp only [Jvm.Cond.value, hu] at h
  cases ht : t.eval args first o idx s with
  | none => simp [ht] at h
  | some x => cases x <;> simp [ht] at h ⊢; exact h
theorem own_len {args : Array Value} {s : State} {t : Term} {n : Int32} {a : Addr} {c : Cell} {ty : FieldType} (h : (Term.length t).eval args s none [] s = some (.int n)) (ev : t.eval args s none [] s = some (.ref a)) (A : Arr s s.heap a c ty) : c.slots.size < 2 ^ 31 ∧ c.slots.size.toInt32 = n := by
  have e := Arr.fin (Vm.Alike.refl _) A
  by_cases q : c.slots.size < 2 ^ 31
  · have := (len_f ev e q).symm.trans h
    exact ⟨q, by simpa using this⟩
  · simp [Term.eval, ev, e, q] at h
open Jvm.FP.Core in
theorem own_base (p1 p2 p3 : Int32) : ∃ q n r : Nat, (((p1 &&& (1048575 : Int32)).toInt64)).toInt = (q : Int) ∧ (((((p2 &&& (1048575 : Int32)).toInt64) + (1 : Int64)).toInt32)).toInt = (n : Int) ∧ (((((p1 &&& (1048575 : Int32)).toInt64) * (((p2 &&& (1048575 : Int32)).toInt64) + (1 : Int64))) + (((p3 &&& (2147483647 : Int32)).toInt64) - (((p3 &&& (2147483647 : Int32)).toInt64) / (((p2 &&& (1048575 : Int32)).toInt64) + (1 : Int64))) * (((p2 &&& (1048575 : Int32)).toInt64) + (1 : Int64))))).toInt = ((q * n + r : Nat) : Int) ∧ 0 < n ∧ n ≤ 2 ^ 20 ∧ q < 2 ^ 20 ∧ r < n ∧ ((((p3 &&& (2147483647 : Int32)).toInt64) - (((p3 &&& (2147483647 : Int32)).toInt64) / (((p2 &&& (1048575 : Int32)).toInt64) + (1 : Int64))) * (((p2 &&& (1048575 : Int32)).toInt64) + (1 : Int64))) = (0 : Int64) ↔ r = 0) ∧ ((2 : Int64) * (((p3 &&& (2147483647 : Int32)).toInt64) - (((p3 &&& (2147483647 : Int32)).toInt64) / (((p2 &&& (1048575 : Int32)).toInt64) + (1 : Int64))) * (((p2 &&& (1048575 : Int32)).toInt64) + (1 : Int64))) < (((p2 &&& (1048575 : Int32)).toInt64) + (1 : Int64)) ↔ 2 * r < n) ∧ ((((p2 &&& (1048575 : Int32)).toInt64) + (1 : Int64)) < (2 : Int64) * (((p3 &&& (2147483647 : Int32)).toInt64) - (((p3 &&& (2147483647 : Int32)).toInt64) / (((p2 &&& (1048575 : Int32)).toInt64) + (1 : Int64))) * (((p2 &&& (1048575 : Int32)).toInt64) + (1 : Int64))) ↔ n < 2 * r) := by
  have a1 := own_mask p1 (1048575 : Int32) 20 (by decide) (by decide) 1048576 (by decide)
  have a2 := own_mask p2 (1048575 : Int32) 20 (by decide) (by decide) 1048576 (by decide)
  have a3 := own_mask p3 (2147483647 : Int32) 31 (by decide) (by decide) 2147483648 (by decide)
  have b1 := c_i2l (p1 &&& (1048575 : Int32))
  have b2 := c_i2l (p2 &&& (1048575 : Int32))
  have b3 := c_i2l (p3 &&& (2147483647 : Int32))
  have c1 := c_ladd ((p2 &&& (1048575 : Int32)).toInt64) (1 : Int64)
  have c2 : ((1 : Int64)).toInt = 1 := by decide
  have c3 := rng64 (((p2 &&& (1048575 : Int32)).toInt64) + (1 : Int64))
  have d1 := c_l2i (((p2 &&& (1048575 : Int32)).toInt64) + (1 : Int64))
  have d2 := rng32 ((((p2 &&& (1048575 : Int32)).toInt64) + (1 : Int64)).toInt32)
  have hN : ((((p2 &&& (1048575 : Int32)).toInt64) + (1 : Int64))).toInt = (p2 &&& (1048575 : Int32)).toInt + 1 := by omega
  obtain ⟨e1, -⟩ := c_lrem ((p3 &&& (2147483647 : Int32)).toInt64) (((p2 &&& (1048575 : Int32)).toInt64) + (1 : Int64)) ((p2 &&& (1048575 : Int32)).toInt + 1) hN
  have e2 := e1 (by omega)
  have e3 := Int.emod_nonneg (((p3 &&& (2147483647 : Int32)).toInt64)).toInt (b := (p2 &&& (1048575 : Int32)).toInt + 1) (by omega)
  have e4 := Int.emod_lt_of_pos (((p3 &&& (2147483647 : Int32)).toInt64)).toInt (b := (p2 &&& (1048575 : Int32)).toInt + 1) (by omega)
  rw [← e2] at e3 e4
  have f1 := c_lmul ((p1 &&& (1048575 : Int32)).toInt64) (((p2 &&& (1048575 : Int32)).toInt64) + (1 : Int64))
  have f2 := c_ladd (((p1 &&& (1048575 : Int32)).toInt64) * (((p2 &&& (1048575 : Int32)).toInt64) + (1 : Int64))) (((p3 &&& (2147483647 : Int32)).toInt64) - (((p3 &&& (2147483647 : Int32)).toInt64) / (((p2 &&& (1048575 : Int32)).toInt64) + (1 : Int64))) * (((p2 &&& (1048575 : Int32)).toInt64) + (1 : Int64)))
  have f3 := rng64 (((p1 &&& (1048575 : Int32)).toInt64) * (((p2 &&& (1048575 : Int32)).toInt64) + (1 : Int64)))
  have f4 := rng64 ((((p1 &&& (1048575 : Int32)).toInt64) * (((p2 &&& (1048575 : Int32)).toInt64) + (1 : Int64))) + (((p3 &&& (2147483647 : Int32)).toInt64) - (((p3 &&& (2147483647 : Int32)).toInt64) / (((p2 &&& (1048575 : Int32)).toInt64) + (1 : Int64))) * (((p2 &&& (1048575 : Int32)).toInt64) + (1 : Int64))))
  have g1 := c_lmul (2 : Int64) (((p3 &&& (2147483647 : Int32)).toInt64) - (((p3 &&& (2147483647 : Int32)).toInt64) / (((p2 &&& (1048575 : Int32)).toInt64) + (1 : Int64))) * (((p2 &&& (1048575 : Int32)).toInt64) + (1 : Int64)))
  have g2 : ((2 : Int64)).toInt = 2 := by decide
  rw [g2] at g1
  have g3 := rng64 ((2 : Int64) * (((p3 &&& (2147483647 : Int32)).toInt64) - (((p3 &&& (2147483647 : Int32)).toInt64) / (((p2 &&& (1048575 : Int32)).toInt64) + (1 : Int64))) * (((p2 &&& (1048575 : Int32)).toInt64) + (1 : Int64))))
  have g4 : ((0 : Int64)).toInt = 0 := by decide
  obtain ⟨q, hq⟩ := Int.eq_ofNat_of_zero_le (show 0 ≤ (((p1 &&& (1048575 : Int32)).toInt64)).toInt by omega)
  obtain ⟨n, hn⟩ := Int.eq_ofNat_of_zero_le (show 0 ≤ ((((p2 &&& (1048575 : Int32)).toInt64) + (1 : Int64))).toInt by omega)
  obtain ⟨r, hr⟩ := Int.eq_ofNat_of_zero_le e3
  have qn : q * n ≤ 1048575 * 1048576 := Nat.mul_le_mul (by omega) (by omega)
  have qi : (((p1 &&& (1048575 : Int32)).toInt64)).toInt * ((((p2 &&& (1048575 : Int32)).toInt64) + (1 : Int64))).toInt = ((q * n : Nat) : Int) := by rw [hq, hn]; rfl
  rw [qi] at f1
  refine ⟨q, n, r, hq, by omega, by omega, by omega, by omega, by omega, by omega, ?_, ?_, ?_⟩
  · constructor
    · intro h; rw [h] at hr; omega
    · intro h; exact Int64.toInt_inj.mp (by omega)
  · rw [Int64.lt_iff_toInt_lt]; omega
  · rw [Int64.lt_iff_toInt_lt]; omega
theorem own_N_ne (p2 : Int32) : ¬ ((((p2 &&& (1048575 : Int32)).toInt64) + (1 : Int64)) = (0 : Int64)) := by
  obtain ⟨q, n, r, h1, h2, h3, h4, h5, h6, h7, h8, h9, h10⟩ := own_base 0 p2 0
  intro h; rw [h] at h2
  have : ((0 : Int64).toInt32).toInt = 0 := by decide
  omega
theorem own_NI_ne (p2 : Int32) : ¬ (((((p2 &&& (1048575 : Int32)).toInt64) + (1 : Int64)).toInt32) = (0 : Int32)) := by
  obtain ⟨q, n, r, h1, h2, h3, h4, h5, h6, h7, h8, h9, h10⟩ := own_base 0 p2 0
  intro h; rw [h] at h2
  have : ((0 : Int32)).toInt = 0 := by decide
  omega
theorem own_nn {a : UInt64} (h : FP.Core.val64 a ≠ .nan) : Jvm.Free.Fl.NoNaN64 a := Jvm.Free.Fl.noNaN64_no.mpr (by
  cases e : FP.Core.dIsNaN a with
  | false => rfl
  | true => exact absurd ((FP.Core.dIsNaN_iff a).mp e) h)
theorem own_nndiv (q : Int64) (p : Int32) (h : ¬ (p = (0 : Int32))) : Jvm.Free.Fl.NoNaN64 (FP.ddiv (FP.l2d q) (FP.i2d p)) := by
  refine Jvm.Free.Fl.noNaN64_no.mpr (FP.Core.ddiv_out (FP.Core.l2d_notNaN q) ?_ ?_)
  · rw [show FP.i2d p = FP.l2d p.toInt64 from i2d_w p]; exact FP.Core.l2d_fin _
  · refine FP.Core.dnot_zero (FP.Core.DInt_ne_nan (FP.Core.i2d_int p)) ?_
    rw [FP.Core.DInt_zval (FP.Core.i2d_int p)]
    intro z
    rcases Int.mul_eq_zero.mp z with y | y
    · exact h (Int32.toInt_inj.mp y)
    · have := FP.Core.one64_pos; omega
theorem own_nnaddh (q : Int64) : Jvm.Free.Fl.NoNaN64 (FP.dadd (FP.l2d q) (4602678819172646912 : UInt64)) := Jvm.Free.Fl.noNaN64_no.mpr (FP.Core.dadd_out' (FP.Core.l2d_fin q) (by decide +kernel))
theorem own_nnadd1 (q : Int64) : Jvm.Free.Fl.NoNaN64 (FP.dadd (FP.l2d q) (4607182418800017408 : UInt64)) := Jvm.Free.Fl.noNaN64_no.mpr (FP.Core.dadd_out' (FP.Core.l2d_fin q) (by decide +kernel))
open Jvm.FP.Core in
theorem own_m_0 (p1 p2 p3 : Int32) (h0 : (((p3 &&& (2147483647 : Int32)).toInt64) - (((p3 &&& (2147483647 : Int32)).toInt64) / (((p2 &&& (1048575 : Int32)).toInt64) + (1 : Int64))) * (((p2 &&& (1048575 : Int32)).toInt64) + (1 : Int64))) = (0 : Int64)) (o : CmpOp) : cmpValue (FP.dcmp (FP.ddiv (FP.l2d ((((p1 &&& (1048575 : Int32)).toInt64) * (((p2 &&& (1048575 : Int32)).toInt64) + (1 : Int64))) + (((p3 &&& (2147483647 : Int32)).toInt64) - (((p3 &&& (2147483647 : Int32)).toInt64) / (((p2 &&& (1048575 : Int32)).toInt64) + (1 : Int64))) * (((p2 &&& (1048575 : Int32)).toInt64) + (1 : Int64))))) (FP.i2d ((((p2 &&& (1048575 : Int32)).toInt64) + (1 : Int64)).toInt32))) (FP.l2d ((p1 &&& (1048575 : Int32)).toInt64))) o = (0 : Int32) := by
  obtain ⟨q, n, r, eQ, eN, eT, n0, n1, q0, r1, b1, b2, b3⟩ := own_base p1 p2 p3
  obtain ⟨M, m1, m2, m3, m4, m5, k0, k1, k2, k3, k4⟩ := own_mean eT eQ eN n0 n1 q0 r1
  exact own_ceq m1.1 m3.1 (by rw [m1.2, m3.2, k0 (b1.mp h0)]) o
open Jvm.FP.Core in
theorem own_m_1 (p1 p2 p3 : Int32) (h0 : ¬ ((((p3 &&& (2147483647 : Int32)).toInt64) - (((p3 &&& (2147483647 : Int32)).toInt64) / (((p2 &&& (1048575 : Int32)).toInt64) + (1 : Int64))) * (((p2 &&& (1048575 : Int32)).toInt64) + (1 : Int64))) = (0 : Int64))) (o : CmpOp) : cmpValue (FP.dcmp (FP.l2d ((p1 &&& (1048575 : Int32)).toInt64)) (FP.ddiv (FP.l2d ((((p1 &&& (1048575 : Int32)).toInt64) * (((p2 &&& (1048575 : Int32)).toInt64) + (1 : Int64))) + (((p3 &&& (2147483647 : Int32)).toInt64) - (((p3 &&& (2147483647 : Int32)).toInt64) / (((p2 &&& (1048575 : Int32)).toInt64) + (1 : Int64))) * (((p2 &&& (1048575 : Int32)).toInt64) + (1 : Int64))))) (FP.i2d ((((p2 &&& (1048575 : Int32)).toInt64) + (1 : Int64)).toInt32)))) o = (-1 : Int32) := by
  obtain ⟨q, n, r, eQ, eN, eT, n0, n1, q0, r1, b1, b2, b3⟩ := own_base p1 p2 p3
  obtain ⟨M, m1, m2, m3, m4, m5, k0, k1, k2, k3, k4⟩ := own_mean eT eQ eN n0 n1 q0 r1
  exact own_clt m3.1 m1.1 (by rw [m3.2, m1.2]; exact Int.ofNat_lt.mpr (Nat.lt_of_lt_of_le (Nat.mul_lt_mul_of_pos_right (by omega) own_upos) (k1 (Nat.pos_of_ne_zero fun z => h0 (b1.mpr z))).1)) o
open Jvm.FP.Core in
theorem own_m_2 (p1 p2 p3 : Int32) (h0 : ¬ ((((p3 &&& (2147483647 : Int32)).toInt64) - (((p3 &&& (2147483647 : Int32)).toInt64) / (((p2 &&& (1048575 : Int32)).toInt64) + (1 : Int64))) * (((p2 &&& (1048575 : Int32)).toInt64) + (1 : Int64))) = (0 : Int64))) (o : CmpOp) : cmpValue (FP.dcmp (FP.ddiv (FP.l2d ((((p1 &&& (1048575 : Int32)).toInt64) * (((p2 &&& (1048575 : Int32)).toInt64) + (1 : Int64))) + (((p3 &&& (2147483647 : Int32)).toInt64) - (((p3 &&& (2147483647 : Int32)).toInt64) / (((p2 &&& (1048575 : Int32)).toInt64) + (1 : Int64))) * (((p2 &&& (1048575 : Int32)).toInt64) + (1 : Int64))))) (FP.i2d ((((p2 &&& (1048575 : Int32)).toInt64) + (1 : Int64)).toInt32))) (FP.dadd (FP.l2d ((p1 &&& (1048575 : Int32)).toInt64)) (4607182418800017408 : UInt64))) o = (-1 : Int32) := by
  obtain ⟨q, n, r, eQ, eN, eT, n0, n1, q0, r1, b1, b2, b3⟩ := own_base p1 p2 p3
  obtain ⟨M, m1, m2, m3, m4, m5, k0, k1, k2, k3, k4⟩ := own_mean eT eQ eN n0 n1 q0 r1
  exact own_clt m1.1 m5.1 (by rw [m1.2, m5.2]; exact Int.ofNat_lt.mpr (Nat.lt_of_le_of_lt (k1 (Nat.pos_of_ne_zero fun z => h0 (b1.mpr z))).2 (Nat.mul_lt_mul_of_pos_right (by omega) own_upos))) o
open Jvm.FP.Core in
theorem own_m_3 (p1 p2 p3 : Int32) (h0 : ¬ ((((p3 &&& (2147483647 : Int32)).toInt64) - (((p3 &&& (2147483647 : Int32)).toInt64) / (((p2 &&& (1048575 : Int32)).toInt64) + (1 : Int64))) * (((p2 &&& (1048575 : Int32)).toInt64) + (1 : Int64))) = (0 : Int64))) (h1 : ((2 : Int64) * (((p3 &&& (2147483647 : Int32)).toInt64) - (((p3 &&& (2147483647 : Int32)).toInt64) / (((p2 &&& (1048575 : Int32)).toInt64) + (1 : Int64))) * (((p2 &&& (1048575 : Int32)).toInt64) + (1 : Int64)))) < (((p2 &&& (1048575 : Int32)).toInt64) + (1 : Int64))) (o : CmpOp) : cmpValue (FP.dcmp (FP.l2d ((p1 &&& (1048575 : Int32)).toInt64)) (FP.ddiv (FP.l2d ((((p1 &&& (1048575 : Int32)).toInt64) * (((p2 &&& (1048575 : Int32)).toInt64) + (1 : Int64))) + (((p3 &&& (2147483647 : Int32)).toInt64) - (((p3 &&& (2147483647 : Int32)).toInt64) / (((p2 &&& (1048575 : Int32)).toInt64) + (1 : Int64))) * (((p2 &&& (1048575 : Int32)).toInt64) + (1 : Int64))))) (FP.i2d ((((p2 &&& (1048575 : Int32)).toInt64) + (1 : Int64)).toInt32)))) o = (-1 : Int32) := by
  obtain ⟨q, n, r, eQ, eN, eT, n0, n1, q0, r1, b1, b2, b3⟩ := own_base p1 p2 p3
  obtain ⟨M, m1, m2, m3, m4, m5, k0, k1, k2, k3, k4⟩ := own_mean eT eQ eN n0 n1 q0 r1
  exact own_clt m3.1 m1.1 (by rw [m3.2, m1.2]; exact Int.ofNat_lt.mpr (Nat.lt_of_lt_of_le (Nat.mul_lt_mul_of_pos_right (by omega) own_upos) (k1 (Nat.pos_of_ne_zero fun z => h0 (b1.mpr z))).1)) o
open Jvm.FP.Core in
theorem own_m_4 (p1 p2 p3 : Int32) (h0 : ¬ ((((p3 &&& (2147483647 : Int32)).toInt64) - (((p3 &&& (2147483647 : Int32)).toInt64) / (((p2 &&& (1048575 : Int32)).toInt64) + (1 : Int64))) * (((p2 &&& (1048575 : Int32)).toInt64) + (1 : Int64))) = (0 : Int64))) (h1 : ((2 : Int64) * (((p3 &&& (2147483647 : Int32)).toInt64) - (((p3 &&& (2147483647 : Int32)).toInt64) / (((p2 &&& (1048575 : Int32)).toInt64) + (1 : Int64))) * (((p2 &&& (1048575 : Int32)).toInt64) + (1 : Int64)))) < (((p2 &&& (1048575 : Int32)).toInt64) + (1 : Int64))) (o : CmpOp) : cmpValue (FP.dcmp (FP.ddiv (FP.l2d ((((p1 &&& (1048575 : Int32)).toInt64) * (((p2 &&& (1048575 : Int32)).toInt64) + (1 : Int64))) + (((p3 &&& (2147483647 : Int32)).toInt64) - (((p3 &&& (2147483647 : Int32)).toInt64) / (((p2 &&& (1048575 : Int32)).toInt64) + (1 : Int64))) * (((p2 &&& (1048575 : Int32)).toInt64) + (1 : Int64))))) (FP.i2d ((((p2 &&& (1048575 : Int32)).toInt64) + (1 : Int64)).toInt32))) (FP.dadd (FP.l2d ((p1 &&& (1048575 : Int32)).toInt64)) (4607182418800017408 : UInt64))) o = (-1 : Int32) := by
  obtain ⟨q, n, r, eQ, eN, eT, n0, n1, q0, r1, b1, b2, b3⟩ := own_base p1 p2 p3
  obtain ⟨M, m1, m2, m3, m4, m5, k0, k1, k2, k3, k4⟩ := own_mean eT eQ eN n0 n1 q0 r1
  exact own_clt m1.1 m5.1 (by rw [m1.2, m5.2]; exact Int.ofNat_lt.mpr (Nat.lt_of_le_of_lt (k1 (Nat.pos_of_ne_zero fun z => h0 (b1.mpr z))).2 (Nat.mul_lt_mul_of_pos_right (by omega) own_upos))) o
open Jvm.FP.Core in
theorem own_m_5 (p1 p2 p3 : Int32) (h0 : ¬ ((((p3 &&& (2147483647 : Int32)).toInt64) - (((p3 &&& (2147483647 : Int32)).toInt64) / (((p2 &&& (1048575 : Int32)).toInt64) + (1 : Int64))) * (((p2 &&& (1048575 : Int32)).toInt64) + (1 : Int64))) = (0 : Int64))) (h1 : ((2 : Int64) * (((p3 &&& (2147483647 : Int32)).toInt64) - (((p3 &&& (2147483647 : Int32)).toInt64) / (((p2 &&& (1048575 : Int32)).toInt64) + (1 : Int64))) * (((p2 &&& (1048575 : Int32)).toInt64) + (1 : Int64)))) < (((p2 &&& (1048575 : Int32)).toInt64) + (1 : Int64))) (o : CmpOp) : cmpValue (FP.dcmp (FP.ddiv (FP.l2d ((((p1 &&& (1048575 : Int32)).toInt64) * (((p2 &&& (1048575 : Int32)).toInt64) + (1 : Int64))) + (((p3 &&& (2147483647 : Int32)).toInt64) - (((p3 &&& (2147483647 : Int32)).toInt64) / (((p2 &&& (1048575 : Int32)).toInt64) + (1 : Int64))) * (((p2 &&& (1048575 : Int32)).toInt64) + (1 : Int64))))) (FP.i2d ((((p2 &&& (1048575 : Int32)).toInt64) + (1 : Int64)).toInt32))) (FP.dadd (FP.l2d ((p1 &&& (1048575 : Int32)).toInt64)) (4602678819172646912 : UInt64))) o = (-1 : Int32) := by
  obtain ⟨q, n, r, eQ, eN, eT, n0, n1, q0, r1, b1, b2, b3⟩ := own_base p1 p2 p3
  obtain ⟨M, m1, m2, m3, m4, m5, k0, k1, k2, k3, k4⟩ := own_mean eT eQ eN n0 n1 q0 r1
  exact own_clt m1.1 m4.1 (by rw [m1.2, m4.2]; exact Int.ofNat_lt.mpr (Nat.lt_of_le_of_lt (k2 (b2.mp h1)) (Nat.mul_lt_mul_of_pos_right (by omega) own_upos))) o
open Jvm.FP.Core in
theorem own_m_6 (p1 p2 p3 : Int32) (h0 : ¬ ((((p3 &&& (2147483647 : Int32)).toInt64) - (((p3 &&& (2147483647 : Int32)).toInt64) / (((p2 &&& (1048575 : Int32)).toInt64) + (1 : Int64))) * (((p2 &&& (1048575 : Int32)).toInt64) + (1 : Int64))) = (0 : Int64))) (h1 : ¬ (((2 : Int64) * (((p3 &&& (2147483647 : Int32)).toInt64) - (((p3 &&& (2147483647 : Int32)).toInt64) / (((p2 &&& (1048575 : Int32)).toInt64) + (1 : Int64))) * (((p2 &&& (1048575 : Int32)).toInt64) + (1 : Int64)))) < (((p2 &&& (1048575 : Int32)).toInt64) + (1 : Int64)))) (o : CmpOp) : cmpValue (FP.dcmp (FP.l2d ((p1 &&& (1048575 : Int32)).toInt64)) (FP.ddiv (FP.l2d ((((p1 &&& (1048575 : Int32)).toInt64) * (((p2 &&& (1048575 : Int32)).toInt64) + (1 : Int64))) + (((p3 &&& (2147483647 : Int32)).toInt64) - (((p3 &&& (2147483647 : Int32)).toInt64) / (((p2 &&& (1048575 : Int32)).toInt64) + (1 : Int64))) * (((p2 &&& (1048575 : Int32)).toInt64) + (1 : Int64))))) (FP.i2d ((((p2 &&& (1048575 : Int32)).toInt64) + (1 : Int64)).toInt32)))) o = (-1 : Int32) := by
  obtain ⟨q, n, r, eQ, eN, eT, n0, n1, q0, r1, b1, b2, b3⟩ := own_base p1 p2 p3
  obtain ⟨M, m1, m2, m3, m4, m5, k0, k1, k2, k3, k4⟩ := own_mean eT eQ eN n0 n1 q0 r1
  exact own_clt m3.1 m1.1 (by rw [m3.2, m1.2]; exact Int.ofNat_lt.mpr (Nat.lt_of_lt_of_le (Nat.mul_lt_mul_of_pos_right (by omega) own_upos) (k1 (Nat.pos_of_ne_zero fun z => h0 (b1.mpr z))).1)) o
open Jvm.FP.Core in
theorem own_m_7 (p1 p2 p3 : Int32) (h0 : ¬ ((((p3 &&& (2147483647 : Int32)).toInt64) - (((p3 &&& (2147483647 : Int32)).toInt64) / (((p2 &&& (1048575 : Int32)).toInt64) + (1 : Int64))) * (((p2 &&& (1048575 : Int32)).toInt64) + (1 : Int64))) = (0 : Int64))) (h1 : ¬ (((2 : Int64) * (((p3 &&& (2147483647 : Int32)).toInt64) - (((p3 &&& (2147483647 : Int32)).toInt64) / (((p2 &&& (1048575 : Int32)).toInt64) + (1 : Int64))) * (((p2 &&& (1048575 : Int32)).toInt64) + (1 : Int64)))) < (((p2 &&& (1048575 : Int32)).toInt64) + (1 : Int64)))) (o : CmpOp) : cmpValue (FP.dcmp (FP.ddiv (FP.l2d ((((p1 &&& (1048575 : Int32)).toInt64) * (((p2 &&& (1048575 : Int32)).toInt64) + (1 : Int64))) + (((p3 &&& (2147483647 : Int32)).toInt64) - (((p3 &&& (2147483647 : Int32)).toInt64) / (((p2 &&& (1048575 : Int32)).toInt64) + (1 : Int64))) * (((p2 &&& (1048575 : Int32)).toInt64) + (1 : Int64))))) (FP.i2d ((((p2 &&& (1048575 : Int32)).toInt64) + (1 : Int64)).toInt32))) (FP.dadd (FP.l2d ((p1 &&& (1048575 : Int32)).toInt64)) (4607182418800017408 : UInt64))) o = (-1 : Int32) := by
  obtain ⟨q, n, r, eQ, eN, eT, n0, n1, q0, r1, b1, b2, b3⟩ := own_base p1 p2 p3
  obtain ⟨M, m1, m2, m3, m4, m5, k0, k1, k2, k3, k4⟩ := own_mean eT eQ eN n0 n1 q0 r1
  exact own_clt m1.1 m5.1 (by rw [m1.2, m5.2]; exact Int.ofNat_lt.mpr (Nat.lt_of_le_of_lt (k1 (Nat.pos_of_ne_zero fun z => h0 (b1.mpr z))).2 (Nat.mul_lt_mul_of_pos_right (by omega) own_upos))) o
open Jvm.FP.Core in
theorem own_m_8 (p1 p2 p3 : Int32) (h0 : ¬ ((((p3 &&& (2147483647 : Int32)).toInt64) - (((p3 &&& (2147483647 : Int32)).toInt64) / (((p2 &&& (1048575 : Int32)).toInt64) + (1 : Int64))) * (((p2 &&& (1048575 : Int32)).toInt64) + (1 : Int64))) = (0 : Int64))) (h1 : ¬ (((2 : Int64) * (((p3 &&& (2147483647 : Int32)).toInt64) - (((p3 &&& (2147483647 : Int32)).toInt64) / (((p2 &&& (1048575 : Int32)).toInt64) + (1 : Int64))) * (((p2 &&& (1048575 : Int32)).toInt64) + (1 : Int64)))) < (((p2 &&& (1048575 : Int32)).toInt64) + (1 : Int64)))) (h2 : (((p2 &&& (1048575 : Int32)).toInt64) + (1 : Int64)) < ((2 : Int64) * (((p3 &&& (2147483647 : Int32)).toInt64) - (((p3 &&& (2147483647 : Int32)).toInt64) / (((p2 &&& (1048575 : Int32)).toInt64) + (1 : Int64))) * (((p2 &&& (1048575 : Int32)).toInt64) + (1 : Int64))))) (o : CmpOp) : cmpValue (FP.dcmp (FP.l2d ((p1 &&& (1048575 : Int32)).toInt64)) (FP.ddiv (FP.l2d ((((p1 &&& (1048575 : Int32)).toInt64) * (((p2 &&& (1048575 : Int32)).toInt64) + (1 : Int64))) + (((p3 &&& (2147483647 : Int32)).toInt64) - (((p3 &&& (2147483647 : Int32)).toInt64) / (((p2 &&& (1048575 : Int32)).toInt64) + (1 : Int64))) * (((p2 &&& (1048575 : Int32)).toInt64) + (1 : Int64))))) (FP.i2d ((((p2 &&& (1048575 : Int32)).toInt64) + (1 : Int64)).toInt32)))) o = (-1 : Int32) := by
  obtain ⟨q, n, r, eQ, eN, eT, n0, n1, q0, r1, b1, b2, b3⟩ := own_base p1 p2 p3
  obtain ⟨M, m1, m2, m3, m4, m5, k0, k1, k2, k3, k4⟩ := own_mean eT eQ eN n0 n1 q0 r1
  exact own_clt m3.1 m1.1 (by rw [m3.2, m1.2]; exact Int.ofNat_lt.mpr (Nat.lt_of_lt_of_le (Nat.mul_lt_mul_of_pos_right (by omega) own_upos) (k1 (Nat.pos_of_ne_zero fun z => h0 (b1.mpr z))).1)) o
open Jvm.FP.Core in
theorem own_m_9 (p1 p2 p3 : Int32) (h0 : ¬ ((((p3 &&& (2147483647 : Int32)).toInt64) - (((p3 &&& (2147483647 : Int32)).toInt64) / (((p2 &&& (1048575 : Int32)).toInt64) + (1 : Int64))) * (((p2 &&& (1048575 : Int32)).toInt64) + (1 : Int64))) = (0 : Int64))) (h1 : ¬ (((2 : Int64) * (((p3 &&& (2147483647 : Int32)).toInt64) - (((p3 &&& (2147483647 : Int32)).toInt64) / (((p2 &&& (1048575 : Int32)).toInt64) + (1 : Int64))) * (((p2 &&& (1048575 : Int32)).toInt64) + (1 : Int64)))) < (((p2 &&& (1048575 : Int32)).toInt64) + (1 : Int64)))) (h2 : (((p2 &&& (1048575 : Int32)).toInt64) + (1 : Int64)) < ((2 : Int64) * (((p3 &&& (2147483647 : Int32)).toInt64) - (((p3 &&& (2147483647 : Int32)).toInt64) / (((p2 &&& (1048575 : Int32)).toInt64) + (1 : Int64))) * (((p2 &&& (1048575 : Int32)).toInt64) + (1 : Int64))))) (o : CmpOp) : cmpValue (FP.dcmp (FP.ddiv (FP.l2d ((((p1 &&& (1048575 : Int32)).toInt64) * (((p2 &&& (1048575 : Int32)).toInt64) + (1 : Int64))) + (((p3 &&& (2147483647 : Int32)).toInt64) - (((p3 &&& (2147483647 : Int32)).toInt64) / (((p2 &&& (1048575 : Int32)).toInt64) + (1 : Int64))) * (((p2 &&& (1048575 : Int32)).toInt64) + (1 : Int64))))) (FP.i2d ((((p2 &&& (1048575 : Int32)).toInt64) + (1 : Int64)).toInt32))) (FP.dadd (FP.l2d ((p1 &&& (1048575 : Int32)).toInt64)) (4607182418800017408 : UInt64))) o = (-1 : Int32) := by
  obtain ⟨q, n, r, eQ, eN, eT, n0, n1, q0, r1, b1, b2, b3⟩ := own_base p1 p2 p3
  obtain ⟨M, m1, m2, m3, m4, m5, k0, k1, k2, k3, k4⟩ := own_mean eT eQ eN n0 n1 q0 r1
  exact own_clt m1.1 m5.1 (by rw [m1.2, m5.2]; exact Int.ofNat_lt.mpr (Nat.lt_of_le_of_lt (k1 (Nat.pos_of_ne_zero fun z => h0 (b1.mpr z))).2 (Nat.mul_lt_mul_of_pos_right (by omega) own_upos))) o
open Jvm.FP.Core in
theorem own_m_10 (p1 p2 p3 : Int32) (h0 : ¬ ((((p3 &&& (2147483647 : Int32)).toInt64) - (((p3 &&& (2147483647 : Int32)).toInt64) / (((p2 &&& (1048575 : Int32)).toInt64) + (1 : Int64))) * (((p2 &&& (1048575 : Int32)).toInt64) + (1 : Int64))) = (0 : Int64))) (h1 : ¬ (((2 : Int64) * (((p3 &&& (2147483647 : Int32)).toInt64) - (((p3 &&& (2147483647 : Int32)).toInt64) / (((p2 &&& (1048575 : Int32)).toInt64) + (1 : Int64))) * (((p2 &&& (1048575 : Int32)).toInt64) + (1 : Int64)))) < (((p2 &&& (1048575 : Int32)).toInt64) + (1 : Int64)))) (h2 : (((p2 &&& (1048575 : Int32)).toInt64) + (1 : Int64)) < ((2 : Int64) * (((p3 &&& (2147483647 : Int32)).toInt64) - (((p3 &&& (2147483647 : Int32)).toInt64) / (((p2 &&& (1048575 : Int32)).toInt64) + (1 : Int64))) * (((p2 &&& (1048575 : Int32)).toInt64) + (1 : Int64))))) (o : CmpOp) : cmpValue (FP.dcmp (FP.ddiv (FP.l2d ((((p1 &&& (1048575 : Int32)).toInt64) * (((p2 &&& (1048575 : Int32)).toInt64) + (1 : Int64))) + (((p3 &&& (2147483647 : Int32)).toInt64) - (((p3 &&& (2147483647 : Int32)).toInt64) / (((p2 &&& (1048575 : Int32)).toInt64) + (1 : Int64))) * (((p2 &&& (1048575 : Int32)).toInt64) + (1 : Int64))))) (FP.i2d ((((p2 &&& (1048575 : Int32)).toInt64) + (1 : Int64)).toInt32))) (FP.dadd (FP.l2d ((p1 &&& (1048575 : Int32)).toInt64)) (4602678819172646912 : UInt64))) o = (1 : Int32) := by
  obtain ⟨q, n, r, eQ, eN, eT, n0, n1, q0, r1, b1, b2, b3⟩ := own_base p1 p2 p3
  obtain ⟨M, m1, m2, m3, m4, m5, k0, k1, k2, k3, k4⟩ := own_mean eT eQ eN n0 n1 q0 r1
  exact own_cgt m1.1 m4.1 (by rw [m4.2, m1.2]; exact Int.ofNat_lt.mpr (Nat.lt_of_lt_of_le (Nat.mul_lt_mul_of_pos_right (by omega) own_upos) (k3 (b3.mp h2)))) o
open Jvm.FP.Core in
theorem own_m_11 (p1 p2 p3 : Int32) (h0 : ¬ ((((p3 &&& (2147483647 : Int32)).toInt64) - (((p3 &&& (2147483647 : Int32)).toInt64) / (((p2 &&& (1048575 : Int32)).toInt64) + (1 : Int64))) * (((p2 &&& (1048575 : Int32)).toInt64) + (1 : Int64))) = (0 : Int64))) (h1 : ¬ (((2 : Int64) * (((p3 &&& (2147483647 : Int32)).toInt64) - (((p3 &&& (2147483647 : Int32)).toInt64) / (((p2 &&& (1048575 : Int32)).toInt64) + (1 : Int64))) * (((p2 &&& (1048575 : Int32)).toInt64) + (1 : Int64)))) < (((p2 &&& (1048575 : Int32)).toInt64) + (1 : Int64)))) (h2 : ¬ ((((p2 &&& (1048575 : Int32)).toInt64) + (1 : Int64)) < ((2 : Int64) * (((p3 &&& (2147483647 : Int32)).toInt64) - (((p3 &&& (2147483647 : Int32)).toInt64) / (((p2 &&& (1048575 : Int32)).toInt64) + (1 : Int64))) * (((p2 &&& (1048575 : Int32)).toInt64) + (1 : Int64)))))) (o : CmpOp) : cmpValue (FP.dcmp (FP.l2d ((p1 &&& (1048575 : Int32)).toInt64)) (FP.ddiv (FP.l2d ((((p1 &&& (1048575 : Int32)).toInt64) * (((p2 &&& (1048575 : Int32)).toInt64) + (1 : Int64))) + (((p3 &&& (2147483647 : Int32)).toInt64) - (((p3 &&& (2147483647 : Int32)).toInt64) / (((p2 &&& (1048575 : Int32)).toInt64) + (1 : Int64))) * (((p2 &&& (1048575 : Int32)).toInt64) + (1 : Int64))))) (FP.i2d ((((p2 &&& (1048575 : Int32)).toInt64) + (1 : Int64)).toInt32)))) o = (-1 : Int32) := by
  obtain ⟨q, n, r, eQ, eN, eT, n0, n1, q0, r1, b1, b2, b3⟩ := own_base p1 p2 p3
  obtain ⟨M, m1, m2, m3, m4, m5, k0, k1, k2, k3, k4⟩ := own_mean eT eQ eN n0 n1 q0 r1
  exact own_clt m3.1 m1.1 (by rw [m3.2, m1.2]; exact Int.ofNat_lt.mpr (Nat.lt_of_lt_of_le (Nat.mul_lt_mul_of_pos_right (by omega) own_upos) (k1 (Nat.pos_of_ne_zero fun z => h0 (b1.mpr z))).1)) o
open Jvm.FP.Core in
theorem own_m_12 (p1 p2 p3 : Int32) (h0 : ¬ ((((p3 &&& (2147483647 : Int32)).toInt64) - (((p3 &&& (2147483647 : Int32)).toInt64) / (((p2 &&& (1048575 : Int32)).toInt64) + (1 : Int64))) * (((p2 &&& (1048575 : Int32)).toInt64) + (1 : Int64))) = (0 : Int64))) (h1 : ¬ (((2 : Int64) * (((p3 &&& (2147483647 : Int32)).toInt64) - (((p3 &&& (2147483647 : Int32)).toInt64) / (((p2 &&& (1048575 : Int32)).toInt64) + (1 : Int64))) * (((p2 &&& (1048575 : Int32)).toInt64) + (1 : Int64)))) < (((p2 &&& (1048575 : Int32)).toInt64) + (1 : Int64)))) (h2 : ¬ ((((p2 &&& (1048575 : Int32)).toInt64) + (1 : Int64)) < ((2 : Int64) * (((p3 &&& (2147483647 : Int32)).toInt64) - (((p3 &&& (2147483647 : Int32)).toInt64) / (((p2 &&& (1048575 : Int32)).toInt64) + (1 : Int64))) * (((p2 &&& (1048575 : Int32)).toInt64) + (1 : Int64)))))) (o : CmpOp) : cmpValue (FP.dcmp (FP.ddiv (FP.l2d ((((p1 &&& (1048575 : Int32)).toInt64) * (((p2 &&& (1048575 : Int32)).toInt64) + (1 : Int64))) + (((p3 &&& (2147483647 : Int32)).toInt64) - (((p3 &&& (2147483647 : Int32)).toInt64) / (((p2 &&& (1048575 : Int32)).toInt64) + (1 : Int64))) * (((p2 &&& (1048575 : Int32)).toInt64) + (1 : Int64))))) (FP.i2d ((((p2 &&& (1048575 : Int32)).toInt64) + (1 : Int64)).toInt32))) (FP.dadd (FP.l2d ((p1 &&& (1048575 : Int32)).toInt64)) (4607182418800017408 : UInt64))) o = (-1 : Int32) := by
  obtain ⟨q, n, r, eQ, eN, eT, n0, n1, q0, r1, b1, b2, b3⟩ := own_base p1 p2 p3
  obtain ⟨M, m1, m2, m3, m4, m5, k0, k1, k2, k3, k4⟩ := own_mean eT eQ eN n0 n1 q0 r1
  exact own_clt m1.1 m5.1 (by rw [m1.2, m5.2]; exact Int.ofNat_lt.mpr (Nat.lt_of_le_of_lt (k1 (Nat.pos_of_ne_zero fun z => h0 (b1.mpr z))).2 (Nat.mul_lt_mul_of_pos_right (by omega) own_upos))) o
open Jvm.FP.Core in
theorem own_m_13 (p1 p2 p3 : Int32) (h0 : ¬ ((((p3 &&& (2147483647 : Int32)).toInt64) - (((p3 &&& (2147483647 : Int32)).toInt64) / (((p2 &&& (1048575 : Int32)).toInt64) + (1 : Int64))) * (((p2 &&& (1048575 : Int32)).toInt64) + (1 : Int64))) = (0 : Int64))) (h1 : ¬ (((2 : Int64) * (((p3 &&& (2147483647 : Int32)).toInt64) - (((p3 &&& (2147483647 : Int32)).toInt64) / (((p2 &&& (1048575 : Int32)).toInt64) + (1 : Int64))) * (((p2 &&& (1048575 : Int32)).toInt64) + (1 : Int64)))) < (((p2 &&& (1048575 : Int32)).toInt64) + (1 : Int64)))) (h2 : ¬ ((((p2 &&& (1048575 : Int32)).toInt64) + (1 : Int64)) < ((2 : Int64) * (((p3 &&& (2147483647 : Int32)).toInt64) - (((p3 &&& (2147483647 : Int32)).toInt64) / (((p2 &&& (1048575 : Int32)).toInt64) + (1 : Int64))) * (((p2 &&& (1048575 : Int32)).toInt64) + (1 : Int64)))))) (o : CmpOp) : cmpValue (FP.dcmp (FP.ddiv (FP.l2d ((((p1 &&& (1048575 : Int32)).toInt64) * (((p2 &&& (1048575 : Int32)).toInt64) + (1 : Int64))) + (((p3 &&& (2147483647 : Int32)).toInt64) - (((p3 &&& (2147483647 : Int32)).toInt64) / (((p2 &&& (1048575 : Int32)).toInt64) + (1 : Int64))) * (((p2 &&& (1048575 : Int32)).toInt64) + (1 : Int64))))) (FP.i2d ((((p2 &&& (1048575 : Int32)).toInt64) + (1 : Int64)).toInt32))) (FP.dadd (FP.l2d ((p1 &&& (1048575 : Int32)).toInt64)) (4602678819172646912 : UInt64))) o = (0 : Int32) := by
  obtain ⟨q, n, r, eQ, eN, eT, n0, n1, q0, r1, b1, b2, b3⟩ := own_base p1 p2 p3
  obtain ⟨M, m1, m2, m3, m4, m5, k0, k1, k2, k3, k4⟩ := own_mean eT eQ eN n0 n1 q0 r1
  exact own_ceq m1.1 m4.1 (by rw [m1.2, m4.2, k4 (by have e1 := mt b2.mpr h1; have e2 := mt b3.mpr h2; omega)]) o
open Jvm.FP.Core in
theorem own_m_14 (p1 p2 p3 : Int32) (h0 : (((p3 &&& (2147483647 : Int32)).toInt64) - (((p3 &&& (2147483647 : Int32)).toInt64) / (((p2 &&& (1048575 : Int32)).toInt64) + (1 : Int64))) * (((p2 &&& (1048575 : Int32)).toInt64) + (1 : Int64))) = (0 : Int64)) (o : CmpOp) : cmpValue (FP.dcmp (FP.dneg (FP.ddiv (FP.l2d (-((((p1 &&& (1048575 : Int32)).toInt64) * (((p2 &&& (1048575 : Int32)).toInt64) + (1 : Int64))) + (((p3 &&& (2147483647 : Int32)).toInt64) - (((p3 &&& (2147483647 : Int32)).toInt64) / (((p2 &&& (1048575 : Int32)).toInt64) + (1 : Int64))) * (((p2 &&& (1048575 : Int32)).toInt64) + (1 : Int64)))))) (FP.i2d ((((p2 &&& (1048575 : Int32)).toInt64) + (1 : Int64)).toInt32)))) (FP.l2d ((p1 &&& (1048575 : Int32)).toInt64))) o = (0 : Int32) := by
  obtain ⟨q, n, r, eQ, eN, eT, n0, n1, q0, r1, b1, b2, b3⟩ := own_base p1 p2 p3
  obtain ⟨M, m1, m2, m3, m4, m5, k0, k1, k2, k3, k4⟩ := own_mean eT eQ eN n0 n1 q0 r1
  rw [Jvm.FP.dneg_core (Jvm.Free.Fl.noNaN64_no.mp (own_nndiv _ _ (own_NI_ne p2)))]
  exact own_ceq m2.1 m3.1 (by rw [m2.2, m3.2, k0 (b1.mp h0)]) o
open Jvm.FP.Core in
theorem own_m_15 (p1 p2 p3 : Int32) (h0 : ¬ ((((p3 &&& (2147483647 : Int32)).toInt64) - (((p3 &&& (2147483647 : Int32)).toInt64) / (((p2 &&& (1048575 : Int32)).toInt64) + (1 : Int64))) * (((p2 &&& (1048575 : Int32)).toInt64) + (1 : Int64))) = (0 : Int64))) (o : CmpOp) : cmpValue (FP.dcmp (FP.l2d ((p1 &&& (1048575 : Int32)).toInt64)) (FP.dneg (FP.ddiv (FP.l2d (-((((p1 &&& (1048575 : Int32)).toInt64) * (((p2 &&& (1048575 : Int32)).toInt64) + (1 : Int64))) + (((p3 &&& (2147483647 : Int32)).toInt64) - (((p3 &&& (2147483647 : Int32)).toInt64) / (((p2 &&& (1048575 : Int32)).toInt64) + (1 : Int64))) * (((p2 &&& (1048575 : Int32)).toInt64) + (1 : Int64)))))) (FP.i2d ((((p2 &&& (1048575 : Int32)).toInt64) + (1 : Int64)).toInt32))))) o = (-1 : Int32) := by
  obtain ⟨q, n, r, eQ, eN, eT, n0, n1, q0, r1, b1, b2, b3⟩ := own_base p1 p2 p3
  obtain ⟨M, m1, m2, m3, m4, m5, k0, k1, k2, k3, k4⟩ := own_mean eT eQ eN n0 n1 q0 r1
  rw [Jvm.FP.dneg_core (Jvm.Free.Fl.noNaN64_no.mp (own_nndiv _ _ (own_NI_ne p2)))]
  exact own_clt m3.1 m2.1 (by rw [m3.2, m2.2]; exact Int.ofNat_lt.mpr (Nat.lt_of_lt_of_le (Nat.mul_lt_mul_of_pos_right (by omega) own_upos) (k1 (Nat.pos_of_ne_zero fun z => h0 (b1.mpr z))).1)) o
open Jvm.FP.Core in
theorem own_m_16 (p1 p2 p3 : Int32) (h0 : ¬ ((((p3 &&& (2147483647 : Int32)).toInt64) - (((p3 &&& (2147483647 : Int32)).toInt64) / (((p2 &&& (1048575 : Int32)).toInt64) + (1 : Int64))) * (((p2 &&& (1048575 : Int32)).toInt64) + (1 : Int64))) = (0 : Int64))) (o : CmpOp) : cmpValue (FP.dcmp (FP.dneg (FP.ddiv (FP.l2d (-((((p1 &&& (1048575 : Int32)).toInt64) * (((p2 &&& (1048575 : Int32)).toInt64) + (1 : Int64))) + (((p3 &&& (2147483647 : Int32)).toInt64) - (((p3 &&& (2147483647 : Int32)).toInt64) / (((p2 &&& (1048575 : Int32)).toInt64) + (1 : Int64))) * (((p2 &&& (1048575 : Int32)).toInt64) + (1 : Int64)))))) (FP.i2d ((((p2 &&& (1048575 : Int32)).toInt64) + (1 : Int64)).toInt32)))) (FP.dadd (FP.l2d ((p1 &&& (1048575 : Int32)).toInt64)) (4607182418800017408 : UInt64))) o = (-1 : Int32) := by
  obtain ⟨q, n, r, eQ, eN, eT, n0, n1, q0, r1, b1, b2, b3⟩ := own_base p1 p2 p3
  obtain ⟨M, m1, m2, m3, m4, m5, k0, k1, k2, k3, k4⟩ := own_mean eT eQ eN n0 n1 q0 r1
  rw [Jvm.FP.dneg_core (Jvm.Free.Fl.noNaN64_no.mp (own_nndiv _ _ (own_NI_ne p2)))]
  exact own_clt m2.1 m5.1 (by rw [m2.2, m5.2]; exact Int.ofNat_lt.mpr (Nat.lt_of_le_of_lt (k1 (Nat.pos_of_ne_zero fun z => h0 (b1.mpr z))).2 (Nat.mul_lt_mul_of_pos_right (by omega) own_upos))) o
open Jvm.FP.Core in
theorem own_m_17 (p1 p2 p3 : Int32) (h0 : ¬ ((((p3 &&& (2147483647 : Int32)).toInt64) - (((p3 &&& (2147483647 : Int32)).toInt64) / (((p2 &&& (1048575 : Int32)).toInt64) + (1 : Int64))) * (((p2 &&& (1048575 : Int32)).toInt64) + (1 : Int64))) = (0 : Int64))) (h1 : ((2 : Int64) * (((p3 &&& (2147483647 : Int32)).toInt64) - (((p3 &&& (2147483647 : Int32)).toInt64) / (((p2 &&& (1048575 : Int32)).toInt64) + (1 : Int64))) * (((p2 &&& (1048575 : Int32)).toInt64) + (1 : Int64)))) < (((p2 &&& (1048575 : Int32)).toInt64) + (1 : Int64))) (o : CmpOp) : cmpValue (FP.dcmp (FP.l2d ((p1 &&& (1048575 : Int32)).toInt64)) (FP.dneg (FP.ddiv (FP.l2d (-((((p1 &&& (1048575 : Int32)).toInt64) * (((p2 &&& (1048575 : Int32)).toInt64) + (1 : Int64))) + (((p3 &&& (2147483647 : Int32)).toInt64) - (((p3 &&& (2147483647 : Int32)).toInt64) / (((p2 &&& (1048575 : Int32)).toInt64) + (1 : Int64))) * (((p2 &&& (1048575 : Int32)).toInt64) + (1 : Int64)))))) (FP.i2d ((((p2 &&& (1048575 : Int32)).toInt64) + (1 : Int64)).toInt32))))) o = (-1 : Int32) := by
  obtain ⟨q, n, r, eQ, eN, eT, n0, n1, q0, r1, b1, b2, b3⟩ := own_base p1 p2 p3
  obtain ⟨M, m1, m2, m3, m4, m5, k0, k1, k2, k3, k4⟩ := own_mean eT eQ eN n0 n1 q0 r1
  rw [Jvm.FP.dneg_core (Jvm.Free.Fl.noNaN64_no.mp (own_nndiv _ _ (own_NI_ne p2)))]
  exact own_clt m3.1 m2.1 (by rw [m3.2, m2.2]; exact Int.ofNat_lt.mpr (Nat.lt_of_lt_of_le (Nat.mul_lt_mul_of_pos_right (by omega) own_upos) (k1 (Nat.pos_of_ne_zero fun z => h0 (b1.mpr z))).1)) o
open Jvm.FP.Core in
theorem own_m_18 (p1 p2 p3 : Int32) (h0 : ¬ ((((p3 &&& (2147483647 : Int32)).toInt64) - (((p3 &&& (2147483647 : Int32)).toInt64) / (((p2 &&& (1048575 : Int32)).toInt64) + (1 : Int64))) * (((p2 &&& (1048575 : Int32)).toInt64) + (1 : Int64))) = (0 : Int64))) (h1 : ((2 : Int64) * (((p3 &&& (2147483647 : Int32)).toInt64) - (((p3 &&& (2147483647 : Int32)).toInt64) / (((p2 &&& (1048575 : Int32)).toInt64) + (1 : Int64))) * (((p2 &&& (1048575 : Int32)).toInt64) + (1 : Int64)))) < (((p2 &&& (1048575 : Int32)).toInt64) + (1 : Int64))) (o : CmpOp) : cmpValue (FP.dcmp (FP.dneg (FP.ddiv (FP.l2d (-((((p1 &&& (1048575 : Int32)).toInt64) * (((p2 &&& (1048575 : Int32)).toInt64) + (1 : Int64))) + (((p3 &&& (2147483647 : Int32)).toInt64) - (((p3 &&& (2147483647 : Int32)).toInt64) / (((p2 &&& (1048575 : Int32)).toInt64) + (1 : Int64))) * (((p2 &&& (1048575 : Int32)).toInt64) + (1 : Int64)))))) (FP.i2d ((((p2 &&& (1048575 : Int32)).toInt64) + (1 : Int64)).toInt32)))) (FP.dadd (FP.l2d ((p1 &&& (1048575 : Int32)).toInt64)) (4607182418800017408 : UInt64))) o = (-1 : Int32) := by
  obtain ⟨q, n, r, eQ, eN, eT, n0, n1, q0, r1, b1, b2, b3⟩ := own_base p1 p2 p3
  obtain ⟨M, m1, m2, m3, m4, m5, k0, k1, k2, k3, k4⟩ := own_mean eT eQ eN n0 n1 q0 r1
  rw [Jvm.FP.dneg_core (Jvm.Free.Fl.noNaN64_no.mp (own_nndiv _ _ (own_NI_ne p2)))]
  exact own_clt m2.1 m5.1 (by rw [m2.2, m5.2]; exact Int.ofNat_lt.mpr (Nat.lt_of_le_of_lt (k1 (Nat.pos_of_ne_zero fun z => h0 (b1.mpr z))).2 (Nat.mul_lt_mul_of_pos_right (by omega) own_upos))) o
open Jvm.FP.Core in
theorem own_m_19 (p1 p2 p3 : Int32) (h0 : ¬ ((((p3 &&& (2147483647 : Int32)).toInt64) - (((p3 &&& (2147483647 : Int32)).toInt64) / (((p2 &&& (1048575 : Int32)).toInt64) + (1 : Int64))) * (((p2 &&& (1048575 : Int32)).toInt64) + (1 : Int64))) = (0 : Int64))) (h1 : ((2 : Int64) * (((p3 &&& (2147483647 : Int32)).toInt64) - (((p3 &&& (2147483647 : Int32)).toInt64) / (((p2 &&& (1048575 : Int32)).toInt64) + (1 : Int64))) * (((p2 &&& (1048575 : Int32)).toInt64) + (1 : Int64)))) < (((p2 &&& (1048575 : Int32)).toInt64) + (1 : Int64))) (o : CmpOp) : cmpValue (FP.dcmp (FP.dneg (FP.ddiv (FP.l2d (-((((p1 &&& (1048575 : Int32)).toInt64) * (((p2 &&& (1048575 : Int32)).toInt64) + (1 : Int64))) + (((p3 &&& (2147483647 : Int32)).toInt64) - (((p3 &&& (2147483647 : Int32)).toInt64) / (((p2 &&& (1048575 : Int32)).toInt64) + (1 : Int64))) * (((p2 &&& (1048575 : Int32)).toInt64) + (1 : Int64)))))) (FP.i2d ((((p2 &&& (1048575 : Int32)).toInt64) + (1 : Int64)).toInt32)))) (FP.dadd (FP.l2d ((p1 &&& (1048575 : Int32)).toInt64)) (4602678819172646912 : UInt64))) o = (-1 : Int32) := by
  obtain ⟨q, n, r, eQ, eN, eT, n0, n1, q0, r1, b1, b2, b3⟩ := own_base p1 p2 p3
  obtain ⟨M, m1, m2, m3, m4, m5, k0, k1, k2, k3, k4⟩ := own_mean eT eQ eN n0 n1 q0 r1
  rw [Jvm.FP.dneg_core (Jvm.Free.Fl.noNaN64_no.mp (own_nndiv _ _ (own_NI_ne p2)))]
  exact own_clt m2.1 m4.1 (by rw [m2.2, m4.2]; exact Int.ofNat_lt.mpr (Nat.lt_of_le_of_lt (k2 (b2.mp h1)) (Nat.mul_lt_mul_of_pos_right (by omega) own_upos))) o
open Jvm.FP.Core in
theorem own_m_20 (p1 p2 p3 : Int32) (h0 : ¬ ((((p3 &&& (2147483647 : Int32)).toInt64) - (((p3 &&& (2147483647 : Int32)).toInt64) / (((p2 &&& (1048575 : Int32)).toInt64) + (1 : Int64))) * (((p2 &&& (1048575 : Int32)).toInt64) + (1 : Int64))) = (0 : Int64))) (h1 : ¬ (((2 : Int64) * (((p3 &&& (2147483647 : Int32)).toInt64) - (((p3 &&& (2147483647 : Int32)).toInt64) / (((p2 &&& (1048575 : Int32)).toInt64) + (1 : Int64))) * (((p2 &&& (1048575 : Int32)).toInt64) + (1 : Int64)))) < (((p2 &&& (1048575 : Int32)).toInt64) + (1 : Int64)))) (o : CmpOp) : cmpValue (FP.dcmp (FP.l2d ((p1 &&& (1048575 : Int32)).toInt64)) (FP.dneg (FP.ddiv (FP.l2d (-((((p1 &&& (1048575 : Int32)).toInt64) * (((p2 &&& (1048575 : Int32)).toInt64) + (1 : Int64))) + (((p3 &&& (2147483647 : Int32)).toInt64) - (((p3 &&& (2147483647 : Int32)).toInt64) / (((p2 &&& (1048575 : Int32)).toInt64) + (1 : Int64))) * (((p2 &&& (1048575 : Int32)).toInt64) + (1 : Int64)))))) (FP.i2d ((((p2 &&& (1048575 : Int32)).toInt64) + (1 : Int64)).toInt32))))) o = (-1 : Int32) := by
  obtain ⟨q, n, r, eQ, eN, eT, n0, n1, q0, r1, b1, b2, b3⟩ := own_base p1 p2 p3
  obtain ⟨M, m1, m2, m3, m4, m5, k0, k1, k2, k3, k4⟩ := own_mean eT eQ eN n0 n1 q0 r1
  rw [Jvm.FP.dneg_core (Jvm.Free.Fl.noNaN64_no.mp (own_nndiv _ _ (own_NI_ne p2)))]
  exact own_clt m3.1 m2.1 (by rw [m3.2, m2.2]; exact Int.ofNat_lt.mpr (Nat.lt_of_lt_of_le (Nat.mul_lt_mul_of_pos_right (by omega) own_upos) (k1 (Nat.pos_of_ne_zero fun z => h0 (b1.mpr z))).1)) o
open Jvm.FP.Core in
theorem own_m_21 (p1 p2 p3 : Int32) (h0 : ¬ ((((p3 &&& (2147483647 : Int32)).toInt64) - (((p3 &&& (2147483647 : Int32)).toInt64) / (((p2 &&& (1048575 : Int32)).toInt64) + (1 : Int64))) * (((p2 &&& (1048575 : Int32)).toInt64) + (1 : Int64))) = (0 : Int64))) (h1 : ¬ (((2 : Int64) * (((p3 &&& (2147483647 : Int32)).toInt64) - (((p3 &&& (2147483647 : Int32)).toInt64) / (((p2 &&& (1048575 : Int32)).toInt64) + (1 : Int64))) * (((p2 &&& (1048575 : Int32)).toInt64) + (1 : Int64)))) < (((p2 &&& (1048575 : Int32)).toInt64) + (1 : Int64)))) (o : CmpOp) : cmpValue (FP.dcmp (FP.dneg (FP.ddiv (FP.l2d (-((((p1 &&& (1048575 : Int32)).toInt64) * (((p2 &&& (1048575 : Int32)).toInt64) + (1 : Int64))) + (((p3 &&& (2147483647 : Int32)).toInt64) - (((p3 &&& (2147483647 : Int32)).toInt64) / (((p2 &&& (1048575 : Int32)).toInt64) + (1 : Int64))) * (((p2 &&& (1048575 : Int32)).toInt64) + (1 : Int64)))))) (FP.i2d ((((p2 &&& (1048575 : Int32)).toInt64) + (1 : Int64)).toInt32)))) (FP.dadd (FP.l2d ((p1 &&& (1048575 : Int32)).toInt64)) (4607182418800017408 : UInt64))) o = (-1 : Int32) := by
  obtain ⟨q, n, r, eQ, eN, eT, n0, n1, q0, r1, b1, b2, b3⟩ := own_base p1 p2 p3
  obtain ⟨M, m1, m2, m3, m4, m5, k0, k1, k2, k3, k4⟩ := own_mean eT eQ eN n0 n1 q0 r1
  rw [Jvm.FP.dneg_core (Jvm.Free.Fl.noNaN64_no.mp (own_nndiv _ _ (own_NI_ne p2)))]
  exact own_clt m2.1 m5.1 (by rw [m2.2, m5.2]; exact Int.ofNat_lt.mpr (Nat.lt_of_le_of_lt (k1 (Nat.pos_of_ne_zero fun z => h0 (b1.mpr z))).2 (Nat.mul_lt_mul_of_pos_right (by omega) own_upos))) o
open Jvm.FP.Core in
theorem own_m_22 (p1 p2 p3 : Int32) (h0 : ¬ ((((p3 &&& (2147483647 : Int32)).toInt64) - (((p3 &&& (2147483647 : Int32)).toInt64) / (((p2 &&& (1048575 : Int32)).toInt64) + (1 : Int64))) * (((p2 &&& (1048575 : Int32)).toInt64) + (1 : Int64))) = (0 : Int64))) (h1 : ¬ (((2 : Int64) * (((p3 &&& (2147483647 : Int32)).toInt64) - (((p3 &&& (2147483647 : Int32)).toInt64) / (((p2 &&& (1048575 : Int32)).toInt64) + (1 : Int64))) * (((p2 &&& (1048575 : Int32)).toInt64) + (1 : Int64)))) < (((p2 &&& (1048575 : Int32)).toInt64) + (1 : Int64)))) (h2 : (((p2 &&& (1048575 : Int32)).toInt64) + (1 : Int64)) < ((2 : Int64) * (((p3 &&& (2147483647 : Int32)).toInt64) - (((p3 &&& (2147483647 : Int32)).toInt64) / (((p2 &&& (1048575 : Int32)).toInt64) + (1 : Int64))) * (((p2 &&& (1048575 : Int32)).toInt64) + (1 : Int64))))) (o : CmpOp) : cmpValue (FP.dcmp (FP.l2d ((p1 &&& (1048575 : Int32)).toInt64)) (FP.dneg (FP.ddiv (FP.l2d (-((((p1 &&& (1048575 : Int32)).toInt64) * (((p2 &&& (1048575 : Int32)).toInt64) + (1 : Int64))) + (((p3 &&& (2147483647 : Int32)).toInt64) - (((p3 &&& (2147483647 : Int32)).toInt64) / (((p2 &&& (1048575 : Int32)).toInt64) + (1 : Int64))) * (((p2 &&& (1048575 : Int32)).toInt64) + (1 : Int64)))))) (FP.i2d ((((p2 &&& (1048575 : Int32)).toInt64) + (1 : Int64)).toInt32))))) o = (-1 : Int32) := by
  obtain ⟨q, n, r, eQ, eN, eT, n0, n1, q0, r1, b1, b2, b3⟩ := own_base p1 p2 p3
  obtain ⟨M, m1, m2, m3, m4, m5, k0, k1, k2, k3, k4⟩ := own_mean eT eQ eN n0 n1 q0 r1
  rw [Jvm.FP.dneg_core (Jvm.Free.Fl.noNaN64_no.mp (own_nndiv _ _ (own_NI_ne p2)))]
  exact own_clt m3.1 m2.1 (by rw [m3.2, m2.2]; exact Int.ofNat_lt.mpr (Nat.lt_of_lt_of_le (Nat.mul_lt_mul_of_pos_right (by omega) own_upos) (k1 (Nat.pos_of_ne_zero fun z => h0 (b1.mpr z))).1)) o
open Jvm.FP.Core in
theorem own_m_23 (p1 p2 p3 : Int32) (h0 : ¬ ((((p3 &&& (2147483647 : Int32)).toInt64) - (((p3 &&& (2147483647 : Int32)).toInt64) / (((p2 &&& (1048575 : Int32)).toInt64) + (1 : Int64))) * (((p2 &&& (1048575 : Int32)).toInt64) + (1 : Int64))) = (0 : Int64))) (h1 : ¬ (((2 : Int64) * (((p3 &&& (2147483647 : Int32)).toInt64) - (((p3 &&& (2147483647 : Int32)).toInt64) / (((p2 &&& (1048575 : Int32)).toInt64) + (1 : Int64))) * (((p2 &&& (1048575 : Int32)).toInt64) + (1 : Int64)))) < (((p2 &&& (1048575 : Int32)).toInt64) + (1 : Int64)))) (h2 : (((p2 &&& (1048575 : Int32)).toInt64) + (1 : Int64)) < ((2 : Int64) * (((p3 &&& (2147483647 : Int32)).toInt64) - (((p3 &&& (2147483647 : Int32)).toInt64) / (((p2 &&& (1048575 : Int32)).toInt64) + (1 : Int64))) * (((p2 &&& (1048575 : Int32)).toInt64) + (1 : Int64))))) (o : CmpOp) : cmpValue (FP.dcmp (FP.dneg (FP.ddiv (FP.l2d (-((((p1 &&& (1048575 : Int32)).toInt64) * (((p2 &&& (1048575 : Int32)).toInt64) + (1 : Int64))) + (((p3 &&& (2147483647 : Int32)).toInt64) - (((p3 &&& (2147483647 : Int32)).toInt64) / (((p2 &&& (1048575 : Int32)).toInt64) + (1 : Int64))) * (((p2 &&& (1048575 : Int32)).toInt64) + (1 : Int64)))))) (FP.i2d ((((p2 &&& (1048575 : Int32)).toInt64) + (1 : Int64)).toInt32)))) (FP.dadd (FP.l2d ((p1 &&& (1048575 : Int32)).toInt64)) (4607182418800017408 : UInt64))) o = (-1 : Int32) := by
  obtain ⟨q, n, r, eQ, eN, eT, n0, n1, q0, r1, b1, b2, b3⟩ := own_base p1 p2 p3
  obtain ⟨M, m1, m2, m3, m4, m5, k0, k1, k2, k3, k4⟩ := own_mean eT eQ eN n0 n1 q0 r1
  rw [Jvm.FP.dneg_core (Jvm.Free.Fl.noNaN64_no.mp (own_nndiv _ _ (own_NI_ne p2)))]
  exact own_clt m2.1 m5.1 (by rw [m2.2, m5.2]; exact Int.ofNat_lt.mpr (Nat.lt_of_le_of_lt (k1 (Nat.pos_of_ne_zero fun z => h0 (b1.mpr z))).2 (Nat.mul_lt_mul_of_pos_right (by omega) own_upos))) o
open Jvm.FP.Core in
theorem own_m_24 (p1 p2 p3 : Int32) (h0 : ¬ ((((p3 &&& (2147483647 : Int32)).toInt64) - (((p3 &&& (2147483647 : Int32)).toInt64) / (((p2 &&& (1048575 : Int32)).toInt64) + (1 : Int64))) * (((p2 &&& (1048575 : Int32)).toInt64) + (1 : Int64))) = (0 : Int64))) (h1 : ¬ (((2 : Int64) * (((p3 &&& (2147483647 : Int32)).toInt64) - (((p3 &&& (2147483647 : Int32)).toInt64) / (((p2 &&& (1048575 : Int32)).toInt64) + (1 : Int64))) * (((p2 &&& (1048575 : Int32)).toInt64) + (1 : Int64)))) < (((p2 &&& (1048575 : Int32)).toInt64) + (1 : Int64)))) (h2 : (((p2 &&& (1048575 : Int32)).toInt64) + (1 : Int64)) < ((2 : Int64) * (((p3 &&& (2147483647 : Int32)).toInt64) - (((p3 &&& (2147483647 : Int32)).toInt64) / (((p2 &&& (1048575 : Int32)).toInt64) + (1 : Int64))) * (((p2 &&& (1048575 : Int32)).toInt64) + (1 : Int64))))) (o : CmpOp) : cmpValue (FP.dcmp (FP.dneg (FP.ddiv (FP.l2d (-((((p1 &&& (1048575 : Int32)).toInt64) * (((p2 &&& (1048575 : Int32)).toInt64) + (1 : Int64))) + (((p3 &&& (2147483647 : Int32)).toInt64) - (((p3 &&& (2147483647 : Int32)).toInt64) / (((p2 &&& (1048575 : Int32)).toInt64) + (1 : Int64))) * (((p2 &&& (1048575 : Int32)).toInt64) + (1 : Int64)))))) (FP.i2d ((((p2 &&& (1048575 : Int32)).toInt64) + (1 : Int64)).toInt32)))) (FP.dadd (FP.l2d ((p1 &&& (1048575 : Int32)).toInt64)) (4602678819172646912 : UInt64))) o = (1 : Int32) := by
  obtain ⟨q, n, r, eQ, eN, eT, n0, n1, q0, r1, b1, b2, b3⟩ := own_base p1 p2 p3
  obtain ⟨M, m1, m2, m3, m4, m5, k0, k1, k2, k3, k4⟩ := own_mean eT eQ eN n0 n1 q0 r1
  rw [Jvm.FP.dneg_core (Jvm.Free.Fl.noNaN64_no.mp (own_nndiv _ _ (own_NI_ne p2)))]
  exact own_cgt m2.1 m4.1 (by rw [m4.2, m2.2]; exact Int.ofNat_lt.mpr (Nat.lt_of_lt_of_le (Nat.mul_lt_mul_of_pos_right (by omega) own_upos) (k3 (b3.mp h2)))) o
open Jvm.FP.Core in
theorem own_m_25 (p1 p2 p3 : Int32) (h0 : ¬ ((((p3 &&& (2147483647 : Int32)).toInt64) - (((p3 &&& (2147483647 : Int32)).toInt64) / (((p2 &&& (1048575 : Int32)).toInt64) + (1 : Int64))) * (((p2 &&& (1048575 : Int32)).toInt64) + (1 : Int64))) = (0 : Int64))) (h1 : ¬ (((2 : Int64) * (((p3 &&& (2147483647 : Int32)).toInt64) - (((p3 &&& (2147483647 : Int32)).toInt64) / (((p2 &&& (1048575 : Int32)).toInt64) + (1 : Int64))) * (((p2 &&& (1048575 : Int32)).toInt64) + (1 : Int64)))) < (((p2 &&& (1048575 : Int32)).toInt64) + (1 : Int64)))) (h2 : ¬ ((((p2 &&& (1048575 : Int32)).toInt64) + (1 : Int64)) < ((2 : Int64) * (((p3 &&& (2147483647 : Int32)).toInt64) - (((p3 &&& (2147483647 : Int32)).toInt64) / (((p2 &&& (1048575 : Int32)).toInt64) + (1 : Int64))) * (((p2 &&& (1048575 : Int32)).toInt64) + (1 : Int64)))))) (o : CmpOp) : cmpValue (FP.dcmp (FP.l2d ((p1 &&& (1048575 : Int32)).toInt64)) (FP.dneg (FP.ddiv (FP.l2d (-((((p1 &&& (1048575 : Int32)).toInt64) * (((p2 &&& (1048575 : Int32)).toInt64) + (1 : Int64))) + (((p3 &&& (2147483647 : Int32)).toInt64) - (((p3 &&& (2147483647 : Int32)).toInt64) / (((p2 &&& (1048575 : Int32)).toInt64) + (1 : Int64))) * (((p2 &&& (1048575 : Int32)).toInt64) + (1 : Int64)))))) (FP.i2d ((((p2 &&& (1048575 : Int32)).toInt64) + (1 : Int64)).toInt32))))) o = (-1 : Int32) := by
  obtain ⟨q, n, r, eQ, eN, eT, n0, n1, q0, r1, b1, b2, b3⟩ := own_base p1 p2 p3
  obtain ⟨M, m1, m2, m3, m4, m5, k0, k1, k2, k3, k4⟩ := own_mean eT eQ eN n0 n1 q0 r1
  rw [Jvm.FP.dneg_core (Jvm.Free.Fl.noNaN64_no.mp (own_nndiv _ _ (own_NI_ne p2)))]
  exact own_clt m3.1 m2.1 (by rw [m3.2, m2.2]; exact Int.ofNat_lt.mpr (Nat.lt_of_lt_of_le (Nat.mul_lt_mul_of_pos_right (by omega) own_upos) (k1 (Nat.pos_of_ne_zero fun z => h0 (b1.mpr z))).1)) o
open Jvm.FP.Core in
theorem own_m_26 (p1 p2 p3 : Int32) (h0 : ¬ ((((p3 &&& (2147483647 : Int32)).toInt64) - (((p3 &&& (2147483647 : Int32)).toInt64) / (((p2 &&& (1048575 : Int32)).toInt64) + (1 : Int64))) * (((p2 &&& (1048575 : Int32)).toInt64) + (1 : Int64))) = (0 : Int64))) (h1 : ¬ (((2 : Int64) * (((p3 &&& (2147483647 : Int32)).toInt64) - (((p3 &&& (2147483647 : Int32)).toInt64) / (((p2 &&& (1048575 : Int32)).toInt64) + (1 : Int64))) * (((p2 &&& (1048575 : Int32)).toInt64) + (1 : Int64)))) < (((p2 &&& (1048575 : Int32)).toInt64) + (1 : Int64)))) (h2 : ¬ ((((p2 &&& (1048575 : Int32)).toInt64) + (1 : Int64)) < ((2 : Int64) * (((p3 &&& (2147483647 : Int32)).toInt64) - (((p3 &&& (2147483647 : Int32)).toInt64) / (((p2 &&& (1048575 : Int32)).toInt64) + (1 : Int64))) * (((p2 &&& (1048575 : Int32)).toInt64) + (1 : Int64)))))) (o : CmpOp) : cmpValue (FP.dcmp (FP.dneg (FP.ddiv (FP.l2d (-((((p1 &&& (1048575 : Int32)).toInt64) * (((p2 &&& (1048575 : Int32)).toInt64) + (1 : Int64))) + (((p3 &&& (2147483647 : Int32)).toInt64) - (((p3 &&& (2147483647 : Int32)).toInt64) / (((p2 &&& (1048575 : Int32)).toInt64) + (1 : Int64))) * (((p2 &&& (1048575 : Int32)).toInt64) + (1 : Int64)))))) (FP.i2d ((((p2 &&& (1048575 : Int32)).toInt64) + (1 : Int64)).toInt32)))) (FP.dadd (FP.l2d ((p1 &&& (1048575 : Int32)).toInt64)) (4607182418800017408 : UInt64))) o = (-1 : Int32) := by
  obtain ⟨q, n, r, eQ, eN, eT, n0, n1, q0, r1, b1, b2, b3⟩ := own_base p1 p2 p3
  obtain ⟨M, m1, m2, m3, m4, m5, k0, k1, k2, k3, k4⟩ := own_mean eT eQ eN n0 n1 q0 r1
  rw [Jvm.FP.dneg_core (Jvm.Free.Fl.noNaN64_no.mp (own_nndiv _ _ (own_NI_ne p2)))]
  exact own_clt m2.1 m5.1 (by rw [m2.2, m5.2]; exact Int.ofNat_lt.mpr (Nat.lt_of_le_of_lt (k1 (Nat.pos_of_ne_zero fun z => h0 (b1.mpr z))).2 (Nat.mul_lt_mul_of_pos_right (by omega) own_upos))) o
open Jvm.FP.Core in
theorem own_m_27 (p1 p2 p3 : Int32) (h0 : ¬ ((((p3 &&& (2147483647 : Int32)).toInt64) - (((p3 &&& (2147483647 : Int32)).toInt64) / (((p2 &&& (1048575 : Int32)).toInt64) + (1 : Int64))) * (((p2 &&& (1048575 : Int32)).toInt64) + (1 : Int64))) = (0 : Int64))) (h1 : ¬ (((2 : Int64) * (((p3 &&& (2147483647 : Int32)).toInt64) - (((p3 &&& (2147483647 : Int32)).toInt64) / (((p2 &&& (1048575 : Int32)).toInt64) + (1 : Int64))) * (((p2 &&& (1048575 : Int32)).toInt64) + (1 : Int64)))) < (((p2 &&& (1048575 : Int32)).toInt64) + (1 : Int64)))) (h2 : ¬ ((((p2 &&& (1048575 : Int32)).toInt64) + (1 : Int64)) < ((2 : Int64) * (((p3 &&& (2147483647 : Int32)).toInt64) - (((p3 &&& (2147483647 : Int32)).toInt64) / (((p2 &&& (1048575 : Int32)).toInt64) + (1 : Int64))) * (((p2 &&& (1048575 : Int32)).toInt64) + (1 : Int64)))))) (o : CmpOp) : cmpValue (FP.dcmp (FP.dneg (FP.ddiv (FP.l2d (-((((p1 &&& (1048575 : Int32)).toInt64) * (((p2 &&& (1048575 : Int32)).toInt64) + (1 : Int64))) + (((p3 &&& (2147483647 : Int32)).toInt64) - (((p3 &&& (2147483647 : Int32)).toInt64) / (((p2 &&& (1048575 : Int32)).toInt64) + (1 : Int64))) * (((p2 &&& (1048575 : Int32)).toInt64) + (1 : Int64)))))) (FP.i2d ((((p2 &&& (1048575 : Int32)).toInt64) + (1 : Int64)).toInt32)))) (FP.dadd (FP.l2d ((p1 &&& (1048575 : Int32)).toInt64)) (4602678819172646912 : UInt64))) o = (0 : Int32) := by
  obtain ⟨q, n, r, eQ, eN, eT, n0, n1, q0, r1, b1, b2, b3⟩ := own_base p1 p2 p3
  obtain ⟨M, m1, m2, m3, m4, m5, k0, k1, k2, k3, k4⟩ := own_mean eT eQ eN n0 n1 q0 r1
  rw [Jvm.FP.dneg_core (Jvm.Free.Fl.noNaN64_no.mp (own_nndiv _ _ (own_NI_ne p2)))]
  exact own_ceq m2.1 m4.1 (by rw [m2.2, m4.2, k4 (by have e1 := mt b2.mpr h1; have e2 := mt b3.mpr h2; omega)]) o
theorem w_0 {a0 : Array Value} {Z : State} (hw : ∀ d ∈ tables_1, d.before a0 Z = true) : Jvm.Cond.before (Jvm.Cond.classLink "com/example/senret/senret/IndexStatisticsMeanLengthPinLaw" (7 : Nat) "com/example/senret/senret/IndexStatistics") a0 Z = true := hw _ (List.mem_of_getElem? (i := 0) rfl)
theorem w_1 {a0 : Array Value} {Z : State} (hw : ∀ d ∈ tables_1, d.before a0 Z = true) : Jvm.Cond.before (Jvm.Cond.instantiable "com/example/senret/senret/IndexStatistics" (2 : Nat)) a0 Z = true := hw _ (List.mem_of_getElem? (i := 1) rfl)
theorem w_2 {a0 : Array Value} {Z : State} (hw : ∀ d ∈ tables_1, d.before a0 Z = true) : Jvm.Cond.before (Jvm.Cond.initialized "com/example/senret/senret/IndexStatistics") a0 Z = true := hw _ (List.mem_of_getElem? (i := 2) rfl)
theorem w_15 {a0 : Array Value} {Z : State} (hw : ∀ d ∈ tables_1, d.before a0 Z = true) : Jvm.Cond.before (Jvm.Cond.laysFinal "com/example/senret/senret/IndexStatistics" "com/example/senret/senret/IndexStatistics" "termCount" "J") a0 Z = true := hw _ (List.mem_of_getElem? (i := 15) rfl)
theorem w_17 {a0 : Array Value} {Z : State} (hw : ∀ d ∈ tables_1, d.before a0 Z = true) : Jvm.Cond.before (Jvm.Cond.laysFinal "com/example/senret/senret/IndexStatistics" "com/example/senret/senret/IndexStatistics" "sentenceCount" "I") a0 Z = true := hw _ (List.mem_of_getElem? (i := 17) rfl)
theorem d1_0 : decode prog_5_method_1_code 0 = .ok (.aload_n 0, 1) := by decide +kernel
theorem d1_1 : decode prog_5_method_1_code 1 = .ok (.invokespecial 1, 3) := by decide +kernel
theorem d2_0 : decode jdk_30_method_1_code 0 = .ok (.aload_n 0, 1) := by decide +kernel
theorem d2_1 : decode jdk_30_method_1_code 1 = .ok (.invokespecial 1, 3) := by decide +kernel
theorem w_11 {a0 : Array Value} {Z : State} (hw : ∀ d ∈ tables_1, d.before a0 Z = true) : Jvm.Cond.before (Jvm.Cond.methodLink "java/lang/Record" (1 : Nat) ({ cls := "java/lang/Object", name := "<init>", desc := "()V" } : Jvm.MethodName)) a0 Z = true := hw _ (List.mem_of_getElem? (i := 11) rfl)
theorem w_12 {a0 : Array Value} {Z : State} (hw : ∀ d ∈ tables_1, d.before a0 Z = true) : Jvm.Cond.before (Jvm.Cond.instanceMethod ({ cls := "java/lang/Object", name := "<init>", desc := "()V" } : Jvm.MethodName)) a0 Z = true := hw _ (List.mem_of_getElem? (i := 12) rfl)
theorem w_13 {a0 : Array Value} {Z : State} (hw : ∀ d ∈ tables_1, d.before a0 Z = true) : Jvm.Cond.before (Jvm.Cond.code ({ cls := "java/lang/Object", name := "<init>", desc := "()V" } : Jvm.MethodName) object_method_1_code (1 : Nat) (Option.none : Option Jvm.ClassFile.FieldType)) a0 Z = true := hw _ (List.mem_of_getElem? (i := 13) rfl)
theorem d2_4 : decode jdk_30_method_1_code 4 = .ok (.return_, 1) := by decide +kernel
abbrev y_0 : MethodName := ⟨"java/lang/Record", "<init>", "()V"⟩
theorem pn_0 : plainName "java/lang/Record" = true := by first | (simp [plainName, overriddenIn]; done) | decide +kernel
-- java/lang/Record.<init>()V
abbrev Rm1 : Room := { frames := 1, cells := 0, slots := 0, locals := 12 }
def Q1 (Z : State) (a1 : Addr) (h0 : Heap) (n0 : Nat) (v : Option Value) (h : Heap) (L : List Loc) : Prop := v = none ∧ Fr n0 L ∧ h = h0
theorem ef1 (a1 : Addr) (m : MethodId) : entryFrame m #[(.ref a1)] 1 = mkF m 0 #[.val (.ref a1)] [] := by first | (simp [entryFrame, mkF, argsToLocals, Value.category]; done) | rfl
theorem rm1 (l : Launch) (Z : State) (a0 : Array Value) (hw : ∀ d ∈ tables_1, d.before a0 Z = true) (ws : List Jvm.Cond) (a1 : Addr) (h0 : Heap) (n0 : Nat) (Z0 : n0 ≤ h0.size) :
    OwnMet l Z y_0 jdk_30_method_1_code 1 none ws Rm1 #[(.ref a1)] h0 (Q1 Z a1 h0 n0) := by
  refine own_body (plainFor_of_name pn_0) (ef1 a1) ?_
  intro p e s m below meth c s₁ hx hby hml hown hnm hret hZ X0 e0
  have N0 := Fr.nil n0
  obtain ⟨T2, X2, e2, st2⟩ := initO X0 hx hZ hown (w_11 hw) (w_12 hw) (w_13 hw) e0 (g := (mkF m 1 #[.val (.ref a1)] [(.ref a1)])) rfl (by rw [hml]; rfl) rfl (hb hby d2_1) (by decide) (W := 0) (by show 2 * 0 + _ ≤ _; exact Nat.le_of_eq rfl) (by decide)
  refine ⟨T2, _, _, _, none, X2, (fun _ => rfl), by decide, by decide, ?_, fun fs hr => ?_⟩
  · show Q1 Z a1 h0 n0 _ T2.heap _
    rw [e2]
    exact ⟨rfl, N0, rfl⟩
  · show Steps p.tables e below (s₁.setTop (mkF m 0 #[.val (.ref a1)] [])) _
    refine XS.aloadN X0.here hx rfl (hb hby d2_0) rfl rfl ?_
    refine st2 _ ?_
    exact X2.returnOut hx hret (hb hby d2_4) hr
theorem pd_0 : parseMethodDescriptor "()V" = some ⟨[], none⟩ := by decide +kernel
theorem w_9 {a0 : Array Value} {Z : State} (hw : ∀ d ∈ tables_1, d.before a0 Z = true) : Jvm.Cond.before (Jvm.Cond.initialized "java/lang/Record") a0 Z = true := hw _ (List.mem_of_getElem? (i := 9) rfl)
theorem w_10 {a0 : Array Value} {Z : State} (hw : ∀ d ∈ tables_1, d.before a0 Z = true) : Jvm.Cond.before (Jvm.Cond.code ({ cls := "java/lang/Record", name := "<init>", desc := "()V" } : Jvm.MethodName) jdk_30_method_1_code (1 : Nat) (Option.none : Option Jvm.ClassFile.FieldType)) a0 Z = true := hw _ (List.mem_of_getElem? (i := 10) rfl)
theorem w_6 {a0 : Array Value} {Z : State} (hw : ∀ d ∈ tables_1, d.before a0 Z = true) : Jvm.Cond.before (Jvm.Cond.methodLink "com/example/senret/senret/IndexStatistics" (1 : Nat) ({ cls := "java/lang/Record", name := "<init>", desc := "()V" } : Jvm.MethodName)) a0 Z = true := hw _ (List.mem_of_getElem? (i := 6) rfl)
theorem w_7 {a0 : Array Value} {Z : State} (hw : ∀ d ∈ tables_1, d.before a0 Z = true) : Jvm.Cond.before (Jvm.Cond.instanceMethod ({ cls := "java/lang/Record", name := "<init>", desc := "()V" } : Jvm.MethodName)) a0 Z = true := hw _ (List.mem_of_getElem? (i := 7) rfl)
theorem d1_4 : decode prog_5_method_1_code 4 = .ok (.aload_n 0, 1) := by decide +kernel
theorem d1_5 : decode prog_5_method_1_code 5 = .ok (.lload_n 1, 1) := by decide +kernel
theorem d1_6 : decode prog_5_method_1_code 6 = .ok (.putfield 7, 3) := by decide +kernel
theorem w_14 {a0 : Array Value} {Z : State} (hw : ∀ d ∈ tables_1, d.before a0 Z = true) : Jvm.Cond.before (Jvm.Cond.fieldLink "com/example/senret/senret/IndexStatistics" (7 : Nat) "com/example/senret/senret/IndexStatistics" "termCount" "J") a0 Z = true := hw _ (List.mem_of_getElem? (i := 14) rfl)
theorem d1_9 : decode prog_5_method_1_code 9 = .ok (.aload_n 0, 1) := by decide +kernel
theorem d1_10 : decode prog_5_method_1_code 10 = .ok (.iload_n 3, 1) := by decide +kernel
theorem d1_11 : decode prog_5_method_1_code 11 = .ok (.putfield 13, 3) := by decide +kernel
theorem w_16 {a0 : Array Value} {Z : State} (hw : ∀ d ∈ tables_1, d.before a0 Z = true) : Jvm.Cond.before (Jvm.Cond.fieldLink "com/example/senret/senret/IndexStatistics" (13 : Nat) "com/example/senret/senret/IndexStatistics" "sentenceCount" "I") a0 Z = true := hw _ (List.mem_of_getElem? (i := 16) rfl)
theorem d1_14 : decode prog_5_method_1_code 14 = .ok (.return_, 1) := by decide +kernel
abbrev y_1 : MethodName := ⟨"com/example/senret/senret/IndexStatistics", "<init>", "(JI)V"⟩
theorem pn_1 : plainName "com/example/senret/senret/IndexStatistics" = true := by first | (simp [plainName, overriddenIn]; done) | decide +kernel
-- com/example/senret/senret/IndexStatistics.<init>(JI)V
abbrev Rm2 : Room := { frames := 2, cells := 0, slots := 0, locals := 24 }
def Q2 (Z : State) (a1 : Addr) (q2 : Int64) (h0 : Heap) (n0 : Nat) (v : Option Value) (h : Heap) (L : List Loc) : Prop := v = none ∧ Fr n0 L ∧ Keep h0 h [a1] ∧ Exa Z h a1 "com/example/senret/senret/IndexStatistics" ∧ Fld Z h a1 "com/example/senret/senret/IndexStatistics" "sentenceCount" "I" (.int (0 : Int32)) ∧ Fld Z h a1 "com/example/senret/senret/IndexStatistics" "termCount" "J" (.long q2)
theorem ef2 (a1 : Addr) (q2 : Int64) (m : MethodId) : entryFrame m #[(.ref a1), (.long q2), (.int (0 : Int32))] 4 = mkF m 0 #[.val (.ref a1), .val (.long q2), .second, .val (.int (0 : Int32))] [] := by first | (simp [entryFrame, mkF, argsToLocals, Value.category]; done) | rfl
theorem rm2 (l : Launch) (Z : State) (a0 : Array Value) (hw : ∀ d ∈ tables_1, d.before a0 Z = true) (ws : List Jvm.Cond) (a1 : Addr) (q2 : Int64) (h0 : Heap) (n0 : Nat) (Z0 : n0 ≤ h0.size) (F_termCount_a1 : Fld Z h0 a1 "com/example/senret/senret/IndexStatistics" "termCount" "J" (.long (0 : Int64))) (E_a1 : Exa Z h0 a1 "com/example/senret/senret/IndexStatistics") (g_a1 : n0 ≤ a1) (F_sentenceCount_a1 : Fld Z h0 a1 "com/example/senret/senret/IndexStatistics" "sentenceCount" "I" (.int (0 : Int32))) :
    OwnMet l Z y_1 prog_5_method_1_code 4 none ws Rm2 #[(.ref a1), (.long q2), (.int (0 : Int32))] h0 (Q2 Z a1 q2 h0 n0) := by
  refine own_body (plainFor_of_name pn_1) (ef2 a1 q2) ?_
  intro p e s m below meth c s₁ hx hby hml hown hnm hret hZ X0 e0
  have N0 := Fr.nil n0
  obtain ⟨_, T3, L3, X3, hQ3, st3⟩ := own_special X0 hx hZ hown (y := y_0) (a := a1) (w_6 hw) (w_7 hw) (w_9 hw) (w_10 hw) (rm1 l Z a0 hw [] a1 h0 n0 Z0) e0 (Ls := #[.val (.ref a1), .val (.long q2), .second, .val (.int (0 : Int32))]) (by rw [hml]; rfl) (argsL := []) (rest := []) (lenOf pd_0 rfl) (hb hby d1_1) (W := 0)
  obtain ⟨rfl, Nq3, e3⟩ := hQ3
  have N3 := Fr.app N0 Nq3
  obtain ⟨T4, h4, X4, e4, W4, st4⟩ := putF X3 hx hZ hown (host := "") (Or.inl (w_14 hw)) Via.refl e3 F_termCount_a1 E_a1 (Or.inr ⟨(w_15 hw), rfl, hnm⟩) (w_1 hw) (ty := .long) (by decide) rfl rfl (g := (mkF m 6 #[.val (.ref a1), .val (.long q2), .second, .val (.int (0 : Int32))] [(.long q2), (.ref a1)])) rfl rfl (hb hby d1_6)
  have s0 := (Keep.of_wr W4).1
  have N4 := Fr.snoc X4 N3 g_a1
  have Fw4 : Fld Z h4 a1 "com/example/senret/senret/IndexStatistics" "termCount" "J" (.long q2) := F_termCount_a1.same W4
  have Ex5 := (E_a1.wr W4)
  have Fl6 := (F_sentenceCount_a1.other W4 (Or.inr (slot_ne (Or.inr (w_17 hw)) (Or.inr (w_15 hw)) (by decide) (t := .int) (t' := .long) (by decide) (by decide))))
  obtain ⟨T7, h7, X7, e7, W7, st7⟩ := putF X4 hx hZ hown (host := "") (Or.inl (w_16 hw)) Via.refl e4 Fl6 Ex5 (Or.inr ⟨(w_17 hw), rfl, hnm⟩) (w_1 hw) (ty := .int) (by decide) rfl rfl (g := (mkF m 11 #[.val (.ref a1), .val (.long q2), .second, .val (.int (0 : Int32))] [(.int (0 : Int32)), (.ref a1)])) rfl rfl (hb hby d1_11)
  have s1 := (Keep.of_wr W7).1
  have N7 := Fr.snoc X7 N4 g_a1
  have Fw7 : Fld Z h7 a1 "com/example/senret/senret/IndexStatistics" "sentenceCount" "I" (.int (0 : Int32)) := Fl6.same W7
  have Ex8 := (Ex5.wr W7)
  have Fl9 := (Fw4.other W7 (Or.inr (slot_ne (Or.inr (w_15 hw)) (Or.inr (w_17 hw)) (by decide) (t := .long) (t' := .int) (by decide) (by decide))))
  have Kp0 : Keep h0 h4 [a1] := (Keep.refl h0 [a1]).wr W4 (Or.inl (List.mem_of_getElem? (i := 0) rfl))
  have Kp1 : Keep h0 h7 [a1] := Kp0.wr W7 (Or.inl (List.mem_of_getElem? (i := 0) rfl))
  refine ⟨T7, _, _, _, none, X7, (fun _ => rfl), by decide, by decide, ?_, fun fs hr => ?_⟩
  · show Q2 Z a1 q2 h0 n0 _ T7.heap _
    rw [e7]
    exact ⟨rfl, N7, Kp1, Ex8, Fw7, Fl9⟩
  · show Steps p.tables e below (s₁.setTop (mkF m 0 #[.val (.ref a1), .val (.long q2), .second, .val (.int (0 : Int32))] [])) _
    refine XS.aloadN X0.here hx rfl (hb hby d1_0) rfl rfl ?_
    refine st3 _ ?_
    refine XS.aloadN X3.here hx rfl (hb hby d1_4) rfl rfl ?_
    refine XS.lloadN X3.here hx rfl (hb hby d1_5) rfl ?_
    refine st4 _ ?_
    refine XS.aloadN X4.here hx rfl (hb hby d1_9) rfl rfl ?_
    refine XS.iloadN X4.here hx rfl (hb hby d1_10) rfl ?_
    refine st7 _ ?_
    exact X7.returnOut hx hret (hb hby d1_14) hr
theorem pd_1 : parseMethodDescriptor "(JI)V" = some ⟨[.long, .int], none⟩ := by decide +kernel
theorem w_5 {a0 : Array Value} {Z : State} (hw : ∀ d ∈ tables_1, d.before a0 Z = true) : Jvm.Cond.before (Jvm.Cond.code ({ cls := "com/example/senret/senret/IndexStatistics", name := "<init>", desc := "(JI)V" } : Jvm.MethodName) prog_5_method_1_code (4 : Nat) (Option.none : Option Jvm.ClassFile.FieldType)) a0 Z = true := hw _ (List.mem_of_getElem? (i := 5) rfl)
theorem w_3 {a0 : Array Value} {Z : State} (hw : ∀ d ∈ tables_1, d.before a0 Z = true) : Jvm.Cond.before (Jvm.Cond.methodLink "com/example/senret/senret/IndexStatisticsMeanLengthPinLaw" (9 : Nat) ({ cls := "com/example/senret/senret/IndexStatistics", name := "<init>", desc := "(JI)V" } : Jvm.MethodName)) a0 Z = true := hw _ (List.mem_of_getElem? (i := 3) rfl)
theorem w_4 {a0 : Array Value} {Z : State} (hw : ∀ d ∈ tables_1, d.before a0 Z = true) : Jvm.Cond.before (Jvm.Cond.instanceMethod ({ cls := "com/example/senret/senret/IndexStatistics", name := "<init>", desc := "(JI)V" } : Jvm.MethodName)) a0 Z = true := hw _ (List.mem_of_getElem? (i := 4) rfl)
theorem d4_0 : decode prog_5_method_2_code 0 = .ok (.aload_n 0, 1) := by decide +kernel
theorem d4_1 : decode prog_5_method_2_code 1 = .ok (.getfield 13, 3) := by decide +kernel
theorem d4_4 : decode prog_5_method_2_code 4 = .ok (.ifCond .ne 7, 3) := by decide +kernel
theorem d4_7 : decode prog_5_method_2_code 7 = .ok (.dconst 0, 1) := by decide +kernel
theorem d4_8 : decode prog_5_method_2_code 8 = .ok (.goto 14, 3) := by decide +kernel
theorem d4_22 : decode prog_5_method_2_code 22 = .ok (.dreturn, 1) := by decide +kernel
abbrev y_2 : MethodName := ⟨"com/example/senret/senret/IndexStatistics", "meanLength", "()D"⟩
-- com/example/senret/senret/IndexStatistics.meanLength()D
abbrev Rm3 : Room := { frames := 0, cells := 0, slots := 0, locals := 0 }
def Q3 (Z : State) (a1 : Addr) (h0 : Heap) (n0 : Nat) (v : Option Value) (h : Heap) (L : List Loc) : Prop := v = some (.double (0 : UInt64)) ∧ Fr n0 L ∧ h = h0
theorem ef3 (a1 : Addr) (m : MethodId) : entryFrame m #[(.ref a1)] 1 = mkF m 0 #[.val (.ref a1)] [] := by first | (simp [entryFrame, mkF, argsToLocals, Value.category]; done) | rfl
theorem rm3 (l : Launch) (Z : State) (a0 : Array Value) (hw : ∀ d ∈ tables_1, d.before a0 Z = true) (ws : List Jvm.Cond) (a1 : Addr) (h0 : Heap) (n0 : Nat) (Z0 : n0 ≤ h0.size) (F_sentenceCount_a1 : Fld Z h0 a1 "com/example/senret/senret/IndexStatistics" "sentenceCount" "I" (.int (0 : Int32))) :
    OwnMet l Z y_2 prog_5_method_2_code 1 (some .double) ws Rm3 #[(.ref a1)] h0 (Q3 Z a1 h0 n0) := by
  refine own_body (plainFor_of_name pn_1) (ef3 a1) ?_
  intro p e s m below meth c s₁ hx hby hml hown hnm hret hZ X0 e0
  have N0 := Fr.nil n0
  obtain ⟨T2, X2, e2, st2⟩ := getF X0 hx hZ hown (host := "") (Or.inl (w_16 hw)) Via.refl e0 F_sentenceCount_a1 (g := (mkF m 1 #[.val (.ref a1)] [(.ref a1)])) rfl rfl (hb hby d4_1)
  refine ⟨T2, _, _, _, (some (.double (0 : UInt64))), X2, nofun, by decide, by decide, ?_, fun fs hr => ?_⟩
  · show Q3 Z a1 h0 n0 _ T2.heap _
    rw [e2]
    exact ⟨rfl, N0, rfl⟩
  · show Steps p.tables e below (s₁.setTop (mkF m 0 #[.val (.ref a1)] [])) _
    refine XS.aloadN X0.here hx rfl (hb hby d4_0) rfl rfl ?_
    refine st2 _ ?_
    refine XS.ifNo X2.here hx rfl (hb hby d4_4) rfl ((if0 _ _).trans (teq ((by decide : (0 : Int32) = (0 : Int32)) : (0 : Int32) = (0 : Int32))).2) ?_
    refine XS.dconst0 X2.here hx rfl (hb hby d4_7) rfl ?_
    refine XS.goto X2.here hx rfl (pc0 := 8) (pc' := 22) rfl (hb hby d4_8) (by decide) (by decide) ?_
    exact retOut X2 hx hret rfl (Or.inr (Or.inr (Or.inl ⟨rfl, rfl, _, rfl⟩))) (hb hby d4_22) hr
theorem pd_2 : parseMethodDescriptor "()D" = some ⟨[], some .double⟩ := by decide +kernel
theorem w_22 {a0 : Array Value} {Z : State} (hw : ∀ d ∈ tables_1, d.before a0 Z = true) : Jvm.Cond.before (Jvm.Cond.code ({ cls := "com/example/senret/senret/IndexStatistics", name := "meanLength", desc := "()D" } : Jvm.MethodName) prog_5_method_2_code (1 : Nat) (Option.some Jvm.ClassFile.FieldType.double)) a0 Z = true := hw _ (List.mem_of_getElem? (i := 22) rfl)
theorem w_18 {a0 : Array Value} {Z : State} (hw : ∀ d ∈ tables_1, d.before a0 Z = true) : Jvm.Cond.before (Jvm.Cond.methodLink "com/example/senret/senret/IndexStatisticsMeanLengthPinLaw" (12 : Nat) ({ cls := "com/example/senret/senret/IndexStatistics", name := "meanLength", desc := "()D" } : Jvm.MethodName)) a0 Z = true := hw _ (List.mem_of_getElem? (i := 18) rfl)
theorem w_21 {a0 : Array Value} {Z : State} (hw : ∀ d ∈ tables_1, d.before a0 Z = true) : Jvm.Cond.before (Jvm.Cond.selects "com/example/senret/senret/IndexStatistics" ({ cls := "com/example/senret/senret/IndexStatistics", name := "meanLength", desc := "()D" } : Jvm.MethodName) ({ cls := "com/example/senret/senret/IndexStatistics", name := "meanLength", desc := "()D" } : Jvm.MethodName)) a0 Z = true := hw _ (List.mem_of_getElem? (i := 21) rfl)
theorem w_19 {a0 : Array Value} {Z : State} (hw : ∀ d ∈ tables_1, d.before a0 Z = true) : Jvm.Cond.before (Jvm.Cond.declares ({ cls := "com/example/senret/senret/IndexStatistics", name := "meanLength", desc := "()D" } : Jvm.MethodName)) a0 Z = true := hw _ (List.mem_of_getElem? (i := 19) rfl)
theorem w_20 {a0 : Array Value} {Z : State} (hw : ∀ d ∈ tables_1, d.before a0 Z = true) : Jvm.Cond.before (Jvm.Cond.instanceMethod ({ cls := "com/example/senret/senret/IndexStatistics", name := "meanLength", desc := "()D" } : Jvm.MethodName)) a0 Z = true := hw _ (List.mem_of_getElem? (i := 20) rfl)
theorem ef0 (p1 : Int32) (p2 : Int32) (p3 : Int32) (p4 : Int32) (p5 : Int64) (m : MethodId) : entryFrame m #[(.int p1), (.int p2), (.int p3), (.int p4), (.long p5)] maxLocals = mkF m 0 #[.val (.int p1), .val (.int p2), .val (.int p3), .val (.int p4), .val (.long p5), .second, .unset, .unset, .unset, .unset, .unset, .unset, .unset, .unset, .unset, .unset, .unset, .unset, .unset, .unset, .unset, .unset, .unset, .unset, .unset] [] := by first | (simp [entryFrame, mkF, argsToLocals, Value.category, maxLocals]; done) | rfl
theorem pn_2 : plainName "com/example/senret/senret/IndexStatisticsMeanLengthPinLaw" = true := by first | (simp [plainName, overriddenIn]; done) | decide +kernel
theorem rm0_0 (l : Launch) (Z : State) (a0 : Array Value) (hw : ∀ d ∈ tables_1, d.before a0 Z = true) (ws : List Jvm.Cond) (p1 : Int32) (p2 : Int32) (p3 : Int32) (p4 : Int32) (p5 : Int64) (h0 : Heap) (n0 : Nat) (Z0 : n0 ≤ h0.size) (Od0 : Old Z n0 h0) (cc1 : ((p4 >>> ((1 : Int32) &&& 31)) &&& (3 : Int32)) = (0 : Int32)) :
    OwnMet l Z x code maxLocals ret ws room_1 #[(.int p1), (.int p2), (.int p3), (.int p4), (.long p5)] h0 (Q0 n0) := by
  refine own_body (plainFor_of_name pn_2) (ef0 p1 p2 p3 p4 p5) ?_
  intro p e s m below meth c s₁ hx hby hml hown hnm hret hZ X0 e0
  have N0 := Fr.nil n0
  obtain ⟨x1, ex1⟩ : ∃ z, z = ((p4 >>> ((1 : Int32) &&& 31)) &&& (3 : Int32)) := ⟨_, rfl⟩
  obtain ⟨T2, h2, X2, e2, E2, A2, D2, -, st2⟩ := newO X0 hx hZ hown (w_0 hw) (w_1 hw) (w_2 hw) e0 (g := (mkF m 8 #[.val (.int p1), .val (.int p2), .val (.int p3), .val (.int p4), .val (.long p5), .second, .unset, .unset, .unset, .unset, .unset, .unset, .unset, .unset, .unset, .unset, .unset, .unset, .unset, .unset, .unset, .unset, .unset, .unset, .unset] [])) rfl (hb hby at_8) (by decide) (by decide)
  obtain ⟨b2, g2⟩ : ∃ z, z = h0.size := ⟨_, rfl⟩
  rw [← g2] at A2 D2 st2
  have s0 := E2.1
  have Fn2_termCount : Fld Z h2 b2 "com/example/senret/senret/IndexStatistics" "termCount" "J" (.long (0 : Int64)) := D2 (Or.inr (w_15 hw)) (ty := .long) (by decide)
  have Fn2_sentenceCount : Fld Z h2 b2 "com/example/senret/senret/IndexStatistics" "sentenceCount" "I" (.int (0 : Int32)) := D2 (Or.inr (w_17 hw)) (ty := .int) (by decide)
  have g_b2 : n0 ≤ b2 := Nat.le_trans Z0 (Nat.le_of_eq g2.symm)
  have z1 := Nat.le_trans Z0 s0
  obtain ⟨_, T3, L3, X3, hQ3, st3⟩ := own_special X2 hx hZ hown (y := y_1) (a := b2) (w_3 hw) (w_4 hw) (w_2 hw) (w_5 hw) (rm2 l Z a0 hw [] b2 p5 h2 n0 z1 Fn2_termCount A2 g_b2 Fn2_sentenceCount) e2 (Ls := #[.val (.int p1), .val (.int p2), .val (.int p3), .val (.int p4), .val (.long p5), .second, .unset, .unset, .unset, .unset, .unset, .unset, .unset, .unset, .unset, .unset, .unset, .unset, .unset, .unset, .unset, .unset, .unset, .unset, .unset]) (by rw [hml]; rfl) (argsL := [(.long p5), (.int (0 : Int32))]) (rest := [(.ref b2)]) (lenOf pd_1 rfl) (hb hby at_15) (W := 1)
  obtain ⟨rfl, Nq3, K3, o3_0, o3_1, o3_2⟩ := hQ3
  have N3 := Fr.app N0 Nq3
  have s1 := K3.1
  have z2 := Nat.le_trans Z0 (Nat.le_trans s0 s1)
  obtain ⟨_, T4, L4, X4, hQ4, st4⟩ := own_virtual X3 hx hZ hown (y := y_2) (z := y_2) o3_0 (w_18 hw) (w_19 hw) (notFace_of_selects (args := #[]) (mvT hZ (w_21 hw))) (w_21 hw) (w_20 hw) (w_2 hw) (w_22 hw) (rm3 l Z a0 hw [] b2 T3.heap n0 z2 o3_1) rfl (Ls := #[.val (.int p1), .val (.int p2), .val (.int p3), .val (.int p4), .val (.long p5), .second, .unset, .unset, .unset, .unset, .unset, .unset, .unset, .unset, .unset, .unset, .unset, .unset, .unset, .unset, .unset, .unset, .unset, .unset, .unset]) (by rw [hml]; rfl) (argsL := []) (rest := []) (lenOf pd_2 rfl) (hb hby at_18) (W := 0)
  obtain ⟨rfl, Nq4, e4⟩ := hQ4
  have N4 := Fr.app N3 Nq4
  refine ⟨T4, _, _, _, (some (.int (1 : Int32))), X4, nofun, by decide, by decide, ?_, fun fs hr => ?_⟩
  · show Q0 n0 _ T4.heap _
    rw [e4]
    subst ex1
    exact ⟨rfl, N4⟩
  · show Steps p.tables e below (s₁.setTop (mkF m 0 #[.val (.int p1), .val (.int p2), .val (.int p3), .val (.int p4), .val (.long p5), .second, .unset, .unset, .unset, .unset, .unset, .unset, .unset, .unset, .unset, .unset, .unset, .unset, .unset, .unset, .unset, .unset, .unset, .unset, .unset] [])) _
    refine XS.iloadN X0.here hx rfl (hb hby at_0) rfl ?_
    refine XS.iconst X0.here hx rfl (hb hby at_1) ?_
    refine XS.ishr X0.here hx rfl (hb hby at_2) rfl ?_
    refine XS.iconst X0.here hx rfl (hb hby at_3) ?_
    refine XS.iand X0.here hx rfl (hb hby at_4) rfl ?_
    show Steps p.tables e below (s₁.setTop (mkF m 5 #[.val (.int p1), .val (.int p2), .val (.int p3), .val (.int p4), .val (.long p5), .second, .unset, .unset, .unset, .unset, .unset, .unset, .unset, .unset, .unset, .unset, .unset, .unset, .unset, .unset, .unset, .unset, .unset, .unset, .unset] [(.int ((p4 >>> ((1 : Int32) &&& 31)) &&& (3 : Int32)))])) _
    rw [← ex1]
    refine XS.ifNo X0.here hx rfl (hb hby at_5) rfl ((if0 _ _).trans (teq ((by rw [ex1]; exact cc1) : x1 = (0 : Int32))).2) ?_
    refine st2 _ ?_
    refine XS.dup X2.here hx rfl (hb hby at_11) rfl rfl ?_
    refine XS.lload X2.here hx rfl (hb hby at_12) rfl ?_
    refine XS.iconst X2.here hx rfl (hb hby at_14) ?_
    refine st3 _ ?_
    refine st4 _ ?_
    refine XS.dconst0 X4.here hx rfl (hb hby at_21) rfl ?_
    refine XS.dcmpS X4.here hx rfl (hb hby at_22) rfl (by decide +kernel : (cmpValue (FP.dcmp (0 : UInt64) (0 : UInt64)) .l) = (0 : Int32)) ?_
    refine XS.ifNo X4.here hx rfl (hb hby at_23) rfl ((if0 _ _).trans (teq ((by decide : (0 : Int32) = (0 : Int32)) : (0 : Int32) = (0 : Int32))).2) ?_
    refine XS.iconst X4.here hx rfl (hb hby at_26) ?_
    show Steps p.tables e below (T4.setTop (mkF m 27 #[.val (.int p1), .val (.int p2), .val (.int p3), .val (.int p4), .val (.long p5), .second, .unset, .unset, .unset, .unset, .unset, .unset, .unset, .unset, .unset, .unset, .unset, .unset, .unset, .unset, .unset, .unset, .unset, .unset, .unset] [(.int (1 : Int32))])) _
    refine XS.goto X4.here hx rfl (pc0 := 27) (pc' := 31) rfl (hb hby at_27) (by decide) (by decide) ?_
    exact retN X4 hx (t := .boolean) hret (by simp) (hb hby at_31) hr
theorem w_23 {a0 : Array Value} {Z : State} (hw : ∀ d ∈ tables_1, d.before a0 Z = true) : Jvm.Cond.before (Jvm.Cond.constant "com/example/senret/senret/IndexStatisticsMeanLengthPinLaw" (16 : Nat) (1048575 : Int32)) a0 Z = true := hw _ (List.mem_of_getElem? (i := 23) rfl)
theorem w_24 {a0 : Array Value} {Z : State} (hw : ∀ d ∈ tables_1, d.before a0 Z = true) : Jvm.Cond.before (Jvm.Cond.constant "com/example/senret/senret/IndexStatisticsMeanLengthPinLaw" (17 : Nat) (2147483647 : Int32)) a0 Z = true := hw _ (List.mem_of_getElem? (i := 24) rfl)
-- com/example/senret/senret/IndexStatistics.<init>(JI)V
abbrev Rm4 : Room := { frames := 2, cells := 0, slots := 0, locals := 24 }
def Q4 (Z : State) (a1 : Addr) (q2 : Int64) (p3 : Int32) (h0 : Heap) (n0 : Nat) (v : Option Value) (h : Heap) (L : List Loc) : Prop := v = none ∧ Fr n0 L ∧ Keep h0 h [a1] ∧ Exa Z h a1 "com/example/senret/senret/IndexStatistics" ∧ Fld Z h a1 "com/example/senret/senret/IndexStatistics" "sentenceCount" "I" (.int p3) ∧ Fld Z h a1 "com/example/senret/senret/IndexStatistics" "termCount" "J" (.long q2)
theorem ef4 (a1 : Addr) (q2 : Int64) (p3 : Int32) (m : MethodId) : entryFrame m #[(.ref a1), (.long q2), (.int p3)] 4 = mkF m 0 #[.val (.ref a1), .val (.long q2), .second, .val (.int p3)] [] := by first | (simp [entryFrame, mkF, argsToLocals, Value.category]; done) | rfl
theorem rm4 (l : Launch) (Z : State) (a0 : Array Value) (hw : ∀ d ∈ tables_1, d.before a0 Z = true) (ws : List Jvm.Cond) (a1 : Addr) (q2 : Int64) (p3 : Int32) (h0 : Heap) (n0 : Nat) (Z0 : n0 ≤ h0.size) (F_termCount_a1 : Fld Z h0 a1 "com/example/senret/senret/IndexStatistics" "termCount" "J" (.long (0 : Int64))) (E_a1 : Exa Z h0 a1 "com/example/senret/senret/IndexStatistics") (g_a1 : n0 ≤ a1) (F_sentenceCount_a1 : Fld Z h0 a1 "com/example/senret/senret/IndexStatistics" "sentenceCount" "I" (.int (0 : Int32))) :
    OwnMet l Z y_1 prog_5_method_1_code 4 none ws Rm4 #[(.ref a1), (.long q2), (.int p3)] h0 (Q4 Z a1 q2 p3 h0 n0) := by
  refine own_body (plainFor_of_name pn_1) (ef4 a1 q2 p3) ?_
  intro p e s m below meth c s₁ hx hby hml hown hnm hret hZ X0 e0
  have N0 := Fr.nil n0
  obtain ⟨_, T4, L4, X4, hQ4, st4⟩ := own_special X0 hx hZ hown (y := y_0) (a := a1) (w_6 hw) (w_7 hw) (w_9 hw) (w_10 hw) (rm1 l Z a0 hw [] a1 h0 n0 Z0) e0 (Ls := #[.val (.ref a1), .val (.long q2), .second, .val (.int p3)]) (by rw [hml]; rfl) (argsL := []) (rest := []) (lenOf pd_0 rfl) (hb hby d1_1) (W := 0)
  obtain ⟨rfl, Nq4, e4⟩ := hQ4
  have N4 := Fr.app N0 Nq4
  obtain ⟨T5, h5, X5, e5, W5, st5⟩ := putF X4 hx hZ hown (host := "") (Or.inl (w_14 hw)) Via.refl e4 F_termCount_a1 E_a1 (Or.inr ⟨(w_15 hw), rfl, hnm⟩) (w_1 hw) (ty := .long) (by decide) rfl rfl (g := (mkF m 6 #[.val (.ref a1), .val (.long q2), .second, .val (.int p3)] [(.long q2), (.ref a1)])) rfl rfl (hb hby d1_6)
  have s0 := (Keep.of_wr W5).1
  have N5 := Fr.snoc X5 N4 g_a1
  have Fw5 : Fld Z h5 a1 "com/example/senret/senret/IndexStatistics" "termCount" "J" (.long q2) := F_termCount_a1.same W5
  have Ex6 := (E_a1.wr W5)
  have Fl7 := (F_sentenceCount_a1.other W5 (Or.inr (slot_ne (Or.inr (w_17 hw)) (Or.inr (w_15 hw)) (by decide) (t := .int) (t' := .long) (by decide) (by decide))))
  obtain ⟨T8, h8, X8, e8, W8, st8⟩ := putF X5 hx hZ hown (host := "") (Or.inl (w_16 hw)) Via.refl e5 Fl7 Ex6 (Or.inr ⟨(w_17 hw), rfl, hnm⟩) (w_1 hw) (ty := .int) (by decide) rfl rfl (g := (mkF m 11 #[.val (.ref a1), .val (.long q2), .second, .val (.int p3)] [(.int p3), (.ref a1)])) rfl rfl (hb hby d1_11)
  have s1 := (Keep.of_wr W8).1
  have N8 := Fr.snoc X8 N5 g_a1
  have Fw8 : Fld Z h8 a1 "com/example/senret/senret/IndexStatistics" "sentenceCount" "I" (.int p3) := Fl7.same W8
  have Ex9 := (Ex6.wr W8)
  have Fl10 := (Fw5.other W8 (Or.inr (slot_ne (Or.inr (w_15 hw)) (Or.inr (w_17 hw)) (by decide) (t := .long) (t' := .int) (by decide) (by decide))))
  have Kp0 : Keep h0 h5 [a1] := (Keep.refl h0 [a1]).wr W5 (Or.inl (List.mem_of_getElem? (i := 0) rfl))
  have Kp1 : Keep h0 h8 [a1] := Kp0.wr W8 (Or.inl (List.mem_of_getElem? (i := 0) rfl))
  refine ⟨T8, _, _, _, none, X8, (fun _ => rfl), by decide, by decide, ?_, fun fs hr => ?_⟩
  · show Q4 Z a1 q2 p3 h0 n0 _ T8.heap _
    rw [e8]
    exact ⟨rfl, N8, Kp1, Ex9, Fw8, Fl10⟩
  · show Steps p.tables e below (s₁.setTop (mkF m 0 #[.val (.ref a1), .val (.long q2), .second, .val (.int p3)] [])) _
    refine XS.aloadN X0.here hx rfl (hb hby d1_0) rfl rfl ?_
    refine st4 _ ?_
    refine XS.aloadN X4.here hx rfl (hb hby d1_4) rfl rfl ?_
    refine XS.lloadN X4.here hx rfl (hb hby d1_5) rfl ?_
    refine st5 _ ?_
    refine XS.aloadN X5.here hx rfl (hb hby d1_9) rfl rfl ?_
    refine XS.iloadN X5.here hx rfl (hb hby d1_10) rfl ?_
    refine st8 _ ?_
    exact X8.returnOut hx hret (hb hby d1_14) hr
theorem d4_11 : decode prog_5_method_2_code 11 = .ok (.aload_n 0, 1) := by decide +kernel
theorem d4_12 : decode prog_5_method_2_code 12 = .ok (.getfield 7, 3) := by decide +kernel
theorem d4_15 : decode prog_5_method_2_code 15 = .ok (.l2d, 1) := by decide +kernel
theorem d4_16 : decode prog_5_method_2_code 16 = .ok (.aload_n 0, 1) := by decide +kernel
theorem d4_17 : decode prog_5_method_2_code 17 = .ok (.getfield 13, 3) := by decide +kernel
theorem d4_20 : decode prog_5_method_2_code 20 = .ok (.i2d, 1) := by decide +kernel
theorem d4_21 : decode prog_5_method_2_code 21 = .ok (.ddiv, 1) := by decide +kernel
-- com/example/senret/senret/IndexStatistics.meanLength()D
abbrev Rm5 : Room := { frames := 0, cells := 0, slots := 0, locals := 0 }
def Q5 (Z : State) (a1 : Addr) (p2 : Int32) (q5 : Int64) (h0 : Heap) (n0 : Nat) (v : Option Value) (h : Heap) (L : List Loc) : Prop := v = some (.double (FP.ddiv (FP.l2d q5) (FP.i2d p2))) ∧ Fr n0 L ∧ h = h0
theorem ef5 (a1 : Addr) (m : MethodId) : entryFrame m #[(.ref a1)] 1 = mkF m 0 #[.val (.ref a1)] [] := by first | (simp [entryFrame, mkF, argsToLocals, Value.category]; done) | rfl
theorem rm5 (l : Launch) (Z : State) (a0 : Array Value) (hw : ∀ d ∈ tables_1, d.before a0 Z = true) (ws : List Jvm.Cond) (a1 : Addr) (p2 : Int32) (q5 : Int64) (h0 : Heap) (n0 : Nat) (Z0 : n0 ≤ h0.size) (F_sentenceCount_a1 : Fld Z h0 a1 "com/example/senret/senret/IndexStatistics" "sentenceCount" "I" (.int p2)) (c4 : ¬ (p2 = (0 : Int32))) (F_termCount_a1 : Fld Z h0 a1 "com/example/senret/senret/IndexStatistics" "termCount" "J" (.long q5)) :
    OwnMet l Z y_2 prog_5_method_2_code 1 (some .double) ws Rm5 #[(.ref a1)] h0 (Q5 Z a1 p2 q5 h0 n0) := by
  refine own_body (plainFor_of_name pn_1) (ef5 a1) ?_
  intro p e s m below meth c s₁ hx hby hml hown hnm hret hZ X0 e0
  have N0 := Fr.nil n0
  obtain ⟨T3, X3, e3, st3⟩ := getF X0 hx hZ hown (host := "") (Or.inl (w_16 hw)) Via.refl e0 F_sentenceCount_a1 (g := (mkF m 1 #[.val (.ref a1)] [(.ref a1)])) rfl rfl (hb hby d4_1)
  obtain ⟨T6, X6, e6, st6⟩ := getF X3 hx hZ hown (host := "") (Or.inl (w_14 hw)) Via.refl e3 F_termCount_a1 (g := (mkF m 12 #[.val (.ref a1)] [(.ref a1)])) rfl rfl (hb hby d4_12)
  obtain ⟨T7, X7, e7, st7⟩ := getF X6 hx hZ hown (host := "") (Or.inl (w_16 hw)) Via.refl e6 F_sentenceCount_a1 (g := (mkF m 17 #[.val (.ref a1)] [(.ref a1), (.double (FP.l2d q5))])) rfl rfl (hb hby d4_17)
  refine ⟨T7, _, _, _, (some (.double (FP.ddiv (FP.l2d q5) (FP.i2d p2)))), X7, nofun, by decide, by decide, ?_, fun fs hr => ?_⟩
  · show Q5 Z a1 p2 q5 h0 n0 _ T7.heap _
    rw [e7]
    exact ⟨rfl, N0, rfl⟩
  · show Steps p.tables e below (s₁.setTop (mkF m 0 #[.val (.ref a1)] [])) _
    refine XS.aloadN X0.here hx rfl (hb hby d4_0) rfl rfl ?_
    refine st3 _ ?_
    refine XS.ifYes X3.here hx rfl (pc0 := 4) (pc' := 11) rfl (hb hby d4_4) rfl ((if0 _ _).trans (feq (c4 : ¬ (p2 = (0 : Int32)))).2) (by decide) (by decide) ?_
    refine XS.aloadN X3.here hx rfl (hb hby d4_11) rfl rfl ?_
    refine st6 _ ?_
    refine XS.l2dS X6.here hx rfl (hb hby d4_15) rfl rfl ?_
    refine XS.aloadN X6.here hx rfl (hb hby d4_16) rfl rfl ?_
    refine st7 _ ?_
    refine XS.i2dS X7.here hx rfl (hb hby d4_20) rfl rfl ?_
    refine XS.ddivS X7.here hx rfl (hb hby d4_21) rfl (own_nndiv _ _ c4) rfl ?_
    exact retOut X7 hx hret rfl (Or.inr (Or.inr (Or.inl ⟨rfl, rfl, _, rfl⟩))) (hb hby d4_22) hr
theorem w_25 {a0 : Array Value} {Z : State} (hw : ∀ d ∈ tables_1, d.before a0 Z = true) : Jvm.Cond.before (Jvm.Cond.constantDouble "com/example/senret/senret/IndexStatisticsMeanLengthPinLaw" (18 : Nat) (4602678819172646912 : UInt64)) a0 Z = true := hw _ (List.mem_of_getElem? (i := 25) rfl)
theorem rm0_1 (l : Launch) (Z : State) (a0 : Array Value) (hw : ∀ d ∈ tables_1, d.before a0 Z = true) (ws : List Jvm.Cond) (p1 : Int32) (p2 : Int32) (p3 : Int32) (p4 : Int32) (p5 : Int64) (h0 : Heap) (n0 : Nat) (Z0 : n0 ≤ h0.size) (Od0 : Old Z n0 h0) (cc1 : ¬ (((p4 >>> ((1 : Int32) &&& 31)) &&& (3 : Int32)) = (0 : Int32))) (cc2 : (p4 &&& (1 : Int32)) = (0 : Int32)) (cc3 : (((p3 &&& (2147483647 : Int32)).toInt64) - (((p3 &&& (2147483647 : Int32)).toInt64) / (((p2 &&& (1048575 : Int32)).toInt64) + (1 : Int64))) * (((p2 &&& (1048575 : Int32)).toInt64) + (1 : Int64))) = (0 : Int64)) :
    OwnMet l Z x code maxLocals ret ws room_1 #[(.int p1), (.int p2), (.int p3), (.int p4), (.long p5)] h0 (Q0 n0) := by
  refine own_body (plainFor_of_name pn_2) (ef0 p1 p2 p3 p4 p5) ?_
  intro p e s m below meth c s₁ hx hby hml hown hnm hret hZ X0 e0
  have N0 := Fr.nil n0
  obtain ⟨x1, ex1⟩ : ∃ z, z = ((p4 >>> ((1 : Int32) &&& 31)) &&& (3 : Int32)) := ⟨_, rfl⟩
  obtain ⟨x2, ex2⟩ : ∃ z, z = (((p2 &&& (1048575 : Int32)).toInt64) + (1 : Int64)) := ⟨_, rfl⟩
  have cd3 : ¬ ((((p2 &&& (1048575 : Int32)).toInt64) + (1 : Int64)) = (0 : Int64)) := (own_N_ne p2)
  obtain ⟨x4, ex4⟩ : ∃ z, z = (((p3 &&& (2147483647 : Int32)).toInt64) - (((p3 &&& (2147483647 : Int32)).toInt64) / x2) * x2) := ⟨_, rfl⟩
  obtain ⟨x5, ex5⟩ : ∃ z, z = (((p1 &&& (1048575 : Int32)).toInt64) * x2) := ⟨_, rfl⟩
  obtain ⟨T6, h6, X6, e6, E6, A6, D6, -, st6⟩ := newO X0 hx hZ hown (w_0 hw) (w_1 hw) (w_2 hw) e0 (g := (mkF m 91 #[.val (.int p1), .val (.int p2), .val (.int p3), .val (.int p4), .val (.long p5), .second, .val (.long ((p1 &&& (1048575 : Int32)).toInt64)), .second, .val (.long x2), .second, .val (.long x4), .second, .val (.long (x5 + x4)), .second, .val (.int (0 : Int32)), .unset, .unset, .unset, .unset, .unset, .unset, .unset, .unset, .unset, .unset] [])) rfl (hb hby at_91) (by decide) (by decide)
  obtain ⟨b6, g6⟩ : ∃ z, z = h0.size := ⟨_, rfl⟩
  rw [← g6] at A6 D6 st6
  have s0 := E6.1
  have Fn6_termCount : Fld Z h6 b6 "com/example/senret/senret/IndexStatistics" "termCount" "J" (.long (0 : Int64)) := D6 (Or.inr (w_15 hw)) (ty := .long) (by decide)
  have Fn6_sentenceCount : Fld Z h6 b6 "com/example/senret/senret/IndexStatistics" "sentenceCount" "I" (.int (0 : Int32)) := D6 (Or.inr (w_17 hw)) (ty := .int) (by decide)
  have g_b6 : n0 ≤ b6 := Nat.le_trans Z0 (Nat.le_of_eq g6.symm)
  have z1 := Nat.le_trans Z0 s0
  obtain ⟨_, T7, L7, X7, hQ7, st7⟩ := own_special X6 hx hZ hown (y := y_1) (a := b6) (w_3 hw) (w_4 hw) (w_2 hw) (w_5 hw) (rm4 l Z a0 hw [] b6 (x5 + x4) (x2.toInt32) h6 n0 z1 Fn6_termCount A6 g_b6 Fn6_sentenceCount) e6 (Ls := #[.val (.int p1), .val (.int p2), .val (.int p3), .val (.int p4), .val (.long p5), .second, .val (.long ((p1 &&& (1048575 : Int32)).toInt64)), .second, .val (.long x2), .second, .val (.long x4), .second, .val (.long (x5 + x4)), .second, .val (.int (0 : Int32)), .unset, .unset, .unset, .unset, .unset, .unset, .unset, .unset, .unset, .unset]) (by rw [hml]; rfl) (argsL := [(.long (x5 + x4)), (.int (x2.toInt32))]) (rest := [(.ref b6)]) (lenOf pd_1 rfl) (hb hby at_100) (W := 1)
  obtain ⟨rfl, Nq7, K7, o7_0, o7_1, o7_2⟩ := hQ7
  have N7 := Fr.app N0 Nq7
  have s1 := K7.1
  have cd8 : ¬ (((((p2 &&& (1048575 : Int32)).toInt64) + (1 : Int64)).toInt32) = (0 : Int32)) := (own_NI_ne p2)
  have z2 := Nat.le_trans Z0 (Nat.le_trans s0 s1)
  obtain ⟨_, T9, L9, X9, hQ9, st9⟩ := own_virtual X7 hx hZ hown (y := y_2) (z := y_2) o7_0 (w_18 hw) (w_19 hw) (notFace_of_selects (args := #[]) (mvT hZ (w_21 hw))) (w_21 hw) (w_20 hw) (w_2 hw) (w_22 hw) (rm5 l Z a0 hw [] b6 (x2.toInt32) (x5 + x4) T7.heap n0 z2 o7_1 (by rw [ex2]; exact cd8) o7_2) rfl (Ls := #[.val (.int p1), .val (.int p2), .val (.int p3), .val (.int p4), .val (.long p5), .second, .val (.long ((p1 &&& (1048575 : Int32)).toInt64)), .second, .val (.long x2), .second, .val (.long x4), .second, .val (.long (x5 + x4)), .second, .val (.int (0 : Int32)), .unset, .unset, .unset, .unset, .unset, .unset, .unset, .unset, .unset, .unset]) (by rw [hml]; rfl) (argsL := []) (rest := []) (lenOf pd_2 rfl) (hb hby at_103) (W := 0)
  obtain ⟨rfl, Nq9, e9⟩ := hQ9
  have N9 := Fr.app N7 Nq9
  obtain ⟨x10, ex10⟩ : ∃ z, z = (FP.ddiv (FP.l2d (x5 + x4)) (FP.i2d (x2.toInt32))) := ⟨_, rfl⟩
  obtain ⟨x11, ex11⟩ : ∃ z, z = (FP.l2d ((p1 &&& (1048575 : Int32)).toInt64)) := ⟨_, rfl⟩
  obtain ⟨x12, ex12⟩ : ∃ z, z = (FP.dadd x11 (4602678819172646912 : UInt64)) := ⟨_, rfl⟩
  have cd13 : (cmpValue (FP.dcmp (FP.ddiv (FP.l2d ((((p1 &&& (1048575 : Int32)).toInt64) * (((p2 &&& (1048575 : Int32)).toInt64) + (1 : Int64))) + (((p3 &&& (2147483647 : Int32)).toInt64) - (((p3 &&& (2147483647 : Int32)).toInt64) / (((p2 &&& (1048575 : Int32)).toInt64) + (1 : Int64))) * (((p2 &&& (1048575 : Int32)).toInt64) + (1 : Int64))))) (FP.i2d ((((p2 &&& (1048575 : Int32)).toInt64) + (1 : Int64)).toInt32))) (FP.l2d ((p1 &&& (1048575 : Int32)).toInt64))) .l) = (0 : Int32) := (by rw [own_m_0 p1 p2 p3 cc3 .l] <;> decide)
  refine ⟨T9, _, _, _, (some (.int (1 : Int32))), X9, nofun, by decide, by decide, ?_, fun fs hr => ?_⟩
  · show Q0 n0 _ T9.heap _
    rw [e9]
    subst ex12
    subst ex11
    subst ex10
    subst ex5
    subst ex4
    subst ex2
    subst ex1
    exact ⟨rfl, N9⟩
  · show Steps p.tables e below (s₁.setTop (mkF m 0 #[.val (.int p1), .val (.int p2), .val (.int p3), .val (.int p4), .val (.long p5), .second, .unset, .unset, .unset, .unset, .unset, .unset, .unset, .unset, .unset, .unset, .unset, .unset, .unset, .unset, .unset, .unset, .unset, .unset, .unset] [])) _
    refine XS.iloadN X0.here hx rfl (hb hby at_0) rfl ?_
    refine XS.iconst X0.here hx rfl (hb hby at_1) ?_
    refine XS.ishr X0.here hx rfl (hb hby at_2) rfl ?_
    refine XS.iconst X0.here hx rfl (hb hby at_3) ?_
    refine XS.iand X0.here hx rfl (hb hby at_4) rfl ?_
    show Steps p.tables e below (s₁.setTop (mkF m 5 #[.val (.int p1), .val (.int p2), .val (.int p3), .val (.int p4), .val (.long p5), .second, .unset, .unset, .unset, .unset, .unset, .unset, .unset, .unset, .unset, .unset, .unset, .unset, .unset, .unset, .unset, .unset, .unset, .unset, .unset] [(.int ((p4 >>> ((1 : Int32) &&& 31)) &&& (3 : Int32)))])) _
    rw [← ex1]
    refine XS.ifYes X0.here hx rfl (pc0 := 5) (pc' := 32) rfl (hb hby at_5) rfl ((if0 _ _).trans (feq ((by rw [ex1]; exact cc1) : ¬ (x1 = (0 : Int32)))).2) (by decide) (by decide) ?_
    refine XS.iloadN X0.here hx rfl (hb hby at_32) rfl ?_
    refine X0.ldcInt hx hown (mvT hZ (w_23 hw)) (g := (mkF m 33 #[.val (.int p1), .val (.int p2), .val (.int p3), .val (.int p4), .val (.long p5), .second, .unset, .unset, .unset, .unset, .unset, .unset, .unset, .unset, .unset, .unset, .unset, .unset, .unset, .unset, .unset, .unset, .unset, .unset, .unset] [(.int p1)])) rfl (hb hby at_33) _ ?_
    refine XS.iand X0.here hx rfl (hb hby at_35) rfl ?_
    refine XS.i2l X0.here hx rfl (hb hby at_36) rfl ?_
    refine XS.lstore X0.here hx rfl (hb hby at_37) rfl (l' := #[.val (.int p1), .val (.int p2), .val (.int p3), .val (.int p4), .val (.long p5), .second, .val (.long ((p1 &&& (1048575 : Int32)).toInt64)), .second, .unset, .unset, .unset, .unset, .unset, .unset, .unset, .unset, .unset, .unset, .unset, .unset, .unset, .unset, .unset, .unset, .unset]) rfl ?_
    refine XS.iloadN X0.here hx rfl (hb hby at_39) rfl ?_
    refine X0.ldcInt hx hown (mvT hZ (w_23 hw)) (g := (mkF m 40 #[.val (.int p1), .val (.int p2), .val (.int p3), .val (.int p4), .val (.long p5), .second, .val (.long ((p1 &&& (1048575 : Int32)).toInt64)), .second, .unset, .unset, .unset, .unset, .unset, .unset, .unset, .unset, .unset, .unset, .unset, .unset, .unset, .unset, .unset, .unset, .unset] [(.int p2)])) rfl (hb hby at_40) _ ?_
    refine XS.iand X0.here hx rfl (hb hby at_42) rfl ?_
    refine XS.i2l X0.here hx rfl (hb hby at_43) rfl ?_
    refine XS.lconst X0.here hx rfl (hb hby at_44) ?_
    show Steps p.tables e below (s₁.setTop (mkF m 45 #[.val (.int p1), .val (.int p2), .val (.int p3), .val (.int p4), .val (.long p5), .second, .val (.long ((p1 &&& (1048575 : Int32)).toInt64)), .second, .unset, .unset, .unset, .unset, .unset, .unset, .unset, .unset, .unset, .unset, .unset, .unset, .unset, .unset, .unset, .unset, .unset] [(.long (1 : Int64)), (.long ((p2 &&& (1048575 : Int32)).toInt64))])) _
    refine XS.ladd X0.here hx rfl (hb hby at_45) rfl ?_
    show Steps p.tables e below (s₁.setTop (mkF m 46 #[.val (.int p1), .val (.int p2), .val (.int p3), .val (.int p4), .val (.long p5), .second, .val (.long ((p1 &&& (1048575 : Int32)).toInt64)), .second, .unset, .unset, .unset, .unset, .unset, .unset, .unset, .unset, .unset, .unset, .unset, .unset, .unset, .unset, .unset, .unset, .unset] [(.long (((p2 &&& (1048575 : Int32)).toInt64) + (1 : Int64)))])) _
    rw [← ex2]
    refine XS.lstore X0.here hx rfl (hb hby at_46) rfl (l' := #[.val (.int p1), .val (.int p2), .val (.int p3), .val (.int p4), .val (.long p5), .second, .val (.long ((p1 &&& (1048575 : Int32)).toInt64)), .second, .val (.long x2), .second, .unset, .unset, .unset, .unset, .unset, .unset, .unset, .unset, .unset, .unset, .unset, .unset, .unset, .unset, .unset]) rfl ?_
    refine XS.iloadN X0.here hx rfl (hb hby at_48) rfl ?_
    refine X0.ldcInt hx hown (mvT hZ (w_24 hw)) (g := (mkF m 49 #[.val (.int p1), .val (.int p2), .val (.int p3), .val (.int p4), .val (.long p5), .second, .val (.long ((p1 &&& (1048575 : Int32)).toInt64)), .second, .val (.long x2), .second, .unset, .unset, .unset, .unset, .unset, .unset, .unset, .unset, .unset, .unset, .unset, .unset, .unset, .unset, .unset] [(.int p3)])) rfl (hb hby at_49) _ ?_
    refine XS.iand X0.here hx rfl (hb hby at_51) rfl ?_
    refine XS.i2l X0.here hx rfl (hb hby at_52) rfl ?_
    refine XS.lload X0.here hx rfl (hb hby at_53) rfl ?_
    refine XS.lrem X0.here hx rfl (hb hby at_55) rfl (by rw [ex2]; exact cd3) ?_
    show Steps p.tables e below (s₁.setTop (mkF m 56 #[.val (.int p1), .val (.int p2), .val (.int p3), .val (.int p4), .val (.long p5), .second, .val (.long ((p1 &&& (1048575 : Int32)).toInt64)), .second, .val (.long x2), .second, .unset, .unset, .unset, .unset, .unset, .unset, .unset, .unset, .unset, .unset, .unset, .unset, .unset, .unset, .unset] [(.long (((p3 &&& (2147483647 : Int32)).toInt64) - (((p3 &&& (2147483647 : Int32)).toInt64) / x2) * x2))])) _
    rw [← ex4]
    refine XS.lstore X0.here hx rfl (hb hby at_56) rfl (l' := #[.val (.int p1), .val (.int p2), .val (.int p3), .val (.int p4), .val (.long p5), .second, .val (.long ((p1 &&& (1048575 : Int32)).toInt64)), .second, .val (.long x2), .second, .val (.long x4), .second, .unset, .unset, .unset, .unset, .unset, .unset, .unset, .unset, .unset, .unset, .unset, .unset, .unset]) rfl ?_
    refine XS.lload X0.here hx rfl (hb hby at_58) rfl ?_
    refine XS.lload X0.here hx rfl (hb hby at_60) rfl ?_
    refine XS.lmul X0.here hx rfl (hb hby at_62) rfl ?_
    show Steps p.tables e below (s₁.setTop (mkF m 63 #[.val (.int p1), .val (.int p2), .val (.int p3), .val (.int p4), .val (.long p5), .second, .val (.long ((p1 &&& (1048575 : Int32)).toInt64)), .second, .val (.long x2), .second, .val (.long x4), .second, .unset, .unset, .unset, .unset, .unset, .unset, .unset, .unset, .unset, .unset, .unset, .unset, .unset] [(.long (((p1 &&& (1048575 : Int32)).toInt64) * x2))])) _
    rw [← ex5]
    refine XS.lload X0.here hx rfl (hb hby at_63) rfl ?_
    refine XS.ladd X0.here hx rfl (hb hby at_65) rfl ?_
    refine XS.lstore X0.here hx rfl (hb hby at_66) rfl (l' := #[.val (.int p1), .val (.int p2), .val (.int p3), .val (.int p4), .val (.long p5), .second, .val (.long ((p1 &&& (1048575 : Int32)).toInt64)), .second, .val (.long x2), .second, .val (.long x4), .second, .val (.long (x5 + x4)), .second, .unset, .unset, .unset, .unset, .unset, .unset, .unset, .unset, .unset, .unset, .unset]) rfl ?_
    refine XS.iloadN X0.here hx rfl (hb hby at_68) rfl ?_
    refine XS.iconst X0.here hx rfl (hb hby at_69) ?_
    refine XS.iand X0.here hx rfl (hb hby at_70) rfl ?_
    refine XS.ifYes X0.here hx rfl (pc0 := 71) (pc' := 78) rfl (hb hby at_71) rfl ((if0 _ _).trans (teq (cc2 : (p4 &&& (1 : Int32)) = (0 : Int32))).1) (by decide) (by decide) ?_
    refine XS.iconst X0.here hx rfl (hb hby at_78) ?_
    refine XS.istore X0.here hx rfl (hb hby at_79) rfl (l' := #[.val (.int p1), .val (.int p2), .val (.int p3), .val (.int p4), .val (.long p5), .second, .val (.long ((p1 &&& (1048575 : Int32)).toInt64)), .second, .val (.long x2), .second, .val (.long x4), .second, .val (.long (x5 + x4)), .second, .val (.int (0 : Int32)), .unset, .unset, .unset, .unset, .unset, .unset, .unset, .unset, .unset, .unset]) rfl ?_
    refine XS.iload X0.here hx rfl (hb hby at_81) rfl ?_
    refine XS.ifYes X0.here hx rfl (pc0 := 83) (pc' := 91) rfl (hb hby at_83) rfl ((if0 _ _).trans (teq ((by decide : (0 : Int32) = (0 : Int32)) : (0 : Int32) = (0 : Int32))).1) (by decide) (by decide) ?_
    show Steps p.tables e below (s₁.setTop (mkF m 91 #[.val (.int p1), .val (.int p2), .val (.int p3), .val (.int p4), .val (.long p5), .second, .val (.long ((p1 &&& (1048575 : Int32)).toInt64)), .second, .val (.long x2), .second, .val (.long x4), .second, .val (.long (x5 + x4)), .second, .val (.int (0 : Int32)), .unset, .unset, .unset, .unset, .unset, .unset, .unset, .unset, .unset, .unset] [])) _
    refine st6 _ ?_
    refine XS.dup X6.here hx rfl (hb hby at_94) rfl rfl ?_
    refine XS.lload X6.here hx rfl (hb hby at_95) rfl ?_
    refine XS.lload X6.here hx rfl (hb hby at_97) rfl ?_
    refine XS.l2i X6.here hx rfl (hb hby at_99) rfl ?_
    refine st7 _ ?_
    refine st9 _ ?_
    show Steps p.tables e below (T9.setTop (mkF m 106 #[.val (.int p1), .val (.int p2), .val (.int p3), .val (.int p4), .val (.long p5), .second, .val (.long ((p1 &&& (1048575 : Int32)).toInt64)), .second, .val (.long x2), .second, .val (.long x4), .second, .val (.long (x5 + x4)), .second, .val (.int (0 : Int32)), .unset, .unset, .unset, .unset, .unset, .unset, .unset, .unset, .unset, .unset] [(.double (FP.ddiv (FP.l2d (x5 + x4)) (FP.i2d (x2.toInt32))))])) _
    rw [← ex10]
    refine XS.dstore X9.here hx rfl (hb hby at_106) rfl (l' := #[.val (.int p1), .val (.int p2), .val (.int p3), .val (.int p4), .val (.long p5), .second, .val (.long ((p1 &&& (1048575 : Int32)).toInt64)), .second, .val (.long x2), .second, .val (.long x4), .second, .val (.long (x5 + x4)), .second, .val (.int (0 : Int32)), .val (.double x10), .second, .unset, .unset, .unset, .unset, .unset, .unset, .unset, .unset]) rfl ?_
    refine XS.iload X9.here hx rfl (hb hby at_108) rfl ?_
    refine XS.ifYes X9.here hx rfl (pc0 := 110) (pc' := 119) rfl (hb hby at_110) rfl ((if0 _ _).trans (teq ((by decide : (0 : Int32) = (0 : Int32)) : (0 : Int32) = (0 : Int32))).1) (by decide) (by decide) ?_
    refine XS.dload X9.here hx rfl (hb hby at_119) rfl ?_
    refine XS.dstore X9.here hx rfl (hb hby at_121) rfl (l' := #[.val (.int p1), .val (.int p2), .val (.int p3), .val (.int p4), .val (.long p5), .second, .val (.long ((p1 &&& (1048575 : Int32)).toInt64)), .second, .val (.long x2), .second, .val (.long x4), .second, .val (.long (x5 + x4)), .second, .val (.int (0 : Int32)), .val (.double x10), .second, .val (.double x10), .second, .unset, .unset, .unset, .unset, .unset, .unset]) rfl ?_
    refine XS.lload X9.here hx rfl (hb hby at_123) rfl ?_
    refine XS.l2dS X9.here hx rfl (hb hby at_125) rfl rfl ?_
    show Steps p.tables e below (T9.setTop (mkF m 126 #[.val (.int p1), .val (.int p2), .val (.int p3), .val (.int p4), .val (.long p5), .second, .val (.long ((p1 &&& (1048575 : Int32)).toInt64)), .second, .val (.long x2), .second, .val (.long x4), .second, .val (.long (x5 + x4)), .second, .val (.int (0 : Int32)), .val (.double x10), .second, .val (.double x10), .second, .unset, .unset, .unset, .unset, .unset, .unset] [(.double (FP.l2d ((p1 &&& (1048575 : Int32)).toInt64)))])) _
    rw [← ex11]
    refine XS.dstore X9.here hx rfl (hb hby at_126) rfl (l' := #[.val (.int p1), .val (.int p2), .val (.int p3), .val (.int p4), .val (.long p5), .second, .val (.long ((p1 &&& (1048575 : Int32)).toInt64)), .second, .val (.long x2), .second, .val (.long x4), .second, .val (.long (x5 + x4)), .second, .val (.int (0 : Int32)), .val (.double x10), .second, .val (.double x10), .second, .val (.double x11), .second, .unset, .unset, .unset, .unset]) rfl ?_
    refine XS.dload X9.here hx rfl (hb hby at_128) rfl ?_
    refine X9.ldc2DoubleC hx hown (mvT hZ (w_25 hw)) (g := (mkF m 130 #[.val (.int p1), .val (.int p2), .val (.int p3), .val (.int p4), .val (.long p5), .second, .val (.long ((p1 &&& (1048575 : Int32)).toInt64)), .second, .val (.long x2), .second, .val (.long x4), .second, .val (.long (x5 + x4)), .second, .val (.int (0 : Int32)), .val (.double x10), .second, .val (.double x10), .second, .val (.double x11), .second, .unset, .unset, .unset, .unset] [(.double x11)])) rfl (hb hby at_130) _ ?_
    refine XS.daddS X9.here hx rfl (hb hby at_133) rfl (by rw [ex11]; exact (own_nnaddh _)) rfl ?_
    show Steps p.tables e below (T9.setTop (mkF m 134 #[.val (.int p1), .val (.int p2), .val (.int p3), .val (.int p4), .val (.long p5), .second, .val (.long ((p1 &&& (1048575 : Int32)).toInt64)), .second, .val (.long x2), .second, .val (.long x4), .second, .val (.long (x5 + x4)), .second, .val (.int (0 : Int32)), .val (.double x10), .second, .val (.double x10), .second, .val (.double x11), .second, .unset, .unset, .unset, .unset] [(.double (FP.dadd x11 (4602678819172646912 : UInt64)))])) _
    rw [← ex12]
    refine XS.dstore X9.here hx rfl (hb hby at_134) rfl (l' := #[.val (.int p1), .val (.int p2), .val (.int p3), .val (.int p4), .val (.long p5), .second, .val (.long ((p1 &&& (1048575 : Int32)).toInt64)), .second, .val (.long x2), .second, .val (.long x4), .second, .val (.long (x5 + x4)), .second, .val (.int (0 : Int32)), .val (.double x10), .second, .val (.double x10), .second, .val (.double x11), .second, .val (.double x12), .second, .unset, .unset]) rfl ?_
    refine XS.lload X9.here hx rfl (hb hby at_136) rfl ?_
    refine XS.lconst X9.here hx rfl (hb hby at_138) ?_
    refine XS.lcmp X9.here hx rfl (hb hby at_139) rfl ?_
    refine XS.ifNo X9.here hx rfl (hb hby at_140) rfl ((if0 _ _).trans (teq ((by rw [ex4, ex2]; exact ((lw_eq _ _).mpr cc3)) : (lcmpW x4 (0 : Int64)) = (0 : Int32))).2) ?_
    refine XS.dload X9.here hx rfl (hb hby at_143) rfl ?_
    refine XS.dload X9.here hx rfl (hb hby at_145) rfl ?_
    refine XS.dcmpS X9.here hx rfl (hb hby at_147) rfl rfl ?_
    refine XS.ifNo X9.here hx rfl (hb hby at_148) rfl ((if0 _ _).trans (teq ((by rw [ex11, ex10, ex5, ex4, ex2]; exact cd13) : (cmpValue (FP.dcmp x10 x11) .l) = (0 : Int32))).2) ?_
    refine XS.iconst X9.here hx rfl (hb hby at_151) ?_
    refine XS.goto X9.here hx rfl (pc0 := 152) (pc' := 156) rfl (hb hby at_152) (by decide) (by decide) ?_
    show Steps p.tables e below (T9.setTop (mkF m 156 #[.val (.int p1), .val (.int p2), .val (.int p3), .val (.int p4), .val (.long p5), .second, .val (.long ((p1 &&& (1048575 : Int32)).toInt64)), .second, .val (.long x2), .second, .val (.long x4), .second, .val (.long (x5 + x4)), .second, .val (.int (0 : Int32)), .val (.double x10), .second, .val (.double x10), .second, .val (.double x11), .second, .val (.double x12), .second, .unset, .unset] [(.int (1 : Int32))])) _
    exact retN X9 hx (t := .boolean) hret (by simp) (hb hby at_156) hr
theorem w_26 {a0 : Array Value} {Z : State} (hw : ∀ d ∈ tables_1, d.before a0 Z = true) : Jvm.Cond.before (Jvm.Cond.constantLong "com/example/senret/senret/IndexStatisticsMeanLengthPinLaw" (20 : Nat) (2 : Int64)) a0 Z = true := hw _ (List.mem_of_getElem? (i := 26) rfl)
theorem rm0_2 (l : Launch) (Z : State) (a0 : Array Value) (hw : ∀ d ∈ tables_1, d.before a0 Z = true) (ws : List Jvm.Cond) (p1 : Int32) (p2 : Int32) (p3 : Int32) (p4 : Int32) (p5 : Int64) (h0 : Heap) (n0 : Nat) (Z0 : n0 ≤ h0.size) (Od0 : Old Z n0 h0) (cc1 : ¬ (((p4 >>> ((1 : Int32) &&& 31)) &&& (3 : Int32)) = (0 : Int32))) (cc2 : (p4 &&& (1 : Int32)) = (0 : Int32)) (cc3 : ¬ ((((p3 &&& (2147483647 : Int32)).toInt64) - (((p3 &&& (2147483647 : Int32)).toInt64) / (((p2 &&& (1048575 : Int32)).toInt64) + (1 : Int64))) * (((p2 &&& (1048575 : Int32)).toInt64) + (1 : Int64))) = (0 : Int64))) (cc4 : ((2 : Int64) * (((p3 &&& (2147483647 : Int32)).toInt64) - (((p3 &&& (2147483647 : Int32)).toInt64) / (((p2 &&& (1048575 : Int32)).toInt64) + (1 : Int64))) * (((p2 &&& (1048575 : Int32)).toInt64) + (1 : Int64)))) < (((p2 &&& (1048575 : Int32)).toInt64) + (1 : Int64))) :
    OwnMet l Z x code maxLocals ret ws room_1 #[(.int p1), (.int p2), (.int p3), (.int p4), (.long p5)] h0 (Q0 n0) := by
  refine own_body (plainFor_of_name pn_2) (ef0 p1 p2 p3 p4 p5) ?_
  intro p e s m below meth c s₁ hx hby hml hown hnm hret hZ X0 e0
  have N0 := Fr.nil n0
  obtain ⟨x1, ex1⟩ : ∃ z, z = ((p4 >>> ((1 : Int32) &&& 31)) &&& (3 : Int32)) := ⟨_, rfl⟩
  obtain ⟨x2, ex2⟩ : ∃ z, z = (((p2 &&& (1048575 : Int32)).toInt64) + (1 : Int64)) := ⟨_, rfl⟩
  have cd3 : ¬ ((((p2 &&& (1048575 : Int32)).toInt64) + (1 : Int64)) = (0 : Int64)) := (own_N_ne p2)
  obtain ⟨x4, ex4⟩ : ∃ z, z = (((p3 &&& (2147483647 : Int32)).toInt64) - (((p3 &&& (2147483647 : Int32)).toInt64) / x2) * x2) := ⟨_, rfl⟩
  obtain ⟨x5, ex5⟩ : ∃ z, z = (((p1 &&& (1048575 : Int32)).toInt64) * x2) := ⟨_, rfl⟩
  obtain ⟨T6, h6, X6, e6, E6, A6, D6, -, st6⟩ := newO X0 hx hZ hown (w_0 hw) (w_1 hw) (w_2 hw) e0 (g := (mkF m 91 #[.val (.int p1), .val (.int p2), .val (.int p3), .val (.int p4), .val (.long p5), .second, .val (.long ((p1 &&& (1048575 : Int32)).toInt64)), .second, .val (.long x2), .second, .val (.long x4), .second, .val (.long (x5 + x4)), .second, .val (.int (0 : Int32)), .unset, .unset, .unset, .unset, .unset, .unset, .unset, .unset, .unset, .unset] [])) rfl (hb hby at_91) (by decide) (by decide)
  obtain ⟨b6, g6⟩ : ∃ z, z = h0.size := ⟨_, rfl⟩
  rw [← g6] at A6 D6 st6
  have s0 := E6.1
  have Fn6_termCount : Fld Z h6 b6 "com/example/senret/senret/IndexStatistics" "termCount" "J" (.long (0 : Int64)) := D6 (Or.inr (w_15 hw)) (ty := .long) (by decide)
  have Fn6_sentenceCount : Fld Z h6 b6 "com/example/senret/senret/IndexStatistics" "sentenceCount" "I" (.int (0 : Int32)) := D6 (Or.inr (w_17 hw)) (ty := .int) (by decide)
  have g_b6 : n0 ≤ b6 := Nat.le_trans Z0 (Nat.le_of_eq g6.symm)
  have z1 := Nat.le_trans Z0 s0
  obtain ⟨_, T7, L7, X7, hQ7, st7⟩ := own_special X6 hx hZ hown (y := y_1) (a := b6) (w_3 hw) (w_4 hw) (w_2 hw) (w_5 hw) (rm4 l Z a0 hw [] b6 (x5 + x4) (x2.toInt32) h6 n0 z1 Fn6_termCount A6 g_b6 Fn6_sentenceCount) e6 (Ls := #[.val (.int p1), .val (.int p2), .val (.int p3), .val (.int p4), .val (.long p5), .second, .val (.long ((p1 &&& (1048575 : Int32)).toInt64)), .second, .val (.long x2), .second, .val (.long x4), .second, .val (.long (x5 + x4)), .second, .val (.int (0 : Int32)), .unset, .unset, .unset, .unset, .unset, .unset, .unset, .unset, .unset, .unset]) (by rw [hml]; rfl) (argsL := [(.long (x5 + x4)), (.int (x2.toInt32))]) (rest := [(.ref b6)]) (lenOf pd_1 rfl) (hb hby at_100) (W := 1)
  obtain ⟨rfl, Nq7, K7, o7_0, o7_1, o7_2⟩ := hQ7
  have N7 := Fr.app N0 Nq7
  have s1 := K7.1
  have cd8 : ¬ (((((p2 &&& (1048575 : Int32)).toInt64) + (1 : Int64)).toInt32) = (0 : Int32)) := (own_NI_ne p2)
  have z2 := Nat.le_trans Z0 (Nat.le_trans s0 s1)
  obtain ⟨_, T9, L9, X9, hQ9, st9⟩ := own_virtual X7 hx hZ hown (y := y_2) (z := y_2) o7_0 (w_18 hw) (w_19 hw) (notFace_of_selects (args := #[]) (mvT hZ (w_21 hw))) (w_21 hw) (w_20 hw) (w_2 hw) (w_22 hw) (rm5 l Z a0 hw [] b6 (x2.toInt32) (x5 + x4) T7.heap n0 z2 o7_1 (by rw [ex2]; exact cd8) o7_2) rfl (Ls := #[.val (.int p1), .val (.int p2), .val (.int p3), .val (.int p4), .val (.long p5), .second, .val (.long ((p1 &&& (1048575 : Int32)).toInt64)), .second, .val (.long x2), .second, .val (.long x4), .second, .val (.long (x5 + x4)), .second, .val (.int (0 : Int32)), .unset, .unset, .unset, .unset, .unset, .unset, .unset, .unset, .unset, .unset]) (by rw [hml]; rfl) (argsL := []) (rest := []) (lenOf pd_2 rfl) (hb hby at_103) (W := 0)
  obtain ⟨rfl, Nq9, e9⟩ := hQ9
  have N9 := Fr.app N7 Nq9
  obtain ⟨x10, ex10⟩ : ∃ z, z = (FP.ddiv (FP.l2d (x5 + x4)) (FP.i2d (x2.toInt32))) := ⟨_, rfl⟩
  obtain ⟨x11, ex11⟩ : ∃ z, z = (FP.l2d ((p1 &&& (1048575 : Int32)).toInt64)) := ⟨_, rfl⟩
  obtain ⟨x12, ex12⟩ : ∃ z, z = (FP.dadd x11 (4602678819172646912 : UInt64)) := ⟨_, rfl⟩
  have cd13 : (cmpValue (FP.dcmp (FP.l2d ((p1 &&& (1048575 : Int32)).toInt64)) (FP.ddiv (FP.l2d ((((p1 &&& (1048575 : Int32)).toInt64) * (((p2 &&& (1048575 : Int32)).toInt64) + (1 : Int64))) + (((p3 &&& (2147483647 : Int32)).toInt64) - (((p3 &&& (2147483647 : Int32)).toInt64) / (((p2 &&& (1048575 : Int32)).toInt64) + (1 : Int64))) * (((p2 &&& (1048575 : Int32)).toInt64) + (1 : Int64))))) (FP.i2d ((((p2 &&& (1048575 : Int32)).toInt64) + (1 : Int64)).toInt32)))) .g) < (0 : Int32) := (by rw [own_m_3 p1 p2 p3 cc3 cc4 .g] <;> decide)
  obtain ⟨x14, ex14⟩ : ∃ z, z = (FP.dadd x11 (4607182418800017408 : UInt64)) := ⟨_, rfl⟩
  have cd15 : (cmpValue (FP.dcmp (FP.ddiv (FP.l2d ((((p1 &&& (1048575 : Int32)).toInt64) * (((p2 &&& (1048575 : Int32)).toInt64) + (1 : Int64))) + (((p3 &&& (2147483647 : Int32)).toInt64) - (((p3 &&& (2147483647 : Int32)).toInt64) / (((p2 &&& (1048575 : Int32)).toInt64) + (1 : Int64))) * (((p2 &&& (1048575 : Int32)).toInt64) + (1 : Int64))))) (FP.i2d ((((p2 &&& (1048575 : Int32)).toInt64) + (1 : Int64)).toInt32))) (FP.dadd (FP.l2d ((p1 &&& (1048575 : Int32)).toInt64)) (4607182418800017408 : UInt64))) .g) < (0 : Int32) := (by rw [own_m_4 p1 p2 p3 cc3 cc4 .g] <;> decide)
  have cd16 : (cmpValue (FP.dcmp (FP.ddiv (FP.l2d ((((p1 &&& (1048575 : Int32)).toInt64) * (((p2 &&& (1048575 : Int32)).toInt64) + (1 : Int64))) + (((p3 &&& (2147483647 : Int32)).toInt64) - (((p3 &&& (2147483647 : Int32)).toInt64) / (((p2 &&& (1048575 : Int32)).toInt64) + (1 : Int64))) * (((p2 &&& (1048575 : Int32)).toInt64) + (1 : Int64))))) (FP.i2d ((((p2 &&& (1048575 : Int32)).toInt64) + (1 : Int64)).toInt32))) (FP.dadd (FP.l2d ((p1 &&& (1048575 : Int32)).toInt64)) (4602678819172646912 : UInt64))) .g) < (0 : Int32) := (by rw [own_m_5 p1 p2 p3 cc3 cc4 .g] <;> decide)
  refine ⟨T9, _, _, _, (some (.int (1 : Int32))), X9, nofun, by decide, by decide, ?_, fun fs hr => ?_⟩
  · show Q0 n0 _ T9.heap _
    rw [e9]
    subst ex14
    subst ex12
    subst ex11
    subst ex10
    subst ex5
    subst ex4
    subst ex2
    subst ex1
    exact ⟨rfl, N9⟩
  · show Steps p.tables e below (s₁.setTop (mkF m 0 #[.val (.int p1), .val (.int p2), .val (.int p3), .val (.int p4), .val (.long p5), .second, .unset, .unset, .unset, .unset, .unset, .unset, .unset, .unset, .unset, .unset, .unset, .unset, .unset, .unset, .unset, .unset, .unset, .unset, .unset] [])) _
    refine XS.iloadN X0.here hx rfl (hb hby at_0) rfl ?_
    refine XS.iconst X0.here hx rfl (hb hby at_1) ?_
    refine XS.ishr X0.here hx rfl (hb hby at_2) rfl ?_
    refine XS.iconst X0.here hx rfl (hb hby at_3) ?_
    refine XS.iand X0.here hx rfl (hb hby at_4) rfl ?_
    show Steps p.tables e below (s₁.setTop (mkF m 5 #[.val (.int p1), .val (.int p2), .val (.int p3), .val (.int p4), .val (.long p5), .second, .unset, .unset, .unset, .unset, .unset, .unset, .unset, .unset, .unset, .unset, .unset, .unset, .unset, .unset, .unset, .unset, .unset, .unset, .unset] [(.int ((p4 >>> ((1 : Int32) &&& 31)) &&& (3 : Int32)))])) _
    rw [← ex1]
    refine XS.ifYes X0.here hx rfl (pc0 := 5) (pc' := 32) rfl (hb hby at_5) rfl ((if0 _ _).trans (feq ((by rw [ex1]; exact cc1) : ¬ (x1 = (0 : Int32)))).2) (by decide) (by decide) ?_
    refine XS.iloadN X0.here hx rfl (hb hby at_32) rfl ?_
    refine X0.ldcInt hx hown (mvT hZ (w_23 hw)) (g := (mkF m 33 #[.val (.int p1), .val (.int p2), .val (.int p3), .val (.int p4), .val (.long p5), .second, .unset, .unset, .unset, .unset, .unset, .unset, .unset, .unset, .unset, .unset, .unset, .unset, .unset, .unset, .unset, .unset, .unset, .unset, .unset] [(.int p1)])) rfl (hb hby at_33) _ ?_
    refine XS.iand X0.here hx rfl (hb hby at_35) rfl ?_
    refine XS.i2l X0.here hx rfl (hb hby at_36) rfl ?_
    refine XS.lstore X0.here hx rfl (hb hby at_37) rfl (l' := #[.val (.int p1), .val (.int p2), .val (.int p3), .val (.int p4), .val (.long p5), .second, .val (.long ((p1 &&& (1048575 : Int32)).toInt64)), .second, .unset, .unset, .unset, .unset, .unset, .unset, .unset, .unset, .unset, .unset, .unset, .unset, .unset, .unset, .unset, .unset, .unset]) rfl ?_
    refine XS.iloadN X0.here hx rfl (hb hby at_39) rfl ?_
    refine X0.ldcInt hx hown (mvT hZ (w_23 hw)) (g := (mkF m 40 #[.val (.int p1), .val (.int p2), .val (.int p3), .val (.int p4), .val (.long p5), .second, .val (.long ((p1 &&& (1048575 : Int32)).toInt64)), .second, .unset, .unset, .unset, .unset, .unset, .unset, .unset, .unset, .unset, .unset, .unset, .unset, .unset, .unset, .unset, .unset, .unset] [(.int p2)])) rfl (hb hby at_40) _ ?_
    refine XS.iand X0.here hx rfl (hb hby at_42) rfl ?_
    refine XS.i2l X0.here hx rfl (hb hby at_43) rfl ?_
    refine XS.lconst X0.here hx rfl (hb hby at_44) ?_
    show Steps p.tables e below (s₁.setTop (mkF m 45 #[.val (.int p1), .val (.int p2), .val (.int p3), .val (.int p4), .val (.long p5), .second, .val (.long ((p1 &&& (1048575 : Int32)).toInt64)), .second, .unset, .unset, .unset, .unset, .unset, .unset, .unset, .unset, .unset, .unset, .unset, .unset, .unset, .unset, .unset, .unset, .unset] [(.long (1 : Int64)), (.long ((p2 &&& (1048575 : Int32)).toInt64))])) _
    refine XS.ladd X0.here hx rfl (hb hby at_45) rfl ?_
    show Steps p.tables e below (s₁.setTop (mkF m 46 #[.val (.int p1), .val (.int p2), .val (.int p3), .val (.int p4), .val (.long p5), .second, .val (.long ((p1 &&& (1048575 : Int32)).toInt64)), .second, .unset, .unset, .unset, .unset, .unset, .unset, .unset, .unset, .unset, .unset, .unset, .unset, .unset, .unset, .unset, .unset, .unset] [(.long (((p2 &&& (1048575 : Int32)).toInt64) + (1 : Int64)))])) _
    rw [← ex2]
    refine XS.lstore X0.here hx rfl (hb hby at_46) rfl (l' := #[.val (.int p1), .val (.int p2), .val (.int p3), .val (.int p4), .val (.long p5), .second, .val (.long ((p1 &&& (1048575 : Int32)).toInt64)), .second, .val (.long x2), .second, .unset, .unset, .unset, .unset, .unset, .unset, .unset, .unset, .unset, .unset, .unset, .unset, .unset, .unset, .unset]) rfl ?_
    refine XS.iloadN X0.here hx rfl (hb hby at_48) rfl ?_
    refine X0.ldcInt hx hown (mvT hZ (w_24 hw)) (g := (mkF m 49 #[.val (.int p1), .val (.int p2), .val (.int p3), .val (.int p4), .val (.long p5), .second, .val (.long ((p1 &&& (1048575 : Int32)).toInt64)), .second, .val (.long x2), .second, .unset, .unset, .unset, .unset, .unset, .unset, .unset, .unset, .unset, .unset, .unset, .unset, .unset, .unset, .unset] [(.int p3)])) rfl (hb hby at_49) _ ?_
    refine XS.iand X0.here hx rfl (hb hby at_51) rfl ?_
    refine XS.i2l X0.here hx rfl (hb hby at_52) rfl ?_
    refine XS.lload X0.here hx rfl (hb hby at_53) rfl ?_
    refine XS.lrem X0.here hx rfl (hb hby at_55) rfl (by rw [ex2]; exact cd3) ?_
    show Steps p.tables e below (s₁.setTop (mkF m 56 #[.val (.int p1), .val (.int p2), .val (.int p3), .val (.int p4), .val (.long p5), .second, .val (.long ((p1 &&& (1048575 : Int32)).toInt64)), .second, .val (.long x2), .second, .unset, .unset, .unset, .unset, .unset, .unset, .unset, .unset, .unset, .unset, .unset, .unset, .unset, .unset, .unset] [(.long (((p3 &&& (2147483647 : Int32)).toInt64) - (((p3 &&& (2147483647 : Int32)).toInt64) / x2) * x2))])) _
    rw [← ex4]
    refine XS.lstore X0.here hx rfl (hb hby at_56) rfl (l' := #[.val (.int p1), .val (.int p2), .val (.int p3), .val (.int p4), .val (.long p5), .second, .val (.long ((p1 &&& (1048575 : Int32)).toInt64)), .second, .val (.long x2), .second, .val (.long x4), .second, .unset, .unset, .unset, .unset, .unset, .unset, .unset, .unset, .unset, .unset, .unset, .unset, .unset]) rfl ?_
    refine XS.lload X0.here hx rfl (hb hby at_58) rfl ?_
    refine XS.lload X0.here hx rfl (hb hby at_60) rfl ?_
    refine XS.lmul X0.here hx rfl (hb hby at_62) rfl ?_
    show Steps p.tables e below (s₁.setTop (mkF m 63 #[.val (.int p1), .val (.int p2), .val (.int p3), .val (.int p4), .val (.long p5), .second, .val (.long ((p1 &&& (1048575 : Int32)).toInt64)), .second, .val (.long x2), .second, .val (.long x4), .second, .unset, .unset, .unset, .unset, .unset, .unset, .unset, .unset, .unset, .unset, .unset, .unset, .unset] [(.long (((p1 &&& (1048575 : Int32)).toInt64) * x2))])) _
    rw [← ex5]
    refine XS.lload X0.here hx rfl (hb hby at_63) rfl ?_
    refine XS.ladd X0.here hx rfl (hb hby at_65) rfl ?_
    refine XS.lstore X0.here hx rfl (hb hby at_66) rfl (l' := #[.val (.int p1), .val (.int p2), .val (.int p3), .val (.int p4), .val (.long p5), .second, .val (.long ((p1 &&& (1048575 : Int32)).toInt64)), .second, .val (.long x2), .second, .val (.long x4), .second, .val (.long (x5 + x4)), .second, .unset, .unset, .unset, .unset, .unset, .unset, .unset, .unset, .unset, .unset, .unset]) rfl ?_
    refine XS.iloadN X0.here hx rfl (hb hby at_68) rfl ?_
    refine XS.iconst X0.here hx rfl (hb hby at_69) ?_
    refine XS.iand X0.here hx rfl (hb hby at_70) rfl ?_
    refine XS.ifYes X0.here hx rfl (pc0 := 71) (pc' := 78) rfl (hb hby at_71) rfl ((if0 _ _).trans (teq (cc2 : (p4 &&& (1 : Int32)) = (0 : Int32))).1) (by decide) (by decide) ?_
    refine XS.iconst X0.here hx rfl (hb hby at_78) ?_
    refine XS.istore X0.here hx rfl (hb hby at_79) rfl (l' := #[.val (.int p1), .val (.int p2), .val (.int p3), .val (.int p4), .val (.long p5), .second, .val (.long ((p1 &&& (1048575 : Int32)).toInt64)), .second, .val (.long x2), .second, .val (.long x4), .second, .val (.long (x5 + x4)), .second, .val (.int (0 : Int32)), .unset, .unset, .unset, .unset, .unset, .unset, .unset, .unset, .unset, .unset]) rfl ?_
    refine XS.iload X0.here hx rfl (hb hby at_81) rfl ?_
    refine XS.ifYes X0.here hx rfl (pc0 := 83) (pc' := 91) rfl (hb hby at_83) rfl ((if0 _ _).trans (teq ((by decide : (0 : Int32) = (0 : Int32)) : (0 : Int32) = (0 : Int32))).1) (by decide) (by decide) ?_
    show Steps p.tables e below (s₁.setTop (mkF m 91 #[.val (.int p1), .val (.int p2), .val (.int p3), .val (.int p4), .val (.long p5), .second, .val (.long ((p1 &&& (1048575 : Int32)).toInt64)), .second, .val (.long x2), .second, .val (.long x4), .second, .val (.long (x5 + x4)), .second, .val (.int (0 : Int32)), .unset, .unset, .unset, .unset, .unset, .unset, .unset, .unset, .unset, .unset] [])) _
    refine st6 _ ?_
    refine XS.dup X6.here hx rfl (hb hby at_94) rfl rfl ?_
    refine XS.lload X6.here hx rfl (hb hby at_95) rfl ?_
    refine XS.lload X6.here hx rfl (hb hby at_97) rfl ?_
    refine XS.l2i X6.here hx rfl (hb hby at_99) rfl ?_
    refine st7 _ ?_
    refine st9 _ ?_
    show Steps p.tables e below (T9.setTop (mkF m 106 #[.val (.int p1), .val (.int p2), .val (.int p3), .val (.int p4), .val (.long p5), .second, .val (.long ((p1 &&& (1048575 : Int32)).toInt64)), .second, .val (.long x2), .second, .val (.long x4), .second, .val (.long (x5 + x4)), .second, .val (.int (0 : Int32)), .unset, .unset, .unset, .unset, .unset, .unset, .unset, .unset, .unset, .unset] [(.double (FP.ddiv (FP.l2d (x5 + x4)) (FP.i2d (x2.toInt32))))])) _
    rw [← ex10]
    refine XS.dstore X9.here hx rfl (hb hby at_106) rfl (l' := #[.val (.int p1), .val (.int p2), .val (.int p3), .val (.int p4), .val (.long p5), .second, .val (.long ((p1 &&& (1048575 : Int32)).toInt64)), .second, .val (.long x2), .second, .val (.long x4), .second, .val (.long (x5 + x4)), .second, .val (.int (0 : Int32)), .val (.double x10), .second, .unset, .unset, .unset, .unset, .unset, .unset, .unset, .unset]) rfl ?_
    refine XS.iload X9.here hx rfl (hb hby at_108) rfl ?_
    refine XS.ifYes X9.here hx rfl (pc0 := 110) (pc' := 119) rfl (hb hby at_110) rfl ((if0 _ _).trans (teq ((by decide : (0 : Int32) = (0 : Int32)) : (0 : Int32) = (0 : Int32))).1) (by decide) (by decide) ?_
    refine XS.dload X9.here hx rfl (hb hby at_119) rfl ?_
    refine XS.dstore X9.here hx rfl (hb hby at_121) rfl (l' := #[.val (.int p1), .val (.int p2), .val (.int p3), .val (.int p4), .val (.long p5), .second, .val (.long ((p1 &&& (1048575 : Int32)).toInt64)), .second, .val (.long x2), .second, .val (.long x4), .second, .val (.long (x5 + x4)), .second, .val (.int (0 : Int32)), .val (.double x10), .second, .val (.double x10), .second, .unset, .unset, .unset, .unset, .unset, .unset]) rfl ?_
    refine XS.lload X9.here hx rfl (hb hby at_123) rfl ?_
    refine XS.l2dS X9.here hx rfl (hb hby at_125) rfl rfl ?_
    show Steps p.tables e below (T9.setTop (mkF m 126 #[.val (.int p1), .val (.int p2), .val (.int p3), .val (.int p4), .val (.long p5), .second, .val (.long ((p1 &&& (1048575 : Int32)).toInt64)), .second, .val (.long x2), .second, .val (.long x4), .second, .val (.long (x5 + x4)), .second, .val (.int (0 : Int32)), .val (.double x10), .second, .val (.double x10), .second, .unset, .unset, .unset, .unset, .unset, .unset] [(.double (FP.l2d ((p1 &&& (1048575 : Int32)).toInt64)))])) _
    rw [← ex11]
    refine XS.dstore X9.here hx rfl (hb hby at_126) rfl (l' := #[.val (.int p1), .val (.int p2), .val (.int p3), .val (.int p4), .val (.long p5), .second, .val (.long ((p1 &&& (1048575 : Int32)).toInt64)), .second, .val (.long x2), .second, .val (.long x4), .second, .val (.long (x5 + x4)), .second, .val (.int (0 : Int32)), .val (.double x10), .second, .val (.double x10), .second, .val (.double x11), .second, .unset, .unset, .unset, .unset]) rfl ?_
    refine XS.dload X9.here hx rfl (hb hby at_128) rfl ?_
    refine X9.ldc2DoubleC hx hown (mvT hZ (w_25 hw)) (g := (mkF m 130 #[.val (.int p1), .val (.int p2), .val (.int p3), .val (.int p4), .val (.long p5), .second, .val (.long ((p1 &&& (1048575 : Int32)).toInt64)), .second, .val (.long x2), .second, .val (.long x4), .second, .val (.long (x5 + x4)), .second, .val (.int (0 : Int32)), .val (.double x10), .second, .val (.double x10), .second, .val (.double x11), .second, .unset, .unset, .unset, .unset] [(.double x11)])) rfl (hb hby at_130) _ ?_
    refine XS.daddS X9.here hx rfl (hb hby at_133) rfl (by rw [ex11]; exact (own_nnaddh _)) rfl ?_
    show Steps p.tables e below (T9.setTop (mkF m 134 #[.val (.int p1), .val (.int p2), .val (.int p3), .val (.int p4), .val (.long p5), .second, .val (.long ((p1 &&& (1048575 : Int32)).toInt64)), .second, .val (.long x2), .second, .val (.long x4), .second, .val (.long (x5 + x4)), .second, .val (.int (0 : Int32)), .val (.double x10), .second, .val (.double x10), .second, .val (.double x11), .second, .unset, .unset, .unset, .unset] [(.double (FP.dadd x11 (4602678819172646912 : UInt64)))])) _
    rw [← ex12]
    refine XS.dstore X9.here hx rfl (hb hby at_134) rfl (l' := #[.val (.int p1), .val (.int p2), .val (.int p3), .val (.int p4), .val (.long p5), .second, .val (.long ((p1 &&& (1048575 : Int32)).toInt64)), .second, .val (.long x2), .second, .val (.long x4), .second, .val (.long (x5 + x4)), .second, .val (.int (0 : Int32)), .val (.double x10), .second, .val (.double x10), .second, .val (.double x11), .second, .val (.double x12), .second, .unset, .unset]) rfl ?_
    refine XS.lload X9.here hx rfl (hb hby at_136) rfl ?_
    refine XS.lconst X9.here hx rfl (hb hby at_138) ?_
    refine XS.lcmp X9.here hx rfl (hb hby at_139) rfl ?_
    refine XS.ifYes X9.here hx rfl (pc0 := 140) (pc' := 157) rfl (hb hby at_140) rfl ((if0 _ _).trans (feq ((by rw [ex4, ex2]; exact (fun q => cc3 ((lw_eq _ _).mp q))) : ¬ ((lcmpW x4 (0 : Int64)) = (0 : Int32)))).2) (by decide) (by decide) ?_
    refine XS.dload X9.here hx rfl (hb hby at_157) rfl ?_
    refine XS.dload X9.here hx rfl (hb hby at_159) rfl ?_
    refine XS.dcmpS X9.here hx rfl (hb hby at_161) rfl rfl ?_
    refine XS.ifNo X9.here hx rfl (hb hby at_162) rfl ((if0 _ _).trans (tlt ((by rw [ex11, ex10, ex5, ex4, ex2]; exact cd13) : (cmpValue (FP.dcmp x11 x10) .g) < (0 : Int32))).2.1) ?_
    refine XS.dload X9.here hx rfl (hb hby at_165) rfl ?_
    refine XS.dload X9.here hx rfl (hb hby at_167) rfl ?_
    show Steps p.tables e below (T9.setTop (mkF m 169 #[.val (.int p1), .val (.int p2), .val (.int p3), .val (.int p4), .val (.long p5), .second, .val (.long ((p1 &&& (1048575 : Int32)).toInt64)), .second, .val (.long x2), .second, .val (.long x4), .second, .val (.long (x5 + x4)), .second, .val (.int (0 : Int32)), .val (.double x10), .second, .val (.double x10), .second, .val (.double x11), .second, .val (.double x12), .second, .unset, .unset] [(.double x11), (.double x10)])) _
    refine XS.dconst1 X9.here hx rfl (hb hby at_169) rfl ?_
    refine XS.daddS X9.here hx rfl (hb hby at_170) rfl (by rw [ex11]; exact (own_nnadd1 _)) rfl ?_
    show Steps p.tables e below (T9.setTop (mkF m 171 #[.val (.int p1), .val (.int p2), .val (.int p3), .val (.int p4), .val (.long p5), .second, .val (.long ((p1 &&& (1048575 : Int32)).toInt64)), .second, .val (.long x2), .second, .val (.long x4), .second, .val (.long (x5 + x4)), .second, .val (.int (0 : Int32)), .val (.double x10), .second, .val (.double x10), .second, .val (.double x11), .second, .val (.double x12), .second, .unset, .unset] [(.double (FP.dadd x11 (4607182418800017408 : UInt64))), (.double x10)])) _
    rw [← ex14]
    refine XS.dcmpS X9.here hx rfl (hb hby at_171) rfl rfl ?_
    refine XS.ifYes X9.here hx rfl (pc0 := 172) (pc' := 177) rfl (hb hby at_172) rfl ((if0 _ _).trans (tlt ((by rw [ex14, ex11, ex10, ex5, ex4, ex2]; exact cd15) : (cmpValue (FP.dcmp x10 x14) .g) < (0 : Int32))).1) (by decide) (by decide) ?_
    refine X9.ldc2Long hx hown (mvT hZ (w_26 hw)) (g := (mkF m 177 #[.val (.int p1), .val (.int p2), .val (.int p3), .val (.int p4), .val (.long p5), .second, .val (.long ((p1 &&& (1048575 : Int32)).toInt64)), .second, .val (.long x2), .second, .val (.long x4), .second, .val (.long (x5 + x4)), .second, .val (.int (0 : Int32)), .val (.double x10), .second, .val (.double x10), .second, .val (.double x11), .second, .val (.double x12), .second, .unset, .unset] [])) rfl (hb hby at_177) _ ?_
    refine XS.lload X9.here hx rfl (hb hby at_180) rfl ?_
    refine XS.lmul X9.here hx rfl (hb hby at_182) rfl ?_
    refine XS.lstore X9.here hx rfl (hb hby at_183) rfl (l' := #[.val (.int p1), .val (.int p2), .val (.int p3), .val (.int p4), .val (.long p5), .second, .val (.long ((p1 &&& (1048575 : Int32)).toInt64)), .second, .val (.long x2), .second, .val (.long x4), .second, .val (.long (x5 + x4)), .second, .val (.int (0 : Int32)), .val (.double x10), .second, .val (.double x10), .second, .val (.double x11), .second, .val (.double x12), .second, .val (.long ((2 : Int64) * x4)), .second]) rfl ?_
    refine XS.lload X9.here hx rfl (hb hby at_185) rfl ?_
    refine XS.lload X9.here hx rfl (hb hby at_187) rfl ?_
    refine XS.lcmp X9.here hx rfl (hb hby at_189) rfl ?_
    refine XS.ifNo X9.here hx rfl (hb hby at_190) rfl ((if0 _ _).trans (tlt ((by rw [ex4, ex2]; exact ((lw_lt _ _).mpr cc4)) : (lcmpW ((2 : Int64) * x4) x2) < (0 : Int32))).2.1) ?_
    refine XS.dload X9.here hx rfl (hb hby at_193) rfl ?_
    show Steps p.tables e below (T9.setTop (mkF m 195 #[.val (.int p1), .val (.int p2), .val (.int p3), .val (.int p4), .val (.long p5), .second, .val (.long ((p1 &&& (1048575 : Int32)).toInt64)), .second, .val (.long x2), .second, .val (.long x4), .second, .val (.long (x5 + x4)), .second, .val (.int (0 : Int32)), .val (.double x10), .second, .val (.double x10), .second, .val (.double x11), .second, .val (.double x12), .second, .val (.long ((2 : Int64) * x4)), .second] [(.double x10)])) _
    refine XS.dload X9.here hx rfl (hb hby at_195) rfl ?_
    refine XS.dcmpS X9.here hx rfl (hb hby at_197) rfl rfl ?_
    refine XS.ifNo X9.here hx rfl (hb hby at_198) rfl ((if0 _ _).trans (tlt ((by rw [ex12, ex11, ex10, ex5, ex4, ex2]; exact cd16) : (cmpValue (FP.dcmp x10 x12) .g) < (0 : Int32))).2.1) ?_
    refine XS.iconst X9.here hx rfl (hb hby at_201) ?_
    refine XS.goto X9.here hx rfl (pc0 := 202) (pc' := 206) rfl (hb hby at_202) (by decide) (by decide) ?_
    exact retN X9 hx (t := .boolean) hret (by simp) (hb hby at_206) hr
theorem rm0_3 (l : Launch) (Z : State) (a0 : Array Value) (hw : ∀ d ∈ tables_1, d.before a0 Z = true) (ws : List Jvm.Cond) (p1 : Int32) (p2 : Int32) (p3 : Int32) (p4 : Int32) (p5 : Int64) (h0 : Heap) (n0 : Nat) (Z0 : n0 ≤ h0.size) (Od0 : Old Z n0 h0) (cc1 : ¬ (((p4 >>> ((1 : Int32) &&& 31)) &&& (3 : Int32)) = (0 : Int32))) (cc2 : (p4 &&& (1 : Int32)) = (0 : Int32)) (cc3 : ¬ ((((p3 &&& (2147483647 : Int32)).toInt64) - (((p3 &&& (2147483647 : Int32)).toInt64) / (((p2 &&& (1048575 : Int32)).toInt64) + (1 : Int64))) * (((p2 &&& (1048575 : Int32)).toInt64) + (1 : Int64))) = (0 : Int64))) (cc4 : ¬ (((2 : Int64) * (((p3 &&& (2147483647 : Int32)).toInt64) - (((p3 &&& (2147483647 : Int32)).toInt64) / (((p2 &&& (1048575 : Int32)).toInt64) + (1 : Int64))) * (((p2 &&& (1048575 : Int32)).toInt64) + (1 : Int64)))) < (((p2 &&& (1048575 : Int32)).toInt64) + (1 : Int64)))) (cc5 : (((p2 &&& (1048575 : Int32)).toInt64) + (1 : Int64)) < ((2 : Int64) * (((p3 &&& (2147483647 : Int32)).toInt64) - (((p3 &&& (2147483647 : Int32)).toInt64) / (((p2 &&& (1048575 : Int32)).toInt64) + (1 : Int64))) * (((p2 &&& (1048575 : Int32)).toInt64) + (1 : Int64))))) :
    OwnMet l Z x code maxLocals ret ws room_1 #[(.int p1), (.int p2), (.int p3), (.int p4), (.long p5)] h0 (Q0 n0) := by
  refine own_body (plainFor_of_name pn_2) (ef0 p1 p2 p3 p4 p5) ?_
  intro p e s m below meth c s₁ hx hby hml hown hnm hret hZ X0 e0
  have N0 := Fr.nil n0
  obtain ⟨x1, ex1⟩ : ∃ z, z = ((p4 >>> ((1 : Int32) &&& 31)) &&& (3 : Int32)) := ⟨_, rfl⟩
  obtain ⟨x2, ex2⟩ : ∃ z, z = (((p2 &&& (1048575 : Int32)).toInt64) + (1 : Int64)) := ⟨_, rfl⟩
  have cd3 : ¬ ((((p2 &&& (1048575 : Int32)).toInt64) + (1 : Int64)) = (0 : Int64)) := (own_N_ne p2)
  obtain ⟨x4, ex4⟩ : ∃ z, z = (((p3 &&& (2147483647 : Int32)).toInt64) - (((p3 &&& (2147483647 : Int32)).toInt64) / x2) * x2) := ⟨_, rfl⟩
  obtain ⟨x5, ex5⟩ : ∃ z, z = (((p1 &&& (1048575 : Int32)).toInt64) * x2) := ⟨_, rfl⟩
  obtain ⟨T6, h6, X6, e6, E6, A6, D6, -, st6⟩ := newO X0 hx hZ hown (w_0 hw) (w_1 hw) (w_2 hw) e0 (g := (mkF m 91 #[.val (.int p1), .val (.int p2), .val (.int p3), .val (.int p4), .val (.long p5), .second, .val (.long ((p1 &&& (1048575 : Int32)).toInt64)), .second, .val (.long x2), .second, .val (.long x4), .second, .val (.long (x5 + x4)), .second, .val (.int (0 : Int32)), .unset, .unset, .unset, .unset, .unset, .unset, .unset, .unset, .unset, .unset] [])) rfl (hb hby at_91) (by decide) (by decide)
  obtain ⟨b6, g6⟩ : ∃ z, z = h0.size := ⟨_, rfl⟩
  rw [← g6] at A6 D6 st6
  have s0 := E6.1
  have Fn6_termCount : Fld Z h6 b6 "com/example/senret/senret/IndexStatistics" "termCount" "J" (.long (0 : Int64)) := D6 (Or.inr (w_15 hw)) (ty := .long) (by decide)
  have Fn6_sentenceCount : Fld Z h6 b6 "com/example/senret/senret/IndexStatistics" "sentenceCount" "I" (.int (0 : Int32)) := D6 (Or.inr (w_17 hw)) (ty := .int) (by decide)
  have g_b6 : n0 ≤ b6 := Nat.le_trans Z0 (Nat.le_of_eq g6.symm)
  have z1 := Nat.le_trans Z0 s0
  obtain ⟨_, T7, L7, X7, hQ7, st7⟩ := own_special X6 hx hZ hown (y := y_1) (a := b6) (w_3 hw) (w_4 hw) (w_2 hw) (w_5 hw) (rm4 l Z a0 hw [] b6 (x5 + x4) (x2.toInt32) h6 n0 z1 Fn6_termCount A6 g_b6 Fn6_sentenceCount) e6 (Ls := #[.val (.int p1), .val (.int p2), .val (.int p3), .val (.int p4), .val (.long p5), .second, .val (.long ((p1 &&& (1048575 : Int32)).toInt64)), .second, .val (.long x2), .second, .val (.long x4), .second, .val (.long (x5 + x4)), .second, .val (.int (0 : Int32)), .unset, .unset, .unset, .unset, .unset, .unset, .unset, .unset, .unset, .unset]) (by rw [hml]; rfl) (argsL := [(.long (x5 + x4)), (.int (x2.toInt32))]) (rest := [(.ref b6)]) (lenOf pd_1 rfl) (hb hby at_100) (W := 1)
  obtain ⟨rfl, Nq7, K7, o7_0, o7_1, o7_2⟩ := hQ7
  have N7 := Fr.app N0 Nq7
  have s1 := K7.1
  have cd8 : ¬ (((((p2 &&& (1048575 : Int32)).toInt64) + (1 : Int64)).toInt32) = (0 : Int32)) := (own_NI_ne p2)
  have z2 := Nat.le_trans Z0 (Nat.le_trans s0 s1)
  obtain ⟨_, T9, L9, X9, hQ9, st9⟩ := own_virtual X7 hx hZ hown (y := y_2) (z := y_2) o7_0 (w_18 hw) (w_19 hw) (notFace_of_selects (args := #[]) (mvT hZ (w_21 hw))) (w_21 hw) (w_20 hw) (w_2 hw) (w_22 hw) (rm5 l Z a0 hw [] b6 (x2.toInt32) (x5 + x4) T7.heap n0 z2 o7_1 (by rw [ex2]; exact cd8) o7_2) rfl (Ls := #[.val (.int p1), .val (.int p2), .val (.int p3), .val (.int p4), .val (.long p5), .second, .val (.long ((p1 &&& (1048575 : Int32)).toInt64)), .second, .val (.long x2), .second, .val (.long x4), .second, .val (.long (x5 + x4)), .second, .val (.int (0 : Int32)), .unset, .unset, .unset, .unset, .unset, .unset, .unset, .unset, .unset, .unset]) (by rw [hml]; rfl) (argsL := []) (rest := []) (lenOf pd_2 rfl) (hb hby at_103) (W := 0)
  obtain ⟨rfl, Nq9, e9⟩ := hQ9
  have N9 := Fr.app N7 Nq9
  obtain ⟨x10, ex10⟩ : ∃ z, z = (FP.ddiv (FP.l2d (x5 + x4)) (FP.i2d (x2.toInt32))) := ⟨_, rfl⟩
  obtain ⟨x11, ex11⟩ : ∃ z, z = (FP.l2d ((p1 &&& (1048575 : Int32)).toInt64)) := ⟨_, rfl⟩
  obtain ⟨x12, ex12⟩ : ∃ z, z = (FP.dadd x11 (4602678819172646912 : UInt64)) := ⟨_, rfl⟩
  have cd13 : (cmpValue (FP.dcmp (FP.l2d ((p1 &&& (1048575 : Int32)).toInt64)) (FP.ddiv (FP.l2d ((((p1 &&& (1048575 : Int32)).toInt64) * (((p2 &&& (1048575 : Int32)).toInt64) + (1 : Int64))) + (((p3 &&& (2147483647 : Int32)).toInt64) - (((p3 &&& (2147483647 : Int32)).toInt64) / (((p2 &&& (1048575 : Int32)).toInt64) + (1 : Int64))) * (((p2 &&& (1048575 : Int32)).toInt64) + (1 : Int64))))) (FP.i2d ((((p2 &&& (1048575 : Int32)).toInt64) + (1 : Int64)).toInt32)))) .g) < (0 : Int32) := (by rw [own_m_8 p1 p2 p3 cc3 cc4 cc5 .g] <;> decide)
  obtain ⟨x14, ex14⟩ : ∃ z, z = (FP.dadd x11 (4607182418800017408 : UInt64)) := ⟨_, rfl⟩
  have cd15 : (cmpValue (FP.dcmp (FP.ddiv (FP.l2d ((((p1 &&& (1048575 : Int32)).toInt64) * (((p2 &&& (1048575 : Int32)).toInt64) + (1 : Int64))) + (((p3 &&& (2147483647 : Int32)).toInt64) - (((p3 &&& (2147483647 : Int32)).toInt64) / (((p2 &&& (1048575 : Int32)).toInt64) + (1 : Int64))) * (((p2 &&& (1048575 : Int32)).toInt64) + (1 : Int64))))) (FP.i2d ((((p2 &&& (1048575 : Int32)).toInt64) + (1 : Int64)).toInt32))) (FP.dadd (FP.l2d ((p1 &&& (1048575 : Int32)).toInt64)) (4607182418800017408 : UInt64))) .g) < (0 : Int32) := (by rw [own_m_9 p1 p2 p3 cc3 cc4 cc5 .g] <;> decide)
  have cd16 : (0 : Int32) < (cmpValue (FP.dcmp (FP.ddiv (FP.l2d ((((p1 &&& (1048575 : Int32)).toInt64) * (((p2 &&& (1048575 : Int32)).toInt64) + (1 : Int64))) + (((p3 &&& (2147483647 : Int32)).toInt64) - (((p3 &&& (2147483647 : Int32)).toInt64) / (((p2 &&& (1048575 : Int32)).toInt64) + (1 : Int64))) * (((p2 &&& (1048575 : Int32)).toInt64) + (1 : Int64))))) (FP.i2d ((((p2 &&& (1048575 : Int32)).toInt64) + (1 : Int64)).toInt32))) (FP.dadd (FP.l2d ((p1 &&& (1048575 : Int32)).toInt64)) (4602678819172646912 : UInt64))) .l) := (by rw [own_m_10 p1 p2 p3 cc3 cc4 cc5 .l] <;> decide)
  refine ⟨T9, _, _, _, (some (.int (1 : Int32))), X9, nofun, by decide, by decide, ?_, fun fs hr => ?_⟩
  · show Q0 n0 _ T9.heap _
    rw [e9]
    subst ex14
    subst ex12
    subst ex11
    subst ex10
    subst ex5
    subst ex4
    subst ex2
    subst ex1
    exact ⟨rfl, N9⟩
  · show Steps p.tables e below (s₁.setTop (mkF m 0 #[.val (.int p1), .val (.int p2), .val (.int p3), .val (.int p4), .val (.long p5), .second, .unset, .unset, .unset, .unset, .unset, .unset, .unset, .unset, .unset, .unset, .unset, .unset, .unset, .unset, .unset, .unset, .unset, .unset, .unset] [])) _
    refine XS.iloadN X0.here hx rfl (hb hby at_0) rfl ?_
    refine XS.iconst X0.here hx rfl (hb hby at_1) ?_
    refine XS.ishr X0.here hx rfl (hb hby at_2) rfl ?_
    refine XS.iconst X0.here hx rfl (hb hby at_3) ?_
    refine XS.iand X0.here hx rfl (hb hby at_4) rfl ?_
    show Steps p.tables e below (s₁.setTop (mkF m 5 #[.val (.int p1), .val (.int p2), .val (.int p3), .val (.int p4), .val (.long p5), .second, .unset, .unset, .unset, .unset, .unset, .unset, .unset, .unset, .unset, .unset, .unset, .unset, .unset, .unset, .unset, .unset, .unset, .unset, .unset] [(.int ((p4 >>> ((1 : Int32) &&& 31)) &&& (3 : Int32)))])) _
    rw [← ex1]
    refine XS.ifYes X0.here hx rfl (pc0 := 5) (pc' := 32) rfl (hb hby at_5) rfl ((if0 _ _).trans (feq ((by rw [ex1]; exact cc1) : ¬ (x1 = (0 : Int32)))).2) (by decide) (by decide) ?_
    refine XS.iloadN X0.here hx rfl (hb hby at_32) rfl ?_
    refine X0.ldcInt hx hown (mvT hZ (w_23 hw)) (g := (mkF m 33 #[.val (.int p1), .val (.int p2), .val (.int p3), .val (.int p4), .val (.long p5), .second, .unset, .unset, .unset, .unset, .unset, .unset, .unset, .unset, .unset, .unset, .unset, .unset, .unset, .unset, .unset, .unset, .unset, .unset, .unset] [(.int p1)])) rfl (hb hby at_33) _ ?_
    refine XS.iand X0.here hx rfl (hb hby at_35) rfl ?_
    refine XS.i2l X0.here hx rfl (hb hby at_36) rfl ?_
    refine XS.lstore X0.here hx rfl (hb hby at_37) rfl (l' := #[.val (.int p1), .val (.int p2), .val (.int p3), .val (.int p4), .val (.long p5), .second, .val (.long ((p1 &&& (1048575 : Int32)).toInt64)), .second, .unset, .unset, .unset, .unset, .unset, .unset, .unset, .unset, .unset, .unset, .unset, .unset, .unset, .unset, .unset, .unset, .unset]) rfl ?_
    refine XS.iloadN X0.here hx rfl (hb hby at_39) rfl ?_
    refine X0.ldcInt hx hown (mvT hZ (w_23 hw)) (g := (mkF m 40 #[.val (.int p1), .val (.int p2), .val (.int p3), .val (.int p4), .val (.long p5), .second, .val (.long ((p1 &&& (1048575 : Int32)).toInt64)), .second, .unset, .unset, .unset, .unset, .unset, .unset, .unset, .unset, .unset, .unset, .unset, .unset, .unset, .unset, .unset, .unset, .unset] [(.int p2)])) rfl (hb hby at_40) _ ?_
    refine XS.iand X0.here hx rfl (hb hby at_42) rfl ?_
    refine XS.i2l X0.here hx rfl (hb hby at_43) rfl ?_
    refine XS.lconst X0.here hx rfl (hb hby at_44) ?_
    show Steps p.tables e below (s₁.setTop (mkF m 45 #[.val (.int p1), .val (.int p2), .val (.int p3), .val (.int p4), .val (.long p5), .second, .val (.long ((p1 &&& (1048575 : Int32)).toInt64)), .second, .unset, .unset, .unset, .unset, .unset, .unset, .unset, .unset, .unset, .unset, .unset, .unset, .unset, .unset, .unset, .unset, .unset] [(.long (1 : Int64)), (.long ((p2 &&& (1048575 : Int32)).toInt64))])) _
    refine XS.ladd X0.here hx rfl (hb hby at_45) rfl ?_
    show Steps p.tables e below (s₁.setTop (mkF m 46 #[.val (.int p1), .val (.int p2), .val (.int p3), .val (.int p4), .val (.long p5), .second, .val (.long ((p1 &&& (1048575 : Int32)).toInt64)), .second, .unset, .unset, .unset, .unset, .unset, .unset, .unset, .unset, .unset, .unset, .unset, .unset, .unset, .unset, .unset, .unset, .unset] [(.long (((p2 &&& (1048575 : Int32)).toInt64) + (1 : Int64)))])) _
    rw [← ex2]
    refine XS.lstore X0.here hx rfl (hb hby at_46) rfl (l' := #[.val (.int p1), .val (.int p2), .val (.int p3), .val (.int p4), .val (.long p5), .second, .val (.long ((p1 &&& (1048575 : Int32)).toInt64)), .second, .val (.long x2), .second, .unset, .unset, .unset, .unset, .unset, .unset, .unset, .unset, .unset, .unset, .unset, .unset, .unset, .unset, .unset]) rfl ?_
    refine XS.iloadN X0.here hx rfl (hb hby at_48) rfl ?_
    refine X0.ldcInt hx hown (mvT hZ (w_24 hw)) (g := (mkF m 49 #[.val (.int p1), .val (.int p2), .val (.int p3), .val (.int p4), .val (.long p5), .second, .val (.long ((p1 &&& (1048575 : Int32)).toInt64)), .second, .val (.long x2), .second, .unset, .unset, .unset, .unset, .unset, .unset, .unset, .unset, .unset, .unset, .unset, .unset, .unset, .unset, .unset] [(.int p3)])) rfl (hb hby at_49) _ ?_
    refine XS.iand X0.here hx rfl (hb hby at_51) rfl ?_
    refine XS.i2l X0.here hx rfl (hb hby at_52) rfl ?_
    refine XS.lload X0.here hx rfl (hb hby at_53) rfl ?_
    refine XS.lrem X0.here hx rfl (hb hby at_55) rfl (by rw [ex2]; exact cd3) ?_
    show Steps p.tables e below (s₁.setTop (mkF m 56 #[.val (.int p1), .val (.int p2), .val (.int p3), .val (.int p4), .val (.long p5), .second, .val (.long ((p1 &&& (1048575 : Int32)).toInt64)), .second, .val (.long x2), .second, .unset, .unset, .unset, .unset, .unset, .unset, .unset, .unset, .unset, .unset, .unset, .unset, .unset, .unset, .unset] [(.long (((p3 &&& (2147483647 : Int32)).toInt64) - (((p3 &&& (2147483647 : Int32)).toInt64) / x2) * x2))])) _
    rw [← ex4]
    refine XS.lstore X0.here hx rfl (hb hby at_56) rfl (l' := #[.val (.int p1), .val (.int p2), .val (.int p3), .val (.int p4), .val (.long p5), .second, .val (.long ((p1 &&& (1048575 : Int32)).toInt64)), .second, .val (.long x2), .second, .val (.long x4), .second, .unset, .unset, .unset, .unset, .unset, .unset, .unset, .unset, .unset, .unset, .unset, .unset, .unset]) rfl ?_
    refine XS.lload X0.here hx rfl (hb hby at_58) rfl ?_
    refine XS.lload X0.here hx rfl (hb hby at_60) rfl ?_
    refine XS.lmul X0.here hx rfl (hb hby at_62) rfl ?_
    show Steps p.tables e below (s₁.setTop (mkF m 63 #[.val (.int p1), .val (.int p2), .val (.int p3), .val (.int p4), .val (.long p5), .second, .val (.long ((p1 &&& (1048575 : Int32)).toInt64)), .second, .val (.long x2), .second, .val (.long x4), .second, .unset, .unset, .unset, .unset, .unset, .unset, .unset, .unset, .unset, .unset, .unset, .unset, .unset] [(.long (((p1 &&& (1048575 : Int32)).toInt64) * x2))])) _
    rw [← ex5]
    refine XS.lload X0.here hx rfl (hb hby at_63) rfl ?_
    refine XS.ladd X0.here hx rfl (hb hby at_65) rfl ?_
    refine XS.lstore X0.here hx rfl (hb hby at_66) rfl (l' := #[.val (.int p1), .val (.int p2), .val (.int p3), .val (.int p4), .val (.long p5), .second, .val (.long ((p1 &&& (1048575 : Int32)).toInt64)), .second, .val (.long x2), .second, .val (.long x4), .second, .val (.long (x5 + x4)), .second, .unset, .unset, .unset, .unset, .unset, .unset, .unset, .unset, .unset, .unset, .unset]) rfl ?_
    refine XS.iloadN X0.here hx rfl (hb hby at_68) rfl ?_
    refine XS.iconst X0.here hx rfl (hb hby at_69) ?_
    refine XS.iand X0.here hx rfl (hb hby at_70) rfl ?_
    refine XS.ifYes X0.here hx rfl (pc0 := 71) (pc' := 78) rfl (hb hby at_71) rfl ((if0 _ _).trans (teq (cc2 : (p4 &&& (1 : Int32)) = (0 : Int32))).1) (by decide) (by decide) ?_
    refine XS.iconst X0.here hx rfl (hb hby at_78) ?_
    refine XS.istore X0.here hx rfl (hb hby at_79) rfl (l' := #[.val (.int p1), .val (.int p2), .val (.int p3), .val (.int p4), .val (.long p5), .second, .val (.long ((p1 &&& (1048575 : Int32)).toInt64)), .second, .val (.long x2), .second, .val (.long x4), .second, .val (.long (x5 + x4)), .second, .val (.int (0 : Int32)), .unset, .unset, .unset, .unset, .unset, .unset, .unset, .unset, .unset, .unset]) rfl ?_
    refine XS.iload X0.here hx rfl (hb hby at_81) rfl ?_
    refine XS.ifYes X0.here hx rfl (pc0 := 83) (pc' := 91) rfl (hb hby at_83) rfl ((if0 _ _).trans (teq ((by decide : (0 : Int32) = (0 : Int32)) : (0 : Int32) = (0 : Int32))).1) (by decide) (by decide) ?_
    show Steps p.tables e below (s₁.setTop (mkF m 91 #[.val (.int p1), .val (.int p2), .val (.int p3), .val (.int p4), .val (.long p5), .second, .val (.long ((p1 &&& (1048575 : Int32)).toInt64)), .second, .val (.long x2), .second, .val (.long x4), .second, .val (.long (x5 + x4)), .second, .val (.int (0 : Int32)), .unset, .unset, .unset, .unset, .unset, .unset, .unset, .unset, .unset, .unset] [])) _
    refine st6 _ ?_
    refine XS.dup X6.here hx rfl (hb hby at_94) rfl rfl ?_
    refine XS.lload X6.here hx rfl (hb hby at_95) rfl ?_
    refine XS.lload X6.here hx rfl (hb hby at_97) rfl ?_
    refine XS.l2i X6.here hx rfl (hb hby at_99) rfl ?_
    refine st7 _ ?_
    refine st9 _ ?_
    show Steps p.tables e below (T9.setTop (mkF m 106 #[.val (.int p1), .val (.int p2), .val (.int p3), .val (.int p4), .val (.long p5), .second, .val (.long ((p1 &&& (1048575 : Int32)).toInt64)), .second, .val (.long x2), .second, .val (.long x4), .second, .val (.long (x5 + x4)), .second, .val (.int (0 : Int32)), .unset, .unset, .unset, .unset, .unset, .unset, .unset, .unset, .unset, .unset] [(.double (FP.ddiv (FP.l2d (x5 + x4)) (FP.i2d (x2.toInt32))))])) _
    rw [← ex10]
    refine XS.dstore X9.here hx rfl (hb hby at_106) rfl (l' := #[.val (.int p1), .val (.int p2), .val (.int p3), .val (.int p4), .val (.long p5), .second, .val (.long ((p1 &&& (1048575 : Int32)).toInt64)), .second, .val (.long x2), .second, .val (.long x4), .second, .val (.long (x5 + x4)), .second, .val (.int (0 : Int32)), .val (.double x10), .second, .unset, .unset, .unset, .unset, .unset, .unset, .unset, .unset]) rfl ?_
    refine XS.iload X9.here hx rfl (hb hby at_108) rfl ?_
    refine XS.ifYes X9.here hx rfl (pc0 := 110) (pc' := 119) rfl (hb hby at_110) rfl ((if0 _ _).trans (teq ((by decide : (0 : Int32) = (0 : Int32)) : (0 : Int32) = (0 : Int32))).1) (by decide) (by decide) ?_
    refine XS.dload X9.here hx rfl (hb hby at_119) rfl ?_
    refine XS.dstore X9.here hx rfl (hb hby at_121) rfl (l' := #[.val (.int p1), .val (.int p2), .val (.int p3), .val (.int p4), .val (.long p5), .second, .val (.long ((p1 &&& (1048575 : Int32)).toInt64)), .second, .val (.long x2), .second, .val (.long x4), .second, .val (.long (x5 + x4)), .second, .val (.int (0 : Int32)), .val (.double x10), .second, .val (.double x10), .second, .unset, .unset, .unset, .unset, .unset, .unset]) rfl ?_
    refine XS.lload X9.here hx rfl (hb hby at_123) rfl ?_
    refine XS.l2dS X9.here hx rfl (hb hby at_125) rfl rfl ?_
    show Steps p.tables e below (T9.setTop (mkF m 126 #[.val (.int p1), .val (.int p2), .val (.int p3), .val (.int p4), .val (.long p5), .second, .val (.long ((p1 &&& (1048575 : Int32)).toInt64)), .second, .val (.long x2), .second, .val (.long x4), .second, .val (.long (x5 + x4)), .second, .val (.int (0 : Int32)), .val (.double x10), .second, .val (.double x10), .second, .unset, .unset, .unset, .unset, .unset, .unset] [(.double (FP.l2d ((p1 &&& (1048575 : Int32)).toInt64)))])) _
    rw [← ex11]
    refine XS.dstore X9.here hx rfl (hb hby at_126) rfl (l' := #[.val (.int p1), .val (.int p2), .val (.int p3), .val (.int p4), .val (.long p5), .second, .val (.long ((p1 &&& (1048575 : Int32)).toInt64)), .second, .val (.long x2), .second, .val (.long x4), .second, .val (.long (x5 + x4)), .second, .val (.int (0 : Int32)), .val (.double x10), .second, .val (.double x10), .second, .val (.double x11), .second, .unset, .unset, .unset, .unset]) rfl ?_
    refine XS.dload X9.here hx rfl (hb hby at_128) rfl ?_
    refine X9.ldc2DoubleC hx hown (mvT hZ (w_25 hw)) (g := (mkF m 130 #[.val (.int p1), .val (.int p2), .val (.int p3), .val (.int p4), .val (.long p5), .second, .val (.long ((p1 &&& (1048575 : Int32)).toInt64)), .second, .val (.long x2), .second, .val (.long x4), .second, .val (.long (x5 + x4)), .second, .val (.int (0 : Int32)), .val (.double x10), .second, .val (.double x10), .second, .val (.double x11), .second, .unset, .unset, .unset, .unset] [(.double x11)])) rfl (hb hby at_130) _ ?_
    refine XS.daddS X9.here hx rfl (hb hby at_133) rfl (by rw [ex11]; exact (own_nnaddh _)) rfl ?_
    show Steps p.tables e below (T9.setTop (mkF m 134 #[.val (.int p1), .val (.int p2), .val (.int p3), .val (.int p4), .val (.long p5), .second, .val (.long ((p1 &&& (1048575 : Int32)).toInt64)), .second, .val (.long x2), .second, .val (.long x4), .second, .val (.long (x5 + x4)), .second, .val (.int (0 : Int32)), .val (.double x10), .second, .val (.double x10), .second, .val (.double x11), .second, .unset, .unset, .unset, .unset] [(.double (FP.dadd x11 (4602678819172646912 : UInt64)))])) _
    rw [← ex12]
    refine XS.dstore X9.here hx rfl (hb hby at_134) rfl (l' := #[.val (.int p1), .val (.int p2), .val (.int p3), .val (.int p4), .val (.long p5), .second, .val (.long ((p1 &&& (1048575 : Int32)).toInt64)), .second, .val (.long x2), .second, .val (.long x4), .second, .val (.long (x5 + x4)), .second, .val (.int (0 : Int32)), .val (.double x10), .second, .val (.double x10), .second, .val (.double x11), .second, .val (.double x12), .second, .unset, .unset]) rfl ?_
    refine XS.lload X9.here hx rfl (hb hby at_136) rfl ?_
    refine XS.lconst X9.here hx rfl (hb hby at_138) ?_
    refine XS.lcmp X9.here hx rfl (hb hby at_139) rfl ?_
    refine XS.ifYes X9.here hx rfl (pc0 := 140) (pc' := 157) rfl (hb hby at_140) rfl ((if0 _ _).trans (feq ((by rw [ex4, ex2]; exact (fun q => cc3 ((lw_eq _ _).mp q))) : ¬ ((lcmpW x4 (0 : Int64)) = (0 : Int32)))).2) (by decide) (by decide) ?_
    refine XS.dload X9.here hx rfl (hb hby at_157) rfl ?_
    refine XS.dload X9.here hx rfl (hb hby at_159) rfl ?_
    refine XS.dcmpS X9.here hx rfl (hb hby at_161) rfl rfl ?_
    refine XS.ifNo X9.here hx rfl (hb hby at_162) rfl ((if0 _ _).trans (tlt ((by rw [ex11, ex10, ex5, ex4, ex2]; exact cd13) : (cmpValue (FP.dcmp x11 x10) .g) < (0 : Int32))).2.1) ?_
    refine XS.dload X9.here hx rfl (hb hby at_165) rfl ?_
    refine XS.dload X9.here hx rfl (hb hby at_167) rfl ?_
    show Steps p.tables e below (T9.setTop (mkF m 169 #[.val (.int p1), .val (.int p2), .val (.int p3), .val (.int p4), .val (.long p5), .second, .val (.long ((p1 &&& (1048575 : Int32)).toInt64)), .second, .val (.long x2), .second, .val (.long x4), .second, .val (.long (x5 + x4)), .second, .val (.int (0 : Int32)), .val (.double x10), .second, .val (.double x10), .second, .val (.double x11), .second, .val (.double x12), .second, .unset, .unset] [(.double x11), (.double x10)])) _
    refine XS.dconst1 X9.here hx rfl (hb hby at_169) rfl ?_
    refine XS.daddS X9.here hx rfl (hb hby at_170) rfl (by rw [ex11]; exact (own_nnadd1 _)) rfl ?_
    show Steps p.tables e below (T9.setTop (mkF m 171 #[.val (.int p1), .val (.int p2), .val (.int p3), .val (.int p4), .val (.long p5), .second, .val (.long ((p1 &&& (1048575 : Int32)).toInt64)), .second, .val (.long x2), .second, .val (.long x4), .second, .val (.long (x5 + x4)), .second, .val (.int (0 : Int32)), .val (.double x10), .second, .val (.double x10), .second, .val (.double x11), .second, .val (.double x12), .second, .unset, .unset] [(.double (FP.dadd x11 (4607182418800017408 : UInt64))), (.double x10)])) _
    rw [← ex14]
    refine XS.dcmpS X9.here hx rfl (hb hby at_171) rfl rfl ?_
    refine XS.ifYes X9.here hx rfl (pc0 := 172) (pc' := 177) rfl (hb hby at_172) rfl ((if0 _ _).trans (tlt ((by rw [ex14, ex11, ex10, ex5, ex4, ex2]; exact cd15) : (cmpValue (FP.dcmp x10 x14) .g) < (0 : Int32))).1) (by decide) (by decide) ?_
    refine X9.ldc2Long hx hown (mvT hZ (w_26 hw)) (g := (mkF m 177 #[.val (.int p1), .val (.int p2), .val (.int p3), .val (.int p4), .val (.long p5), .second, .val (.long ((p1 &&& (1048575 : Int32)).toInt64)), .second, .val (.long x2), .second, .val (.long x4), .second, .val (.long (x5 + x4)), .second, .val (.int (0 : Int32)), .val (.double x10), .second, .val (.double x10), .second, .val (.double x11), .second, .val (.double x12), .second, .unset, .unset] [])) rfl (hb hby at_177) _ ?_
    refine XS.lload X9.here hx rfl (hb hby at_180) rfl ?_
    refine XS.lmul X9.here hx rfl (hb hby at_182) rfl ?_
    refine XS.lstore X9.here hx rfl (hb hby at_183) rfl (l' := #[.val (.int p1), .val (.int p2), .val (.int p3), .val (.int p4), .val (.long p5), .second, .val (.long ((p1 &&& (1048575 : Int32)).toInt64)), .second, .val (.long x2), .second, .val (.long x4), .second, .val (.long (x5 + x4)), .second, .val (.int (0 : Int32)), .val (.double x10), .second, .val (.double x10), .second, .val (.double x11), .second, .val (.double x12), .second, .val (.long ((2 : Int64) * x4)), .second]) rfl ?_
    refine XS.lload X9.here hx rfl (hb hby at_185) rfl ?_
    refine XS.lload X9.here hx rfl (hb hby at_187) rfl ?_
    refine XS.lcmp X9.here hx rfl (hb hby at_189) rfl ?_
    refine XS.ifYes X9.here hx rfl (pc0 := 190) (pc' := 207) rfl (hb hby at_190) rfl ((if0 _ _).trans (flt ((by rw [ex4, ex2]; exact (fun q => cc4 ((lw_lt _ _).mp q))) : ¬ ((lcmpW ((2 : Int64) * x4) x2) < (0 : Int32)))).2.1) (by decide) (by decide) ?_
    refine XS.lload X9.here hx rfl (hb hby at_207) rfl ?_
    show Steps p.tables e below (T9.setTop (mkF m 209 #[.val (.int p1), .val (.int p2), .val (.int p3), .val (.int p4), .val (.long p5), .second, .val (.long ((p1 &&& (1048575 : Int32)).toInt64)), .second, .val (.long x2), .second, .val (.long x4), .second, .val (.long (x5 + x4)), .second, .val (.int (0 : Int32)), .val (.double x10), .second, .val (.double x10), .second, .val (.double x11), .second, .val (.double x12), .second, .val (.long ((2 : Int64) * x4)), .second] [(.long ((2 : Int64) * x4))])) _
    refine XS.lload X9.here hx rfl (hb hby at_209) rfl ?_
    refine XS.lcmp X9.here hx rfl (hb hby at_211) rfl ?_
    refine XS.ifNo X9.here hx rfl (hb hby at_212) rfl ((if0 _ _).trans (tlt ((by rw [ex4, ex2]; exact ((lw_gt _ _).mpr cc5)) : (0 : Int32) < (lcmpW ((2 : Int64) * x4) x2))).2.2.2) ?_
    refine XS.dload X9.here hx rfl (hb hby at_215) rfl ?_
    refine XS.dload X9.here hx rfl (hb hby at_217) rfl ?_
    refine XS.dcmpS X9.here hx rfl (hb hby at_219) rfl rfl ?_
    refine XS.ifNo X9.here hx rfl (hb hby at_220) rfl ((if0 _ _).trans (tlt ((by rw [ex12, ex11, ex10, ex5, ex4, ex2]; exact cd16) : (0 : Int32) < (cmpValue (FP.dcmp x10 x12) .l))).2.2.2) ?_
    refine XS.iconst X9.here hx rfl (hb hby at_223) ?_
    refine XS.goto X9.here hx rfl (pc0 := 224) (pc' := 228) rfl (hb hby at_224) (by decide) (by decide) ?_
    exact retN X9 hx (t := .boolean) hret (by simp) (hb hby at_228) hr
theorem rm0_4 (l : Launch) (Z : State) (a0 : Array Value) (hw : ∀ d ∈ tables_1, d.before a0 Z = true) (ws : List Jvm.Cond) (p1 : Int32) (p2 : Int32) (p3 : Int32) (p4 : Int32) (p5 : Int64) (h0 : Heap) (n0 : Nat) (Z0 : n0 ≤ h0.size) (Od0 : Old Z n0 h0) (cc1 : ¬ (((p4 >>> ((1 : Int32) &&& 31)) &&& (3 : Int32)) = (0 : Int32))) (cc2 : (p4 &&& (1 : Int32)) = (0 : Int32)) (cc3 : ¬ ((((p3 &&& (2147483647 : Int32)).toInt64) - (((p3 &&& (2147483647 : Int32)).toInt64) / (((p2 &&& (1048575 : Int32)).toInt64) + (1 : Int64))) * (((p2 &&& (1048575 : Int32)).toInt64) + (1 : Int64))) = (0 : Int64))) (cc4 : ¬ (((2 : Int64) * (((p3 &&& (2147483647 : Int32)).toInt64) - (((p3 &&& (2147483647 : Int32)).toInt64) / (((p2 &&& (1048575 : Int32)).toInt64) + (1 : Int64))) * (((p2 &&& (1048575 : Int32)).toInt64) + (1 : Int64)))) < (((p2 &&& (1048575 : Int32)).toInt64) + (1 : Int64)))) (cc5 : ¬ ((((p2 &&& (1048575 : Int32)).toInt64) + (1 : Int64)) < ((2 : Int64) * (((p3 &&& (2147483647 : Int32)).toInt64) - (((p3 &&& (2147483647 : Int32)).toInt64) / (((p2 &&& (1048575 : Int32)).toInt64) + (1 : Int64))) * (((p2 &&& (1048575 : Int32)).toInt64) + (1 : Int64)))))) :
    OwnMet l Z x code maxLocals ret ws room_1 #[(.int p1), (.int p2), (.int p3), (.int p4), (.long p5)] h0 (Q0 n0) := by
  refine own_body (plainFor_of_name pn_2) (ef0 p1 p2 p3 p4 p5) ?_
  intro p e s m below meth c s₁ hx hby hml hown hnm hret hZ X0 e0
  have N0 := Fr.nil n0
  obtain ⟨x1, ex1⟩ : ∃ z, z = ((p4 >>> ((1 : Int32) &&& 31)) &&& (3 : Int32)) := ⟨_, rfl⟩
  obtain ⟨x2, ex2⟩ : ∃ z, z = (((p2 &&& (1048575 : Int32)).toInt64) + (1 : Int64)) := ⟨_, rfl⟩
  have cd3 : ¬ ((((p2 &&& (1048575 : Int32)).toInt64) + (1 : Int64)) = (0 : Int64)) := (own_N_ne p2)
  obtain ⟨x4, ex4⟩ : ∃ z, z = (((p3 &&& (2147483647 : Int32)).toInt64) - (((p3 &&& (2147483647 : Int32)).toInt64) / x2) * x2) := ⟨_, rfl⟩
  obtain ⟨x5, ex5⟩ : ∃ z, z = (((p1 &&& (1048575 : Int32)).toInt64) * x2) := ⟨_, rfl⟩
  obtain ⟨T6, h6, X6, e6, E6, A6, D6, -, st6⟩ := newO X0 hx hZ hown (w_0 hw) (w_1 hw) (w_2 hw) e0 (g := (mkF m 91 #[.val (.int p1), .val (.int p2), .val (.int p3), .val (.int p4), .val (.long p5), .second, .val (.long ((p1 &&& (1048575 : Int32)).toInt64)), .second, .val (.long x2), .second, .val (.long x4), .second, .val (.long (x5 + x4)), .second, .val (.int (0 : Int32)), .unset, .unset, .unset, .unset, .unset, .unset, .unset, .unset, .unset, .unset] [])) rfl (hb hby at_91) (by decide) (by decide)
  obtain ⟨b6, g6⟩ : ∃ z, z = h0.size := ⟨_, rfl⟩
  rw [← g6] at A6 D6 st6
  have s0 := E6.1
  have Fn6_termCount : Fld Z h6 b6 "com/example/senret/senret/IndexStatistics" "termCount" "J" (.long (0 : Int64)) := D6 (Or.inr (w_15 hw)) (ty := .long) (by decide)
  have Fn6_sentenceCount : Fld Z h6 b6 "com/example/senret/senret/IndexStatistics" "sentenceCount" "I" (.int (0 : Int32)) := D6 (Or.inr (w_17 hw)) (ty := .int) (by decide)
  have g_b6 : n0 ≤ b6 := Nat.le_trans Z0 (Nat.le_of_eq g6.symm)
  have z1 := Nat.le_trans Z0 s0
  obtain ⟨_, T7, L7, X7, hQ7, st7⟩ := own_special X6 hx hZ hown (y := y_1) (a := b6) (w_3 hw) (w_4 hw) (w_2 hw) (w_5 hw) (rm4 l Z a0 hw [] b6 (x5 + x4) (x2.toInt32) h6 n0 z1 Fn6_termCount A6 g_b6 Fn6_sentenceCount) e6 (Ls := #[.val (.int p1), .val (.int p2), .val (.int p3), .val (.int p4), .val (.long p5), .second, .val (.long ((p1 &&& (1048575 : Int32)).toInt64)), .second, .val (.long x2), .second, .val (.long x4), .second, .val (.long (x5 + x4)), .second, .val (.int (0 : Int32)), .unset, .unset, .unset, .unset, .unset, .unset, .unset, .unset, .unset, .unset]) (by rw [hml]; rfl) (argsL := [(.long (x5 + x4)), (.int (x2.toInt32))]) (rest := [(.ref b6)]) (lenOf pd_1 rfl) (hb hby at_100) (W := 1)
  obtain ⟨rfl, Nq7, K7, o7_0, o7_1, o7_2⟩ := hQ7
  have N7 := Fr.app N0 Nq7
  have s1 := K7.1
  have cd8 : ¬ (((((p2 &&& (1048575 : Int32)).toInt64) + (1 : Int64)).toInt32) = (0 : Int32)) := (own_NI_ne p2)
  have z2 := Nat.le_trans Z0 (Nat.le_trans s0 s1)
  obtain ⟨_, T9, L9, X9, hQ9, st9⟩ := own_virtual X7 hx hZ hown (y := y_2) (z := y_2) o7_0 (w_18 hw) (w_19 hw) (notFace_of_selects (args := #[]) (mvT hZ (w_21 hw))) (w_21 hw) (w_20 hw) (w_2 hw) (w_22 hw) (rm5 l Z a0 hw [] b6 (x2.toInt32) (x5 + x4) T7.heap n0 z2 o7_1 (by rw [ex2]; exact cd8) o7_2) rfl (Ls := #[.val (.int p1), .val (.int p2), .val (.int p3), .val (.int p4), .val (.long p5), .second, .val (.long ((p1 &&& (1048575 : Int32)).toInt64)), .second, .val (.long x2), .second, .val (.long x4), .second, .val (.long (x5 + x4)), .second, .val (.int (0 : Int32)), .unset, .unset, .unset, .unset, .unset, .unset, .unset, .unset, .unset, .unset]) (by rw [hml]; rfl) (argsL := []) (rest := []) (lenOf pd_2 rfl) (hb hby at_103) (W := 0)
  obtain ⟨rfl, Nq9, e9⟩ := hQ9
  have N9 := Fr.app N7 Nq9
  obtain ⟨x10, ex10⟩ : ∃ z, z = (FP.ddiv (FP.l2d (x5 + x4)) (FP.i2d (x2.toInt32))) := ⟨_, rfl⟩
  obtain ⟨x11, ex11⟩ : ∃ z, z = (FP.l2d ((p1 &&& (1048575 : Int32)).toInt64)) := ⟨_, rfl⟩
  obtain ⟨x12, ex12⟩ : ∃ z, z = (FP.dadd x11 (4602678819172646912 : UInt64)) := ⟨_, rfl⟩
  have cd13 : (cmpValue (FP.dcmp (FP.l2d ((p1 &&& (1048575 : Int32)).toInt64)) (FP.ddiv (FP.l2d ((((p1 &&& (1048575 : Int32)).toInt64) * (((p2 &&& (1048575 : Int32)).toInt64) + (1 : Int64))) + (((p3 &&& (2147483647 : Int32)).toInt64) - (((p3 &&& (2147483647 : Int32)).toInt64) / (((p2 &&& (1048575 : Int32)).toInt64) + (1 : Int64))) * (((p2 &&& (1048575 : Int32)).toInt64) + (1 : Int64))))) (FP.i2d ((((p2 &&& (1048575 : Int32)).toInt64) + (1 : Int64)).toInt32)))) .g) < (0 : Int32) := (by rw [own_m_11 p1 p2 p3 cc3 cc4 cc5 .g] <;> decide)
  obtain ⟨x14, ex14⟩ : ∃ z, z = (FP.dadd x11 (4607182418800017408 : UInt64)) := ⟨_, rfl⟩
  have cd15 : (cmpValue (FP.dcmp (FP.ddiv (FP.l2d ((((p1 &&& (1048575 : Int32)).toInt64) * (((p2 &&& (1048575 : Int32)).toInt64) + (1 : Int64))) + (((p3 &&& (2147483647 : Int32)).toInt64) - (((p3 &&& (2147483647 : Int32)).toInt64) / (((p2 &&& (1048575 : Int32)).toInt64) + (1 : Int64))) * (((p2 &&& (1048575 : Int32)).toInt64) + (1 : Int64))))) (FP.i2d ((((p2 &&& (1048575 : Int32)).toInt64) + (1 : Int64)).toInt32))) (FP.dadd (FP.l2d ((p1 &&& (1048575 : Int32)).toInt64)) (4607182418800017408 : UInt64))) .g) < (0 : Int32) := (by rw [own_m_12 p1 p2 p3 cc3 cc4 cc5 .g] <;> decide)
  have cd16 : (cmpValue (FP.dcmp (FP.ddiv (FP.l2d ((((p1 &&& (1048575 : Int32)).toInt64) * (((p2 &&& (1048575 : Int32)).toInt64) + (1 : Int64))) + (((p3 &&& (2147483647 : Int32)).toInt64) - (((p3 &&& (2147483647 : Int32)).toInt64) / (((p2 &&& (1048575 : Int32)).toInt64) + (1 : Int64))) * (((p2 &&& (1048575 : Int32)).toInt64) + (1 : Int64))))) (FP.i2d ((((p2 &&& (1048575 : Int32)).toInt64) + (1 : Int64)).toInt32))) (FP.dadd (FP.l2d ((p1 &&& (1048575 : Int32)).toInt64)) (4602678819172646912 : UInt64))) .l) = (0 : Int32) := (by rw [own_m_13 p1 p2 p3 cc3 cc4 cc5 .l] <;> decide)
  refine ⟨T9, _, _, _, (some (.int (1 : Int32))), X9, nofun, by decide, by decide, ?_, fun fs hr => ?_⟩
  · show Q0 n0 _ T9.heap _
    rw [e9]
    subst ex14
    subst ex12
    subst ex11
    subst ex10
    subst ex5
    subst ex4
    subst ex2
    subst ex1
    exact ⟨rfl, N9⟩
  · show Steps p.tables e below (s₁.setTop (mkF m 0 #[.val (.int p1), .val (.int p2), .val (.int p3), .val (.int p4), .val (.long p5), .second, .unset, .unset, .unset, .unset, .unset, .unset, .unset, .unset, .unset, .unset, .unset, .unset, .unset, .unset, .unset, .unset, .unset, .unset, .unset] [])) _
    refine XS.iloadN X0.here hx rfl (hb hby at_0) rfl ?_
    refine XS.iconst X0.here hx rfl (hb hby at_1) ?_
    refine XS.ishr X0.here hx rfl (hb hby at_2) rfl ?_
    refine XS.iconst X0.here hx rfl (hb hby at_3) ?_
    refine XS.iand X0.here hx rfl (hb hby at_4) rfl ?_
    show Steps p.tables e below (s₁.setTop (mkF m 5 #[.val (.int p1), .val (.int p2), .val (.int p3), .val (.int p4), .val (.long p5), .second, .unset, .unset, .unset, .unset, .unset, .unset, .unset, .unset, .unset, .unset, .unset, .unset, .unset, .unset, .unset, .unset, .unset, .unset, .unset] [(.int ((p4 >>> ((1 : Int32) &&& 31)) &&& (3 : Int32)))])) _
    rw [← ex1]
    refine XS.ifYes X0.here hx rfl (pc0 := 5) (pc' := 32) rfl (hb hby at_5) rfl ((if0 _ _).trans (feq ((by rw [ex1]; exact cc1) : ¬ (x1 = (0 : Int32)))).2) (by decide) (by decide) ?_
    refine XS.iloadN X0.here hx rfl (hb hby at_32) rfl ?_
    refine X0.ldcInt hx hown (mvT hZ (w_23 hw)) (g := (mkF m 33 #[.val (.int p1), .val (.int p2), .val (.int p3), .val (.int p4), .val (.long p5), .second, .unset, .unset, .unset, .unset, .unset, .unset, .unset, .unset, .unset, .unset, .unset, .unset, .unset, .unset, .unset, .unset, .unset, .unset, .unset] [(.int p1)])) rfl (hb hby at_33) _ ?_
    refine XS.iand X0.here hx rfl (hb hby at_35) rfl ?_
    refine XS.i2l X0.here hx rfl (hb hby at_36) rfl ?_
    refine XS.lstore X0.here hx rfl (hb hby at_37) rfl (l' := #[.val (.int p1), .val (.int p2), .val (.int p3), .val (.int p4), .val (.long p5), .second, .val (.long ((p1 &&& (1048575 : Int32)).toInt64)), .second, .unset, .unset, .unset, .unset, .unset, .unset, .unset, .unset, .unset, .unset, .unset, .unset, .unset, .unset, .unset, .unset, .unset]) rfl ?_
    refine XS.iloadN X0.here hx rfl (hb hby at_39) rfl ?_
    refine X0.ldcInt hx hown (mvT hZ (w_23 hw)) (g := (mkF m 40 #[.val (.int p1), .val (.int p2), .val (.int p3), .val (.int p4), .val (.long p5), .second, .val (.long ((p1 &&& (1048575 : Int32)).toInt64)), .second, .unset, .unset, .unset, .unset, .unset, .unset, .unset, .unset, .unset, .unset, .unset, .unset, .unset, .unset, .unset, .unset, .unset] [(.int p2)])) rfl (hb hby at_40) _ ?_
    refine XS.iand X0.here hx rfl (hb hby at_42) rfl ?_
    refine XS.i2l X0.here hx rfl (hb hby at_43) rfl ?_
    refine XS.lconst X0.here hx rfl (hb hby at_44) ?_
    show Steps p.tables e below (s₁.setTop (mkF m 45 #[.val (.int p1), .val (.int p2), .val (.int p3), .val (.int p4), .val (.long p5), .second, .val (.long ((p1 &&& (1048575 : Int32)).toInt64)), .second, .unset, .unset, .unset, .unset, .unset, .unset, .unset, .unset, .unset, .unset, .unset, .unset, .unset, .unset, .unset, .unset, .unset] [(.long (1 : Int64)), (.long ((p2 &&& (1048575 : Int32)).toInt64))])) _
    refine XS.ladd X0.here hx rfl (hb hby at_45) rfl ?_
    show Steps p.tables e below (s₁.setTop (mkF m 46 #[.val (.int p1), .val (.int p2), .val (.int p3), .val (.int p4), .val (.long p5), .second, .val (.long ((p1 &&& (1048575 : Int32)).toInt64)), .second, .unset, .unset, .unset, .unset, .unset, .unset, .unset, .unset, .unset, .unset, .unset, .unset, .unset, .unset, .unset, .unset, .unset] [(.long (((p2 &&& (1048575 : Int32)).toInt64) + (1 : Int64)))])) _
    rw [← ex2]
    refine XS.lstore X0.here hx rfl (hb hby at_46) rfl (l' := #[.val (.int p1), .val (.int p2), .val (.int p3), .val (.int p4), .val (.long p5), .second, .val (.long ((p1 &&& (1048575 : Int32)).toInt64)), .second, .val (.long x2), .second, .unset, .unset, .unset, .unset, .unset, .unset, .unset, .unset, .unset, .unset, .unset, .unset, .unset, .unset, .unset]) rfl ?_
    refine XS.iloadN X0.here hx rfl (hb hby at_48) rfl ?_
    refine X0.ldcInt hx hown (mvT hZ (w_24 hw)) (g := (mkF m 49 #[.val (.int p1), .val (.int p2), .val (.int p3), .val (.int p4), .val (.long p5), .second, .val (.long ((p1 &&& (1048575 : Int32)).toInt64)), .second, .val (.long x2), .second, .unset, .unset, .unset, .unset, .unset, .unset, .unset, .unset, .unset, .unset, .unset, .unset, .unset, .unset, .unset] [(.int p3)])) rfl (hb hby at_49) _ ?_
    refine XS.iand X0.here hx rfl (hb hby at_51) rfl ?_
    refine XS.i2l X0.here hx rfl (hb hby at_52) rfl ?_
    refine XS.lload X0.here hx rfl (hb hby at_53) rfl ?_
    refine XS.lrem X0.here hx rfl (hb hby at_55) rfl (by rw [ex2]; exact cd3) ?_
    show Steps p.tables e below (s₁.setTop (mkF m 56 #[.val (.int p1), .val (.int p2), .val (.int p3), .val (.int p4), .val (.long p5), .second, .val (.long ((p1 &&& (1048575 : Int32)).toInt64)), .second, .val (.long x2), .second, .unset, .unset, .unset, .unset, .unset, .unset, .unset, .unset, .unset, .unset, .unset, .unset, .unset, .unset, .unset] [(.long (((p3 &&& (2147483647 : Int32)).toInt64) - (((p3 &&& (2147483647 : Int32)).toInt64) / x2) * x2))])) _
    rw [← ex4]
    refine XS.lstore X0.here hx rfl (hb hby at_56) rfl (l' := #[.val (.int p1), .val (.int p2), .val (.int p3), .val (.int p4), .val (.long p5), .second, .val (.long ((p1 &&& (1048575 : Int32)).toInt64)), .second, .val (.long x2), .second, .val (.long x4), .second, .unset, .unset, .unset, .unset, .unset, .unset, .unset, .unset, .unset, .unset, .unset, .unset, .unset]) rfl ?_
    refine XS.lload X0.here hx rfl (hb hby at_58) rfl ?_
    refine XS.lload X0.here hx rfl (hb hby at_60) rfl ?_
    refine XS.lmul X0.here hx rfl (hb hby at_62) rfl ?_
    show Steps p.tables e below (s₁.setTop (mkF m 63 #[.val (.int p1), .val (.int p2), .val (.int p3), .val (.int p4), .val (.long p5), .second, .val (.long ((p1 &&& (1048575 : Int32)).toInt64)), .second, .val (.long x2), .second, .val (.long x4), .second, .unset, .unset, .unset, .unset, .unset, .unset, .unset, .unset, .unset, .unset, .unset, .unset, .unset] [(.long (((p1 &&& (1048575 : Int32)).toInt64) * x2))])) _
    rw [← ex5]
    refine XS.lload X0.here hx rfl (hb hby at_63) rfl ?_
    refine XS.ladd X0.here hx rfl (hb hby at_65) rfl ?_
    refine XS.lstore X0.here hx rfl (hb hby at_66) rfl (l' := #[.val (.int p1), .val (.int p2), .val (.int p3), .val (.int p4), .val (.long p5), .second, .val (.long ((p1 &&& (1048575 : Int32)).toInt64)), .second, .val (.long x2), .second, .val (.long x4), .second, .val (.long (x5 + x4)), .second, .unset, .unset, .unset, .unset, .unset, .unset, .unset, .unset, .unset, .unset, .unset]) rfl ?_
    refine XS.iloadN X0.here hx rfl (hb hby at_68) rfl ?_
    refine XS.iconst X0.here hx rfl (hb hby at_69) ?_
    refine XS.iand X0.here hx rfl (hb hby at_70) rfl ?_
    refine XS.ifYes X0.here hx rfl (pc0 := 71) (pc' := 78) rfl (hb hby at_71) rfl ((if0 _ _).trans (teq (cc2 : (p4 &&& (1 : Int32)) = (0 : Int32))).1) (by decide) (by decide) ?_
    refine XS.iconst X0.here hx rfl (hb hby at_78) ?_
    refine XS.istore X0.here hx rfl (hb hby at_79) rfl (l' := #[.val (.int p1), .val (.int p2), .val (.int p3), .val (.int p4), .val (.long p5), .second, .val (.long ((p1 &&& (1048575 : Int32)).toInt64)), .second, .val (.long x2), .second, .val (.long x4), .second, .val (.long (x5 + x4)), .second, .val (.int (0 : Int32)), .unset, .unset, .unset, .unset, .unset, .unset, .unset, .unset, .unset, .unset]) rfl ?_
    refine XS.iload X0.here hx rfl (hb hby at_81) rfl ?_
    refine XS.ifYes X0.here hx rfl (pc0 := 83) (pc' := 91) rfl (hb hby at_83) rfl ((if0 _ _).trans (teq ((by decide : (0 : Int32) = (0 : Int32)) : (0 : Int32) = (0 : Int32))).1) (by decide) (by decide) ?_
    show Steps p.tables e below (s₁.setTop (mkF m 91 #[.val (.int p1), .val (.int p2), .val (.int p3), .val (.int p4), .val (.long p5), .second, .val (.long ((p1 &&& (1048575 : Int32)).toInt64)), .second, .val (.long x2), .second, .val (.long x4), .second, .val (.long (x5 + x4)), .second, .val (.int (0 : Int32)), .unset, .unset, .unset, .unset, .unset, .unset, .unset, .unset, .unset, .unset] [])) _
    refine st6 _ ?_
    refine XS.dup X6.here hx rfl (hb hby at_94) rfl rfl ?_
    refine XS.lload X6.here hx rfl (hb hby at_95) rfl ?_
    refine XS.lload X6.here hx rfl (hb hby at_97) rfl ?_
    refine XS.l2i X6.here hx rfl (hb hby at_99) rfl ?_
    refine st7 _ ?_
    refine st9 _ ?_
    show Steps p.tables e below (T9.setTop (mkF m 106 #[.val (.int p1), .val (.int p2), .val (.int p3), .val (.int p4), .val (.long p5), .second, .val (.long ((p1 &&& (1048575 : Int32)).toInt64)), .second, .val (.long x2), .second, .val (.long x4), .second, .val (.long (x5 + x4)), .second, .val (.int (0 : Int32)), .unset, .unset, .unset, .unset, .unset, .unset, .unset, .unset, .unset, .unset] [(.double (FP.ddiv (FP.l2d (x5 + x4)) (FP.i2d (x2.toInt32))))])) _
    rw [← ex10]
    refine XS.dstore X9.here hx rfl (hb hby at_106) rfl (l' := #[.val (.int p1), .val (.int p2), .val (.int p3), .val (.int p4), .val (.long p5), .second, .val (.long ((p1 &&& (1048575 : Int32)).toInt64)), .second, .val (.long x2), .second, .val (.long x4), .second, .val (.long (x5 + x4)), .second, .val (.int (0 : Int32)), .val (.double x10), .second, .unset, .unset, .unset, .unset, .unset, .unset, .unset, .unset]) rfl ?_
    refine XS.iload X9.here hx rfl (hb hby at_108) rfl ?_
    refine XS.ifYes X9.here hx rfl (pc0 := 110) (pc' := 119) rfl (hb hby at_110) rfl ((if0 _ _).trans (teq ((by decide : (0 : Int32) = (0 : Int32)) : (0 : Int32) = (0 : Int32))).1) (by decide) (by decide) ?_
    refine XS.dload X9.here hx rfl (hb hby at_119) rfl ?_
    refine XS.dstore X9.here hx rfl (hb hby at_121) rfl (l' := #[.val (.int p1), .val (.int p2), .val (.int p3), .val (.int p4), .val (.long p5), .second, .val (.long ((p1 &&& (1048575 : Int32)).toInt64)), .second, .val (.long x2), .second, .val (.long x4), .second, .val (.long (x5 + x4)), .second, .val (.int (0 : Int32)), .val (.double x10), .second, .val (.double x10), .second, .unset, .unset, .unset, .unset, .unset, .unset]) rfl ?_
    refine XS.lload X9.here hx rfl (hb hby at_123) rfl ?_
    refine XS.l2dS X9.here hx rfl (hb hby at_125) rfl rfl ?_
    show Steps p.tables e below (T9.setTop (mkF m 126 #[.val (.int p1), .val (.int p2), .val (.int p3), .val (.int p4), .val (.long p5), .second, .val (.long ((p1 &&& (1048575 : Int32)).toInt64)), .second, .val (.long x2), .second, .val (.long x4), .second, .val (.long (x5 + x4)), .second, .val (.int (0 : Int32)), .val (.double x10), .second, .val (.double x10), .second, .unset, .unset, .unset, .unset, .unset, .unset] [(.double (FP.l2d ((p1 &&& (1048575 : Int32)).toInt64)))])) _
    rw [← ex11]
    refine XS.dstore X9.here hx rfl (hb hby at_126) rfl (l' := #[.val (.int p1), .val (.int p2), .val (.int p3), .val (.int p4), .val (.long p5), .second, .val (.long ((p1 &&& (1048575 : Int32)).toInt64)), .second, .val (.long x2), .second, .val (.long x4), .second, .val (.long (x5 + x4)), .second, .val (.int (0 : Int32)), .val (.double x10), .second, .val (.double x10), .second, .val (.double x11), .second, .unset, .unset, .unset, .unset]) rfl ?_
    refine XS.dload X9.here hx rfl (hb hby at_128) rfl ?_
    refine X9.ldc2DoubleC hx hown (mvT hZ (w_25 hw)) (g := (mkF m 130 #[.val (.int p1), .val (.int p2), .val (.int p3), .val (.int p4), .val (.long p5), .second, .val (.long ((p1 &&& (1048575 : Int32)).toInt64)), .second, .val (.long x2), .second, .val (.long x4), .second, .val (.long (x5 + x4)), .second, .val (.int (0 : Int32)), .val (.double x10), .second, .val (.double x10), .second, .val (.double x11), .second, .unset, .unset, .unset, .unset] [(.double x11)])) rfl (hb hby at_130) _ ?_
    refine XS.daddS X9.here hx rfl (hb hby at_133) rfl (by rw [ex11]; exact (own_nnaddh _)) rfl ?_
    show Steps p.tables e below (T9.setTop (mkF m 134 #[.val (.int p1), .val (.int p2), .val (.int p3), .val (.int p4), .val (.long p5), .second, .val (.long ((p1 &&& (1048575 : Int32)).toInt64)), .second, .val (.long x2), .second, .val (.long x4), .second, .val (.long (x5 + x4)), .second, .val (.int (0 : Int32)), .val (.double x10), .second, .val (.double x10), .second, .val (.double x11), .second, .unset, .unset, .unset, .unset] [(.double (FP.dadd x11 (4602678819172646912 : UInt64)))])) _
    rw [← ex12]
    refine XS.dstore X9.here hx rfl (hb hby at_134) rfl (l' := #[.val (.int p1), .val (.int p2), .val (.int p3), .val (.int p4), .val (.long p5), .second, .val (.long ((p1 &&& (1048575 : Int32)).toInt64)), .second, .val (.long x2), .second, .val (.long x4), .second, .val (.long (x5 + x4)), .second, .val (.int (0 : Int32)), .val (.double x10), .second, .val (.double x10), .second, .val (.double x11), .second, .val (.double x12), .second, .unset, .unset]) rfl ?_
    refine XS.lload X9.here hx rfl (hb hby at_136) rfl ?_
    refine XS.lconst X9.here hx rfl (hb hby at_138) ?_
    refine XS.lcmp X9.here hx rfl (hb hby at_139) rfl ?_
    refine XS.ifYes X9.here hx rfl (pc0 := 140) (pc' := 157) rfl (hb hby at_140) rfl ((if0 _ _).trans (feq ((by rw [ex4, ex2]; exact (fun q => cc3 ((lw_eq _ _).mp q))) : ¬ ((lcmpW x4 (0 : Int64)) = (0 : Int32)))).2) (by decide) (by decide) ?_
    refine XS.dload X9.here hx rfl (hb hby at_157) rfl ?_
    refine XS.dload X9.here hx rfl (hb hby at_159) rfl ?_
    refine XS.dcmpS X9.here hx rfl (hb hby at_161) rfl rfl ?_
    refine XS.ifNo X9.here hx rfl (hb hby at_162) rfl ((if0 _ _).trans (tlt ((by rw [ex11, ex10, ex5, ex4, ex2]; exact cd13) : (cmpValue (FP.dcmp x11 x10) .g) < (0 : Int32))).2.1) ?_
    refine XS.dload X9.here hx rfl (hb hby at_165) rfl ?_
    refine XS.dload X9.here hx rfl (hb hby at_167) rfl ?_
    show Steps p.tables e below (T9.setTop (mkF m 169 #[.val (.int p1), .val (.int p2), .val (.int p3), .val (.int p4), .val (.long p5), .second, .val (.long ((p1 &&& (1048575 : Int32)).toInt64)), .second, .val (.long x2), .second, .val (.long x4), .second, .val (.long (x5 + x4)), .second, .val (.int (0 : Int32)), .val (.double x10), .second, .val (.double x10), .second, .val (.double x11), .second, .val (.double x12), .second, .unset, .unset] [(.double x11), (.double x10)])) _
    refine XS.dconst1 X9.here hx rfl (hb hby at_169) rfl ?_
    refine XS.daddS X9.here hx rfl (hb hby at_170) rfl (by rw [ex11]; exact (own_nnadd1 _)) rfl ?_
    show Steps p.tables e below (T9.setTop (mkF m 171 #[.val (.int p1), .val (.int p2), .val (.int p3), .val (.int p4), .val (.long p5), .second, .val (.long ((p1 &&& (1048575 : Int32)).toInt64)), .second, .val (.long x2), .second, .val (.long x4), .second, .val (.long (x5 + x4)), .second, .val (.int (0 : Int32)), .val (.double x10), .second, .val (.double x10), .second, .val (.double x11), .second, .val (.double x12), .second, .unset, .unset] [(.double (FP.dadd x11 (4607182418800017408 : UInt64))), (.double x10)])) _
    rw [← ex14]
    refine XS.dcmpS X9.here hx rfl (hb hby at_171) rfl rfl ?_
    refine XS.ifYes X9.here hx rfl (pc0 := 172) (pc' := 177) rfl (hb hby at_172) rfl ((if0 _ _).trans (tlt ((by rw [ex14, ex11, ex10, ex5, ex4, ex2]; exact cd15) : (cmpValue (FP.dcmp x10 x14) .g) < (0 : Int32))).1) (by decide) (by decide) ?_
    refine X9.ldc2Long hx hown (mvT hZ (w_26 hw)) (g := (mkF m 177 #[.val (.int p1), .val (.int p2), .val (.int p3), .val (.int p4), .val (.long p5), .second, .val (.long ((p1 &&& (1048575 : Int32)).toInt64)), .second, .val (.long x2), .second, .val (.long x4), .second, .val (.long (x5 + x4)), .second, .val (.int (0 : Int32)), .val (.double x10), .second, .val (.double x10), .second, .val (.double x11), .second, .val (.double x12), .second, .unset, .unset] [])) rfl (hb hby at_177) _ ?_
    refine XS.lload X9.here hx rfl (hb hby at_180) rfl ?_
    refine XS.lmul X9.here hx rfl (hb hby at_182) rfl ?_
    refine XS.lstore X9.here hx rfl (hb hby at_183) rfl (l' := #[.val (.int p1), .val (.int p2), .val (.int p3), .val (.int p4), .val (.long p5), .second, .val (.long ((p1 &&& (1048575 : Int32)).toInt64)), .second, .val (.long x2), .second, .val (.long x4), .second, .val (.long (x5 + x4)), .second, .val (.int (0 : Int32)), .val (.double x10), .second, .val (.double x10), .second, .val (.double x11), .second, .val (.double x12), .second, .val (.long ((2 : Int64) * x4)), .second]) rfl ?_
    refine XS.lload X9.here hx rfl (hb hby at_185) rfl ?_
    refine XS.lload X9.here hx rfl (hb hby at_187) rfl ?_
    refine XS.lcmp X9.here hx rfl (hb hby at_189) rfl ?_
    refine XS.ifYes X9.here hx rfl (pc0 := 190) (pc' := 207) rfl (hb hby at_190) rfl ((if0 _ _).trans (flt ((by rw [ex4, ex2]; exact (fun q => cc4 ((lw_lt _ _).mp q))) : ¬ ((lcmpW ((2 : Int64) * x4) x2) < (0 : Int32)))).2.1) (by decide) (by decide) ?_
    refine XS.lload X9.here hx rfl (hb hby at_207) rfl ?_
    show Steps p.tables e below (T9.setTop (mkF m 209 #[.val (.int p1), .val (.int p2), .val (.int p3), .val (.int p4), .val (.long p5), .second, .val (.long ((p1 &&& (1048575 : Int32)).toInt64)), .second, .val (.long x2), .second, .val (.long x4), .second, .val (.long (x5 + x4)), .second, .val (.int (0 : Int32)), .val (.double x10), .second, .val (.double x10), .second, .val (.double x11), .second, .val (.double x12), .second, .val (.long ((2 : Int64) * x4)), .second] [(.long ((2 : Int64) * x4))])) _
    refine XS.lload X9.here hx rfl (hb hby at_209) rfl ?_
    refine XS.lcmp X9.here hx rfl (hb hby at_211) rfl ?_
    refine XS.ifYes X9.here hx rfl (pc0 := 212) (pc' := 229) rfl (hb hby at_212) rfl ((if0 _ _).trans (flt ((by rw [ex4, ex2]; exact (fun q => cc5 ((lw_gt _ _).mp q))) : ¬ ((0 : Int32) < (lcmpW ((2 : Int64) * x4) x2)))).2.2.2) (by decide) (by decide) ?_
    refine XS.dload X9.here hx rfl (hb hby at_229) rfl ?_
    refine XS.dload X9.here hx rfl (hb hby at_231) rfl ?_
    refine XS.dcmpS X9.here hx rfl (hb hby at_233) rfl rfl ?_
    refine XS.ifNo X9.here hx rfl (hb hby at_234) rfl ((if0 _ _).trans (teq ((by rw [ex12, ex11, ex10, ex5, ex4, ex2]; exact cd16) : (cmpValue (FP.dcmp x10 x12) .l) = (0 : Int32))).2) ?_
    refine XS.iconst X9.here hx rfl (hb hby at_237) ?_
    refine XS.goto X9.here hx rfl (pc0 := 238) (pc' := 242) rfl (hb hby at_238) (by decide) (by decide) ?_
    exact retN X9 hx (t := .boolean) hret (by simp) (hb hby at_242) hr
theorem rm0_5 (l : Launch) (Z : State) (a0 : Array Value) (hw : ∀ d ∈ tables_1, d.before a0 Z = true) (ws : List Jvm.Cond) (p1 : Int32) (p2 : Int32) (p3 : Int32) (p4 : Int32) (p5 : Int64) (h0 : Heap) (n0 : Nat) (Z0 : n0 ≤ h0.size) (Od0 : Old Z n0 h0) (cc1 : ¬ (((p4 >>> ((1 : Int32) &&& 31)) &&& (3 : Int32)) = (0 : Int32))) (cc2 : ¬ ((p4 &&& (1 : Int32)) = (0 : Int32))) (cc3 : (((p3 &&& (2147483647 : Int32)).toInt64) - (((p3 &&& (2147483647 : Int32)).toInt64) / (((p2 &&& (1048575 : Int32)).toInt64) + (1 : Int64))) * (((p2 &&& (1048575 : Int32)).toInt64) + (1 : Int64))) = (0 : Int64)) :
    OwnMet l Z x code maxLocals ret ws room_1 #[(.int p1), (.int p2), (.int p3), (.int p4), (.long p5)] h0 (Q0 n0) := by
  refine own_body (plainFor_of_name pn_2) (ef0 p1 p2 p3 p4 p5) ?_
  intro p e s m below meth c s₁ hx hby hml hown hnm hret hZ X0 e0
  have N0 := Fr.nil n0
  obtain ⟨x1, ex1⟩ : ∃ z, z = ((p4 >>> ((1 : Int32) &&& 31)) &&& (3 : Int32)) := ⟨_, rfl⟩
  obtain ⟨x2, ex2⟩ : ∃ z, z = (((p2 &&& (1048575 : Int32)).toInt64) + (1 : Int64)) := ⟨_, rfl⟩
  have cd3 : ¬ ((((p2 &&& (1048575 : Int32)).toInt64) + (1 : Int64)) = (0 : Int64)) := (own_N_ne p2)
  obtain ⟨x4, ex4⟩ : ∃ z, z = (((p3 &&& (2147483647 : Int32)).toInt64) - (((p3 &&& (2147483647 : Int32)).toInt64) / x2) * x2) := ⟨_, rfl⟩
  obtain ⟨x5, ex5⟩ : ∃ z, z = (((p1 &&& (1048575 : Int32)).toInt64) * x2) := ⟨_, rfl⟩
  obtain ⟨T6, h6, X6, e6, E6, A6, D6, -, st6⟩ := newO X0 hx hZ hown (w_0 hw) (w_1 hw) (w_2 hw) e0 (g := (mkF m 91 #[.val (.int p1), .val (.int p2), .val (.int p3), .val (.int p4), .val (.long p5), .second, .val (.long ((p1 &&& (1048575 : Int32)).toInt64)), .second, .val (.long x2), .second, .val (.long x4), .second, .val (.long (-(x5 + x4))), .second, .val (.int (1 : Int32)), .unset, .unset, .unset, .unset, .unset, .unset, .unset, .unset, .unset, .unset] [])) rfl (hb hby at_91) (by decide) (by decide)
  obtain ⟨b6, g6⟩ : ∃ z, z = h0.size := ⟨_, rfl⟩
  rw [← g6] at A6 D6 st6
  have s0 := E6.1
  have Fn6_termCount : Fld Z h6 b6 "com/example/senret/senret/IndexStatistics" "termCount" "J" (.long (0 : Int64)) := D6 (Or.inr (w_15 hw)) (ty := .long) (by decide)
  have Fn6_sentenceCount : Fld Z h6 b6 "com/example/senret/senret/IndexStatistics" "sentenceCount" "I" (.int (0 : Int32)) := D6 (Or.inr (w_17 hw)) (ty := .int) (by decide)
  have g_b6 : n0 ≤ b6 := Nat.le_trans Z0 (Nat.le_of_eq g6.symm)
  have z1 := Nat.le_trans Z0 s0
  obtain ⟨_, T7, L7, X7, hQ7, st7⟩ := own_special X6 hx hZ hown (y := y_1) (a := b6) (w_3 hw) (w_4 hw) (w_2 hw) (w_5 hw) (rm4 l Z a0 hw [] b6 (-(x5 + x4)) (x2.toInt32) h6 n0 z1 Fn6_termCount A6 g_b6 Fn6_sentenceCount) e6 (Ls := #[.val (.int p1), .val (.int p2), .val (.int p3), .val (.int p4), .val (.long p5), .second, .val (.long ((p1 &&& (1048575 : Int32)).toInt64)), .second, .val (.long x2), .second, .val (.long x4), .second, .val (.long (-(x5 + x4))), .second, .val (.int (1 : Int32)), .unset, .unset, .unset, .unset, .unset, .unset, .unset, .unset, .unset, .unset]) (by rw [hml]; rfl) (argsL := [(.long (-(x5 + x4))), (.int (x2.toInt32))]) (rest := [(.ref b6)]) (lenOf pd_1 rfl) (hb hby at_100) (W := 1)
  obtain ⟨rfl, Nq7, K7, o7_0, o7_1, o7_2⟩ := hQ7
  have N7 := Fr.app N0 Nq7
  have s1 := K7.1
  have cd8 : ¬ (((((p2 &&& (1048575 : Int32)).toInt64) + (1 : Int64)).toInt32) = (0 : Int32)) := (own_NI_ne p2)
  have z2 := Nat.le_trans Z0 (Nat.le_trans s0 s1)
  obtain ⟨_, T9, L9, X9, hQ9, st9⟩ := own_virtual X7 hx hZ hown (y := y_2) (z := y_2) o7_0 (w_18 hw) (w_19 hw) (notFace_of_selects (args := #[]) (mvT hZ (w_21 hw))) (w_21 hw) (w_20 hw) (w_2 hw) (w_22 hw) (rm5 l Z a0 hw [] b6 (x2.toInt32) (-(x5 + x4)) T7.heap n0 z2 o7_1 (by rw [ex2]; exact cd8) o7_2) rfl (Ls := #[.val (.int p1), .val (.int p2), .val (.int p3), .val (.int p4), .val (.long p5), .second, .val (.long ((p1 &&& (1048575 : Int32)).toInt64)), .second, .val (.long x2), .second, .val (.long x4), .second, .val (.long (-(x5 + x4))), .second, .val (.int (1 : Int32)), .unset, .unset, .unset, .unset, .unset, .unset, .unset, .unset, .unset, .unset]) (by rw [hml]; rfl) (argsL := []) (rest := []) (lenOf pd_2 rfl) (hb hby at_103) (W := 0)
  obtain ⟨rfl, Nq9, e9⟩ := hQ9
  have N9 := Fr.app N7 Nq9
  obtain ⟨x10, ex10⟩ : ∃ z, z = (FP.ddiv (FP.l2d (-(x5 + x4))) (FP.i2d (x2.toInt32))) := ⟨_, rfl⟩
  obtain ⟨x11, ex11⟩ : ∃ z, z = (FP.l2d ((p1 &&& (1048575 : Int32)).toInt64)) := ⟨_, rfl⟩
  obtain ⟨x12, ex12⟩ : ∃ z, z = (FP.dadd x11 (4602678819172646912 : UInt64)) := ⟨_, rfl⟩
  obtain ⟨x13, ex13⟩ : ∃ z, z = (cmpValue (FP.dcmp (FP.dneg x10) x11) .l) := ⟨_, rfl⟩
  have cd14 : (cmpValue (FP.dcmp (FP.dneg (FP.ddiv (FP.l2d (-((((p1 &&& (1048575 : Int32)).toInt64) * (((p2 &&& (1048575 : Int32)).toInt64) + (1 : Int64))) + (((p3 &&& (2147483647 : Int32)).toInt64) - (((p3 &&& (2147483647 : Int32)).toInt64) / (((p2 &&& (1048575 : Int32)).toInt64) + (1 : Int64))) * (((p2 &&& (1048575 : Int32)).toInt64) + (1 : Int64)))))) (FP.i2d ((((p2 &&& (1048575 : Int32)).toInt64) + (1 : Int64)).toInt32)))) (FP.l2d ((p1 &&& (1048575 : Int32)).toInt64))) .l) = (0 : Int32) := (by rw [own_m_14 p1 p2 p3 cc3 .l] <;> decide)
  refine ⟨T9, _, _, _, (some (.int (1 : Int32))), X9, nofun, by decide, by decide, ?_, fun fs hr => ?_⟩
  · show Q0 n0 _ T9.heap _
    rw [e9]
    subst ex13
    subst ex12
    subst ex11
    subst ex10
    subst ex5
    subst ex4
    subst ex2
    subst ex1
    exact ⟨rfl, N9⟩
  · show Steps p.tables e below (s₁.setTop (mkF m 0 #[.val (.int p1), .val (.int p2), .val (.int p3), .val (.int p4), .val (.long p5), .second, .unset, .unset, .unset, .unset, .unset, .unset, .unset, .unset, .unset, .unset, .unset, .unset, .unset, .unset, .unset, .unset, .unset, .unset, .unset] [])) _
    refine XS.iloadN X0.here hx rfl (hb hby at_0) rfl ?_
    refine XS.iconst X0.here hx rfl (hb hby at_1) ?_
    refine XS.ishr X0.here hx rfl (hb hby at_2) rfl ?_
    refine XS.iconst X0.here hx rfl (hb hby at_3) ?_
    refine XS.iand X0.here hx rfl (hb hby at_4) rfl ?_
    show Steps p.tables e below (s₁.setTop (mkF m 5 #[.val (.int p1), .val (.int p2), .val (.int p3), .val (.int p4), .val (.long p5), .second, .unset, .unset, .unset, .unset, .unset, .unset, .unset, .unset, .unset, .unset, .unset, .unset, .unset, .unset, .unset, .unset, .unset, .unset, .unset] [(.int ((p4 >>> ((1 : Int32) &&& 31)) &&& (3 : Int32)))])) _
    rw [← ex1]
    refine XS.ifYes X0.here hx rfl (pc0 := 5) (pc' := 32) rfl (hb hby at_5) rfl ((if0 _ _).trans (feq ((by rw [ex1]; exact cc1) : ¬ (x1 = (0 : Int32)))).2) (by decide) (by decide) ?_
    refine XS.iloadN X0.here hx rfl (hb hby at_32) rfl ?_
    refine X0.ldcInt hx hown (mvT hZ (w_23 hw)) (g := (mkF m 33 #[.val (.int p1), .val (.int p2), .val (.int p3), .val (.int p4), .val (.long p5), .second, .unset, .unset, .unset, .unset, .unset, .unset, .unset, .unset, .unset, .unset, .unset, .unset, .unset, .unset, .unset, .unset, .unset, .unset, .unset] [(.int p1)])) rfl (hb hby at_33) _ ?_
    refine XS.iand X0.here hx rfl (hb hby at_35) rfl ?_
    refine XS.i2l X0.here hx rfl (hb hby at_36) rfl ?_
    refine XS.lstore X0.here hx rfl (hb hby at_37) rfl (l' := #[.val (.int p1), .val (.int p2), .val (.int p3), .val (.int p4), .val (.long p5), .second, .val (.long ((p1 &&& (1048575 : Int32)).toInt64)), .second, .unset, .unset, .unset, .unset, .unset, .unset, .unset, .unset, .unset, .unset, .unset, .unset, .unset, .unset, .unset, .unset, .unset]) rfl ?_
    refine XS.iloadN X0.here hx rfl (hb hby at_39) rfl ?_
    refine X0.ldcInt hx hown (mvT hZ (w_23 hw)) (g := (mkF m 40 #[.val (.int p1), .val (.int p2), .val (.int p3), .val (.int p4), .val (.long p5), .second, .val (.long ((p1 &&& (1048575 : Int32)).toInt64)), .second, .unset, .unset, .unset, .unset, .unset, .unset, .unset, .unset, .unset, .unset, .unset, .unset, .unset, .unset, .unset, .unset, .unset] [(.int p2)])) rfl (hb hby at_40) _ ?_
    refine XS.iand X0.here hx rfl (hb hby at_42) rfl ?_
    refine XS.i2l X0.here hx rfl (hb hby at_43) rfl ?_
    refine XS.lconst X0.here hx rfl (hb hby at_44) ?_
    show Steps p.tables e below (s₁.setTop (mkF m 45 #[.val (.int p1), .val (.int p2), .val (.int p3), .val (.int p4), .val (.long p5), .second, .val (.long ((p1 &&& (1048575 : Int32)).toInt64)), .second, .unset, .unset, .unset, .unset, .unset, .unset, .unset, .unset, .unset, .unset, .unset, .unset, .unset, .unset, .unset, .unset, .unset] [(.long (1 : Int64)), (.long ((p2 &&& (1048575 : Int32)).toInt64))])) _
    refine XS.ladd X0.here hx rfl (hb hby at_45) rfl ?_
    show Steps p.tables e below (s₁.setTop (mkF m 46 #[.val (.int p1), .val (.int p2), .val (.int p3), .val (.int p4), .val (.long p5), .second, .val (.long ((p1 &&& (1048575 : Int32)).toInt64)), .second, .unset, .unset, .unset, .unset, .unset, .unset, .unset, .unset, .unset, .unset, .unset, .unset, .unset, .unset, .unset, .unset, .unset] [(.long (((p2 &&& (1048575 : Int32)).toInt64) + (1 : Int64)))])) _
    rw [← ex2]
    refine XS.lstore X0.here hx rfl (hb hby at_46) rfl (l' := #[.val (.int p1), .val (.int p2), .val (.int p3), .val (.int p4), .val (.long p5), .second, .val (.long ((p1 &&& (1048575 : Int32)).toInt64)), .second, .val (.long x2), .second, .unset, .unset, .unset, .unset, .unset, .unset, .unset, .unset, .unset, .unset, .unset, .unset, .unset, .unset, .unset]) rfl ?_
    refine XS.iloadN X0.here hx rfl (hb hby at_48) rfl ?_
    refine X0.ldcInt hx hown (mvT hZ (w_24 hw)) (g := (mkF m 49 #[.val (.int p1), .val (.int p2), .val (.int p3), .val (.int p4), .val (.long p5), .second, .val (.long ((p1 &&& (1048575 : Int32)).toInt64)), .second, .val (.long x2), .second, .unset, .unset, .unset, .unset, .unset, .unset, .unset, .unset, .unset, .unset, .unset, .unset, .unset, .unset, .unset] [(.int p3)])) rfl (hb hby at_49) _ ?_
    refine XS.iand X0.here hx rfl (hb hby at_51) rfl ?_
    refine XS.i2l X0.here hx rfl (hb hby at_52) rfl ?_
    refine XS.lload X0.here hx rfl (hb hby at_53) rfl ?_
    refine XS.lrem X0.here hx rfl (hb hby at_55) rfl (by rw [ex2]; exact cd3) ?_
    show Steps p.tables e below (s₁.setTop (mkF m 56 #[.val (.int p1), .val (.int p2), .val (.int p3), .val (.int p4), .val (.long p5), .second, .val (.long ((p1 &&& (1048575 : Int32)).toInt64)), .second, .val (.long x2), .second, .unset, .unset, .unset, .unset, .unset, .unset, .unset, .unset, .unset, .unset, .unset, .unset, .unset, .unset, .unset] [(.long (((p3 &&& (2147483647 : Int32)).toInt64) - (((p3 &&& (2147483647 : Int32)).toInt64) / x2) * x2))])) _
    rw [← ex4]
    refine XS.lstore X0.here hx rfl (hb hby at_56) rfl (l' := #[.val (.int p1), .val (.int p2), .val (.int p3), .val (.int p4), .val (.long p5), .second, .val (.long ((p1 &&& (1048575 : Int32)).toInt64)), .second, .val (.long x2), .second, .val (.long x4), .second, .unset, .unset, .unset, .unset, .unset, .unset, .unset, .unset, .unset, .unset, .unset, .unset, .unset]) rfl ?_
    refine XS.lload X0.here hx rfl (hb hby at_58) rfl ?_
    refine XS.lload X0.here hx rfl (hb hby at_60) rfl ?_
    refine XS.lmul X0.here hx rfl (hb hby at_62) rfl ?_
    show Steps p.tables e below (s₁.setTop (mkF m 63 #[.val (.int p1), .val (.int p2), .val (.int p3), .val (.int p4), .val (.long p5), .second, .val (.long ((p1 &&& (1048575 : Int32)).toInt64)), .second, .val (.long x2), .second, .val (.long x4), .second, .unset, .unset, .unset, .unset, .unset, .unset, .unset, .unset, .unset, .unset, .unset, .unset, .unset] [(.long (((p1 &&& (1048575 : Int32)).toInt64) * x2))])) _
    rw [← ex5]
    refine XS.lload X0.here hx rfl (hb hby at_63) rfl ?_
    refine XS.ladd X0.here hx rfl (hb hby at_65) rfl ?_
    refine XS.lstore X0.here hx rfl (hb hby at_66) rfl (l' := #[.val (.int p1), .val (.int p2), .val (.int p3), .val (.int p4), .val (.long p5), .second, .val (.long ((p1 &&& (1048575 : Int32)).toInt64)), .second, .val (.long x2), .second, .val (.long x4), .second, .val (.long (x5 + x4)), .second, .unset, .unset, .unset, .unset, .unset, .unset, .unset, .unset, .unset, .unset, .unset]) rfl ?_
    refine XS.iloadN X0.here hx rfl (hb hby at_68) rfl ?_
    refine XS.iconst X0.here hx rfl (hb hby at_69) ?_
    refine XS.iand X0.here hx rfl (hb hby at_70) rfl ?_
    refine XS.ifNo X0.here hx rfl (hb hby at_71) rfl ((if0 _ _).trans (feq (cc2 : ¬ ((p4 &&& (1 : Int32)) = (0 : Int32)))).1) ?_
    refine XS.iconst X0.here hx rfl (hb hby at_74) ?_
    refine XS.goto X0.here hx rfl (pc0 := 75) (pc' := 79) rfl (hb hby at_75) (by decide) (by decide) ?_
    refine XS.istore X0.here hx rfl (hb hby at_79) rfl (l' := #[.val (.int p1), .val (.int p2), .val (.int p3), .val (.int p4), .val (.long p5), .second, .val (.long ((p1 &&& (1048575 : Int32)).toInt64)), .second, .val (.long x2), .second, .val (.long x4), .second, .val (.long (x5 + x4)), .second, .val (.int (1 : Int32)), .unset, .unset, .unset, .unset, .unset, .unset, .unset, .unset, .unset, .unset]) rfl ?_
    refine XS.iload X0.here hx rfl (hb hby at_81) rfl ?_
    show Steps p.tables e below (s₁.setTop (mkF m 83 #[.val (.int p1), .val (.int p2), .val (.int p3), .val (.int p4), .val (.long p5), .second, .val (.long ((p1 &&& (1048575 : Int32)).toInt64)), .second, .val (.long x2), .second, .val (.long x4), .second, .val (.long (x5 + x4)), .second, .val (.int (1 : Int32)), .unset, .unset, .unset, .unset, .unset, .unset, .unset, .unset, .unset, .unset] [(.int (1 : Int32))])) _
    refine XS.ifNo X0.here hx rfl (hb hby at_83) rfl ((if0 _ _).trans (feq ((by decide : ¬ ((1 : Int32) = (0 : Int32))) : ¬ ((1 : Int32) = (0 : Int32)))).1) ?_
    refine XS.lload X0.here hx rfl (hb hby at_86) rfl ?_
    refine XS.lneg X0.here hx rfl (hb hby at_88) rfl ?_
    refine XS.lstore X0.here hx rfl (hb hby at_89) rfl (l' := #[.val (.int p1), .val (.int p2), .val (.int p3), .val (.int p4), .val (.long p5), .second, .val (.long ((p1 &&& (1048575 : Int32)).toInt64)), .second, .val (.long x2), .second, .val (.long x4), .second, .val (.long (-(x5 + x4))), .second, .val (.int (1 : Int32)), .unset, .unset, .unset, .unset, .unset, .unset, .unset, .unset, .unset, .unset]) rfl ?_
    refine st6 _ ?_
    refine XS.dup X6.here hx rfl (hb hby at_94) rfl rfl ?_
    refine XS.lload X6.here hx rfl (hb hby at_95) rfl ?_
    refine XS.lload X6.here hx rfl (hb hby at_97) rfl ?_
    refine XS.l2i X6.here hx rfl (hb hby at_99) rfl ?_
    refine st7 _ ?_
    refine st9 _ ?_
    show Steps p.tables e below (T9.setTop (mkF m 106 #[.val (.int p1), .val (.int p2), .val (.int p3), .val (.int p4), .val (.long p5), .second, .val (.long ((p1 &&& (1048575 : Int32)).toInt64)), .second, .val (.long x2), .second, .val (.long x4), .second, .val (.long (-(x5 + x4))), .second, .val (.int (1 : Int32)), .unset, .unset, .unset, .unset, .unset, .unset, .unset, .unset, .unset, .unset] [(.double (FP.ddiv (FP.l2d (-(x5 + x4))) (FP.i2d (x2.toInt32))))])) _
    rw [← ex10]
    refine XS.dstore X9.here hx rfl (hb hby at_106) rfl (l' := #[.val (.int p1), .val (.int p2), .val (.int p3), .val (.int p4), .val (.long p5), .second, .val (.long ((p1 &&& (1048575 : Int32)).toInt64)), .second, .val (.long x2), .second, .val (.long x4), .second, .val (.long (-(x5 + x4))), .second, .val (.int (1 : Int32)), .val (.double x10), .second, .unset, .unset, .unset, .unset, .unset, .unset, .unset, .unset]) rfl ?_
    refine XS.iload X9.here hx rfl (hb hby at_108) rfl ?_
    refine XS.ifNo X9.here hx rfl (hb hby at_110) rfl ((if0 _ _).trans (feq ((by decide : ¬ ((1 : Int32) = (0 : Int32))) : ¬ ((1 : Int32) = (0 : Int32)))).1) ?_
    refine XS.dload X9.here hx rfl (hb hby at_113) rfl ?_
    refine XS.dnegS X9.here hx rfl (hb hby at_115) rfl rfl ?_
    refine XS.goto X9.here hx rfl (pc0 := 116) (pc' := 121) rfl (hb hby at_116) (by decide) (by decide) ?_
    refine XS.dstore X9.here hx rfl (hb hby at_121) rfl (l' := #[.val (.int p1), .val (.int p2), .val (.int p3), .val (.int p4), .val (.long p5), .second, .val (.long ((p1 &&& (1048575 : Int32)).toInt64)), .second, .val (.long x2), .second, .val (.long x4), .second, .val (.long (-(x5 + x4))), .second, .val (.int (1 : Int32)), .val (.double x10), .second, .val (.double (FP.dneg x10)), .second, .unset, .unset, .unset, .unset, .unset, .unset]) rfl ?_
    refine XS.lload X9.here hx rfl (hb hby at_123) rfl ?_
    refine XS.l2dS X9.here hx rfl (hb hby at_125) rfl rfl ?_
    show Steps p.tables e below (T9.setTop (mkF m 126 #[.val (.int p1), .val (.int p2), .val (.int p3), .val (.int p4), .val (.long p5), .second, .val (.long ((p1 &&& (1048575 : Int32)).toInt64)), .second, .val (.long x2), .second, .val (.long x4), .second, .val (.long (-(x5 + x4))), .second, .val (.int (1 : Int32)), .val (.double x10), .second, .val (.double (FP.dneg x10)), .second, .unset, .unset, .unset, .unset, .unset, .unset] [(.double (FP.l2d ((p1 &&& (1048575 : Int32)).toInt64)))])) _
    rw [← ex11]
    refine XS.dstore X9.here hx rfl (hb hby at_126) rfl (l' := #[.val (.int p1), .val (.int p2), .val (.int p3), .val (.int p4), .val (.long p5), .second, .val (.long ((p1 &&& (1048575 : Int32)).toInt64)), .second, .val (.long x2), .second, .val (.long x4), .second, .val (.long (-(x5 + x4))), .second, .val (.int (1 : Int32)), .val (.double x10), .second, .val (.double (FP.dneg x10)), .second, .val (.double x11), .second, .unset, .unset, .unset, .unset]) rfl ?_
    refine XS.dload X9.here hx rfl (hb hby at_128) rfl ?_
    refine X9.ldc2DoubleC hx hown (mvT hZ (w_25 hw)) (g := (mkF m 130 #[.val (.int p1), .val (.int p2), .val (.int p3), .val (.int p4), .val (.long p5), .second, .val (.long ((p1 &&& (1048575 : Int32)).toInt64)), .second, .val (.long x2), .second, .val (.long x4), .second, .val (.long (-(x5 + x4))), .second, .val (.int (1 : Int32)), .val (.double x10), .second, .val (.double (FP.dneg x10)), .second, .val (.double x11), .second, .unset, .unset, .unset, .unset] [(.double x11)])) rfl (hb hby at_130) _ ?_
    refine XS.daddS X9.here hx rfl (hb hby at_133) rfl (by rw [ex11]; exact (own_nnaddh _)) rfl ?_
    show Steps p.tables e below (T9.setTop (mkF m 134 #[.val (.int p1), .val (.int p2), .val (.int p3), .val (.int p4), .val (.long p5), .second, .val (.long ((p1 &&& (1048575 : Int32)).toInt64)), .second, .val (.long x2), .second, .val (.long x4), .second, .val (.long (-(x5 + x4))), .second, .val (.int (1 : Int32)), .val (.double x10), .second, .val (.double (FP.dneg x10)), .second, .val (.double x11), .second, .unset, .unset, .unset, .unset] [(.double (FP.dadd x11 (4602678819172646912 : UInt64)))])) _
    rw [← ex12]
    refine XS.dstore X9.here hx rfl (hb hby at_134) rfl (l' := #[.val (.int p1), .val (.int p2), .val (.int p3), .val (.int p4), .val (.long p5), .second, .val (.long ((p1 &&& (1048575 : Int32)).toInt64)), .second, .val (.long x2), .second, .val (.long x4), .second, .val (.long (-(x5 + x4))), .second, .val (.int (1 : Int32)), .val (.double x10), .second, .val (.double (FP.dneg x10)), .second, .val (.double x11), .second, .val (.double x12), .second, .unset, .unset]) rfl ?_
    refine XS.lload X9.here hx rfl (hb hby at_136) rfl ?_
    refine XS.lconst X9.here hx rfl (hb hby at_138) ?_
    refine XS.lcmp X9.here hx rfl (hb hby at_139) rfl ?_
    refine XS.ifNo X9.here hx rfl (hb hby at_140) rfl ((if0 _ _).trans (teq ((by rw [ex4, ex2]; exact ((lw_eq _ _).mpr cc3)) : (lcmpW x4 (0 : Int64)) = (0 : Int32))).2) ?_
    refine XS.dload X9.here hx rfl (hb hby at_143) rfl ?_
    refine XS.dload X9.here hx rfl (hb hby at_145) rfl ?_
    refine XS.dcmpS X9.here hx rfl (hb hby at_147) rfl rfl ?_
    show Steps p.tables e below (T9.setTop (mkF m 148 #[.val (.int p1), .val (.int p2), .val (.int p3), .val (.int p4), .val (.long p5), .second, .val (.long ((p1 &&& (1048575 : Int32)).toInt64)), .second, .val (.long x2), .second, .val (.long x4), .second, .val (.long (-(x5 + x4))), .second, .val (.int (1 : Int32)), .val (.double x10), .second, .val (.double (FP.dneg x10)), .second, .val (.double x11), .second, .val (.double x12), .second, .unset, .unset] [(.int (cmpValue (FP.dcmp (FP.dneg x10) x11) .l))])) _
    rw [← ex13]
    refine XS.ifNo X9.here hx rfl (hb hby at_148) rfl ((if0 _ _).trans (teq ((by rw [ex13, ex11, ex10, ex5, ex4, ex2]; exact cd14) : x13 = (0 : Int32))).2) ?_
    refine XS.iconst X9.here hx rfl (hb hby at_151) ?_
    refine XS.goto X9.here hx rfl (pc0 := 152) (pc' := 156) rfl (hb hby at_152) (by decide) (by decide) ?_
    exact retN X9 hx (t := .boolean) hret (by simp) (hb hby at_156) hr
theorem rm0_6 (l : Launch) (Z : State) (a0 : Array Value) (hw : ∀ d ∈ tables_1, d.before a0 Z = true) (ws : List Jvm.Cond) (p1 : Int32) (p2 : Int32) (p3 : Int32) (p4 : Int32) (p5 : Int64) (h0 : Heap) (n0 : Nat) (Z0 : n0 ≤ h0.size) (Od0 : Old Z n0 h0) (cc1 : ¬ (((p4 >>> ((1 : Int32) &&& 31)) &&& (3 : Int32)) = (0 : Int32))) (cc2 : ¬ ((p4 &&& (1 : Int32)) = (0 : Int32))) (cc3 : ¬ ((((p3 &&& (2147483647 : Int32)).toInt64) - (((p3 &&& (2147483647 : Int32)).toInt64) / (((p2 &&& (1048575 : Int32)).toInt64) + (1 : Int64))) * (((p2 &&& (1048575 : Int32)).toInt64) + (1 : Int64))) = (0 : Int64))) (cc4 : ((2 : Int64) * (((p3 &&& (2147483647 : Int32)).toInt64) - (((p3 &&& (2147483647 : Int32)).toInt64) / (((p2 &&& (1048575 : Int32)).toInt64) + (1 : Int64))) * (((p2 &&& (1048575 : Int32)).toInt64) + (1 : Int64)))) < (((p2 &&& (1048575 : Int32)).toInt64) + (1 : Int64))) :
    OwnMet l Z x code maxLocals ret ws room_1 #[(.int p1), (.int p2), (.int p3), (.int p4), (.long p5)] h0 (Q0 n0) := by
  refine own_body (plainFor_of_name pn_2) (ef0 p1 p2 p3 p4 p5) ?_
  intro p e s m below meth c s₁ hx hby hml hown hnm hret hZ X0 e0
  have N0 := Fr.nil n0
  obtain ⟨x1, ex1⟩ : ∃ z, z = ((p4 >>> ((1 : Int32) &&& 31)) &&& (3 : Int32)) := ⟨_, rfl⟩
  obtain ⟨x2, ex2⟩ : ∃ z, z = (((p2 &&& (1048575 : Int32)).toInt64) + (1 : Int64)) := ⟨_, rfl⟩
  have cd3 : ¬ ((((p2 &&& (1048575 : Int32)).toInt64) + (1 : Int64)) = (0 : Int64)) := (own_N_ne p2)
  obtain ⟨x4, ex4⟩ : ∃ z, z = (((p3 &&& (2147483647 : Int32)).toInt64) - (((p3 &&& (2147483647 : Int32)).toInt64) / x2) * x2) := ⟨_, rfl⟩
  obtain ⟨x5, ex5⟩ : ∃ z, z = (((p1 &&& (1048575 : Int32)).toInt64) * x2) := ⟨_, rfl⟩
  obtain ⟨T6, h6, X6, e6, E6, A6, D6, -, st6⟩ := newO X0 hx hZ hown (w_0 hw) (w_1 hw) (w_2 hw) e0 (g := (mkF m 91 #[.val (.int p1), .val (.int p2), .val (.int p3), .val (.int p4), .val (.long p5), .second, .val (.long ((p1 &&& (1048575 : Int32)).toInt64)), .second, .val (.long x2), .second, .val (.long x4), .second, .val (.long (-(x5 + x4))), .second, .val (.int (1 : Int32)), .unset, .unset, .unset, .unset, .unset, .unset, .unset, .unset, .unset, .unset] [])) rfl (hb hby at_91) (by decide) (by decide)
  obtain ⟨b6, g6⟩ : ∃ z, z = h0.size := ⟨_, rfl⟩
  rw [← g6] at A6 D6 st6
  have s0 := E6.1
  have Fn6_termCount : Fld Z h6 b6 "com/example/senret/senret/IndexStatistics" "termCount" "J" (.long (0 : Int64)) := D6 (Or.inr (w_15 hw)) (ty := .long) (by decide)
  have Fn6_sentenceCount : Fld Z h6 b6 "com/example/senret/senret/IndexStatistics" "sentenceCount" "I" (.int (0 : Int32)) := D6 (Or.inr (w_17 hw)) (ty := .int) (by decide)
  have g_b6 : n0 ≤ b6 := Nat.le_trans Z0 (Nat.le_of_eq g6.symm)
  have z1 := Nat.le_trans Z0 s0
  obtain ⟨_, T7, L7, X7, hQ7, st7⟩ := own_special X6 hx hZ hown (y := y_1) (a := b6) (w_3 hw) (w_4 hw) (w_2 hw) (w_5 hw) (rm4 l Z a0 hw [] b6 (-(x5 + x4)) (x2.toInt32) h6 n0 z1 Fn6_termCount A6 g_b6 Fn6_sentenceCount) e6 (Ls := #[.val (.int p1), .val (.int p2), .val (.int p3), .val (.int p4), .val (.long p5), .second, .val (.long ((p1 &&& (1048575 : Int32)).toInt64)), .second, .val (.long x2), .second, .val (.long x4), .second, .val (.long (-(x5 + x4))), .second, .val (.int (1 : Int32)), .unset, .unset, .unset, .unset, .unset, .unset, .unset, .unset, .unset, .unset]) (by rw [hml]; rfl) (argsL := [(.long (-(x5 + x4))), (.int (x2.toInt32))]) (rest := [(.ref b6)]) (lenOf pd_1 rfl) (hb hby at_100) (W := 1)
  obtain ⟨rfl, Nq7, K7, o7_0, o7_1, o7_2⟩ := hQ7
  have N7 := Fr.app N0 Nq7
  have s1 := K7.1
  have cd8 : ¬ (((((p2 &&& (1048575 : Int32)).toInt64) + (1 : Int64)).toInt32) = (0 : Int32)) := (own_NI_ne p2)
  have z2 := Nat.le_trans Z0 (Nat.le_trans s0 s1)
  obtain ⟨_, T9, L9, X9, hQ9, st9⟩ := own_virtual X7 hx hZ hown (y := y_2) (z := y_2) o7_0 (w_18 hw) (w_19 hw) (notFace_of_selects (args := #[]) (mvT hZ (w_21 hw))) (w_21 hw) (w_20 hw) (w_2 hw) (w_22 hw) (rm5 l Z a0 hw [] b6 (x2.toInt32) (-(x5 + x4)) T7.heap n0 z2 o7_1 (by rw [ex2]; exact cd8) o7_2) rfl (Ls := #[.val (.int p1), .val (.int p2), .val (.int p3), .val (.int p4), .val (.long p5), .second, .val (.long ((p1 &&& (1048575 : Int32)).toInt64)), .second, .val (.long x2), .second, .val (.long x4), .second, .val (.long (-(x5 + x4))), .second, .val (.int (1 : Int32)), .unset, .unset, .unset, .unset, .unset, .unset, .unset, .unset, .unset, .unset]) (by rw [hml]; rfl) (argsL := []) (rest := []) (lenOf pd_2 rfl) (hb hby at_103) (W := 0)
  obtain ⟨rfl, Nq9, e9⟩ := hQ9
  have N9 := Fr.app N7 Nq9
  obtain ⟨x10, ex10⟩ : ∃ z, z = (FP.ddiv (FP.l2d (-(x5 + x4))) (FP.i2d (x2.toInt32))) := ⟨_, rfl⟩
  obtain ⟨x11, ex11⟩ : ∃ z, z = (FP.l2d ((p1 &&& (1048575 : Int32)).toInt64)) := ⟨_, rfl⟩
  obtain ⟨x12, ex12⟩ : ∃ z, z = (FP.dadd x11 (4602678819172646912 : UInt64)) := ⟨_, rfl⟩
  obtain ⟨x13, ex13⟩ : ∃ z, z = (cmpValue (FP.dcmp x11 (FP.dneg x10)) .g) := ⟨_, rfl⟩
  have cd14 : (cmpValue (FP.dcmp (FP.l2d ((p1 &&& (1048575 : Int32)).toInt64)) (FP.dneg (FP.ddiv (FP.l2d (-((((p1 &&& (1048575 : Int32)).toInt64) * (((p2 &&& (1048575 : Int32)).toInt64) + (1 : Int64))) + (((p3 &&& (2147483647 : Int32)).toInt64) - (((p3 &&& (2147483647 : Int32)).toInt64) / (((p2 &&& (1048575 : Int32)).toInt64) + (1 : Int64))) * (((p2 &&& (1048575 : Int32)).toInt64) + (1 : Int64)))))) (FP.i2d ((((p2 &&& (1048575 : Int32)).toInt64) + (1 : Int64)).toInt32))))) .g) < (0 : Int32) := (by rw [own_m_17 p1 p2 p3 cc3 cc4 .g] <;> decide)
  obtain ⟨x15, ex15⟩ : ∃ z, z = (FP.dadd x11 (4607182418800017408 : UInt64)) := ⟨_, rfl⟩
  obtain ⟨x16, ex16⟩ : ∃ z, z = (cmpValue (FP.dcmp (FP.dneg x10) x15) .g) := ⟨_, rfl⟩
  have cd17 : (cmpValue (FP.dcmp (FP.dneg (FP.ddiv (FP.l2d (-((((p1 &&& (1048575 : Int32)).toInt64) * (((p2 &&& (1048575 : Int32)).toInt64) + (1 : Int64))) + (((p3 &&& (2147483647 : Int32)).toInt64) - (((p3 &&& (2147483647 : Int32)).toInt64) / (((p2 &&& (1048575 : Int32)).toInt64) + (1 : Int64))) * (((p2 &&& (1048575 : Int32)).toInt64) + (1 : Int64)))))) (FP.i2d ((((p2 &&& (1048575 : Int32)).toInt64) + (1 : Int64)).toInt32)))) (FP.dadd (FP.l2d ((p1 &&& (1048575 : Int32)).toInt64)) (4607182418800017408 : UInt64))) .g) < (0 : Int32) := (by rw [own_m_18 p1 p2 p3 cc3 cc4 .g] <;> decide)
  obtain ⟨x18, ex18⟩ : ∃ z, z = (cmpValue (FP.dcmp (FP.dneg x10) x12) .g) := ⟨_, rfl⟩
  have cd19 : (cmpValue (FP.dcmp (FP.dneg (FP.ddiv (FP.l2d (-((((p1 &&& (1048575 : Int32)).toInt64) * (((p2 &&& (1048575 : Int32)).toInt64) + (1 : Int64))) + (((p3 &&& (2147483647 : Int32)).toInt64) - (((p3 &&& (2147483647 : Int32)).toInt64) / (((p2 &&& (1048575 : Int32)).toInt64) + (1 : Int64))) * (((p2 &&& (1048575 : Int32)).toInt64) + (1 : Int64)))))) (FP.i2d ((((p2 &&& (1048575 : Int32)).toInt64) + (1 : Int64)).toInt32)))) (FP.dadd (FP.l2d ((p1 &&& (1048575 : Int32)).toInt64)) (4602678819172646912 : UInt64))) .g) < (0 : Int32) := (by rw [own_m_19 p1 p2 p3 cc3 cc4 .g] <;> decide)
  refine ⟨T9, _, _, _, (some (.int (1 : Int32))), X9, nofun, by decide, by decide, ?_, fun fs hr => ?_⟩
  · show Q0 n0 _ T9.heap _
    rw [e9]
    subst ex18
    subst ex16
    subst ex15
    subst ex13
    subst ex12
    subst ex11
    subst ex10
    subst ex5
    subst ex4
    subst ex2
    subst ex1
    exact ⟨rfl, N9⟩
  · show Steps p.tables e below (s₁.setTop (mkF m 0 #[.val (.int p1), .val (.int p2), .val (.int p3), .val (.int p4), .val (.long p5), .second, .unset, .unset, .unset, .unset, .unset, .unset, .unset, .unset, .unset, .unset, .unset, .unset, .unset, .unset, .unset, .unset, .unset, .unset, .unset] [])) _
    refine XS.iloadN X0.here hx rfl (hb hby at_0) rfl ?_
    refine XS.iconst X0.here hx rfl (hb hby at_1) ?_
    refine XS.ishr X0.here hx rfl (hb hby at_2) rfl ?_
    refine XS.iconst X0.here hx rfl (hb hby at_3) ?_
    refine XS.iand X0.here hx rfl (hb hby at_4) rfl ?_
    show Steps p.tables e below (s₁.setTop (mkF m 5 #[.val (.int p1), .val (.int p2), .val (.int p3), .val (.int p4), .val (.long p5), .second, .unset, .unset, .unset, .unset, .unset, .unset, .unset, .unset, .unset, .unset, .unset, .unset, .unset, .unset, .unset, .unset, .unset, .unset, .unset] [(.int ((p4 >>> ((1 : Int32) &&& 31)) &&& (3 : Int32)))])) _
    rw [← ex1]
    refine XS.ifYes X0.here hx rfl (pc0 := 5) (pc' := 32) rfl (hb hby at_5) rfl ((if0 _ _).trans (feq ((by rw [ex1]; exact cc1) : ¬ (x1 = (0 : Int32)))).2) (by decide) (by decide) ?_
    refine XS.iloadN X0.here hx rfl (hb hby at_32) rfl ?_
    refine X0.ldcInt hx hown (mvT hZ (w_23 hw)) (g := (mkF m 33 #[.val (.int p1), .val (.int p2), .val (.int p3), .val (.int p4), .val (.long p5), .second, .unset, .unset, .unset, .unset, .unset, .unset, .unset, .unset, .unset, .unset, .unset, .unset, .unset, .unset, .unset, .unset, .unset, .unset, .unset] [(.int p1)])) rfl (hb hby at_33) _ ?_
    refine XS.iand X0.here hx rfl (hb hby at_35) rfl ?_
    refine XS.i2l X0.here hx rfl (hb hby at_36) rfl ?_
    refine XS.lstore X0.here hx rfl (hb hby at_37) rfl (l' := #[.val (.int p1), .val (.int p2), .val (.int p3), .val (.int p4), .val (.long p5), .second, .val (.long ((p1 &&& (1048575 : Int32)).toInt64)), .second, .unset, .unset, .unset, .unset, .unset, .unset, .unset, .unset, .unset, .unset, .unset, .unset, .unset, .unset, .unset, .unset, .unset]) rfl ?_
    refine XS.iloadN X0.here hx rfl (hb hby at_39) rfl ?_
    refine X0.ldcInt hx hown (mvT hZ (w_23 hw)) (g := (mkF m 40 #[.val (.int p1), .val (.int p2), .val (.int p3), .val (.int p4), .val (.long p5), .second, .val (.long ((p1 &&& (1048575 : Int32)).toInt64)), .second, .unset, .unset, .unset, .unset, .unset, .unset, .unset, .unset, .unset, .unset, .unset, .unset, .unset, .unset, .unset, .unset, .unset] [(.int p2)])) rfl (hb hby at_40) _ ?_
    refine XS.iand X0.here hx rfl (hb hby at_42) rfl ?_
    refine XS.i2l X0.here hx rfl (hb hby at_43) rfl ?_
    refine XS.lconst X0.here hx rfl (hb hby at_44) ?_
    show Steps p.tables e below (s₁.setTop (mkF m 45 #[.val (.int p1), .val (.int p2), .val (.int p3), .val (.int p4), .val (.long p5), .second, .val (.long ((p1 &&& (1048575 : Int32)).toInt64)), .second, .unset, .unset, .unset, .unset, .unset, .unset, .unset, .unset, .unset, .unset, .unset, .unset, .unset, .unset, .unset, .unset, .unset] [(.long (1 : Int64)), (.long ((p2 &&& (1048575 : Int32)).toInt64))])) _
    refine XS.ladd X0.here hx rfl (hb hby at_45) rfl ?_
    show Steps p.tables e below (s₁.setTop (mkF m 46 #[.val (.int p1), .val (.int p2), .val (.int p3), .val (.int p4), .val (.long p5), .second, .val (.long ((p1 &&& (1048575 : Int32)).toInt64)), .second, .unset, .unset, .unset, .unset, .unset, .unset, .unset, .unset, .unset, .unset, .unset, .unset, .unset, .unset, .unset, .unset, .unset] [(.long (((p2 &&& (1048575 : Int32)).toInt64) + (1 : Int64)))])) _
    rw [← ex2]
    refine XS.lstore X0.here hx rfl (hb hby at_46) rfl (l' := #[.val (.int p1), .val (.int p2), .val (.int p3), .val (.int p4), .val (.long p5), .second, .val (.long ((p1 &&& (1048575 : Int32)).toInt64)), .second, .val (.long x2), .second, .unset, .unset, .unset, .unset, .unset, .unset, .unset, .unset, .unset, .unset, .unset, .unset, .unset, .unset, .unset]) rfl ?_
    refine XS.iloadN X0.here hx rfl (hb hby at_48) rfl ?_
    refine X0.ldcInt hx hown (mvT hZ (w_24 hw)) (g := (mkF m 49 #[.val (.int p1), .val (.int p2), .val (.int p3), .val (.int p4), .val (.long p5), .second, .val (.long ((p1 &&& (1048575 : Int32)).toInt64)), .second, .val (.long x2), .second, .unset, .unset, .unset, .unset, .unset, .unset, .unset, .unset, .unset, .unset, .unset, .unset, .unset, .unset, .unset] [(.int p3)])) rfl (hb hby at_49) _ ?_
    refine XS.iand X0.here hx rfl (hb hby at_51) rfl ?_
    refine XS.i2l X0.here hx rfl (hb hby at_52) rfl ?_
    refine XS.lload X0.here hx rfl (hb hby at_53) rfl ?_
    refine XS.lrem X0.here hx rfl (hb hby at_55) rfl (by rw [ex2]; exact cd3) ?_
    show Steps p.tables e below (s₁.setTop (mkF m 56 #[.val (.int p1), .val (.int p2), .val (.int p3), .val (.int p4), .val (.long p5), .second, .val (.long ((p1 &&& (1048575 : Int32)).toInt64)), .second, .val (.long x2), .second, .unset, .unset, .unset, .unset, .unset, .unset, .unset, .unset, .unset, .unset, .unset, .unset, .unset, .unset, .unset] [(.long (((p3 &&& (2147483647 : Int32)).toInt64) - (((p3 &&& (2147483647 : Int32)).toInt64) / x2) * x2))])) _
    rw [← ex4]
    refine XS.lstore X0.here hx rfl (hb hby at_56) rfl (l' := #[.val (.int p1), .val (.int p2), .val (.int p3), .val (.int p4), .val (.long p5), .second, .val (.long ((p1 &&& (1048575 : Int32)).toInt64)), .second, .val (.long x2), .second, .val (.long x4), .second, .unset, .unset, .unset, .unset, .unset, .unset, .unset, .unset, .unset, .unset, .unset, .unset, .unset]) rfl ?_
    refine XS.lload X0.here hx rfl (hb hby at_58) rfl ?_
    refine XS.lload X0.here hx rfl (hb hby at_60) rfl ?_
    refine XS.lmul X0.here hx rfl (hb hby at_62) rfl ?_
    show Steps p.tables e below (s₁.setTop (mkF m 63 #[.val (.int p1), .val (.int p2), .val (.int p3), .val (.int p4), .val (.long p5), .second, .val (.long ((p1 &&& (1048575 : Int32)).toInt64)), .second, .val (.long x2), .second, .val (.long x4), .second, .unset, .unset, .unset, .unset, .unset, .unset, .unset, .unset, .unset, .unset, .unset, .unset, .unset] [(.long (((p1 &&& (1048575 : Int32)).toInt64) * x2))])) _
    rw [← ex5]
    refine XS.lload X0.here hx rfl (hb hby at_63) rfl ?_
    refine XS.ladd X0.here hx rfl (hb hby at_65) rfl ?_
    refine XS.lstore X0.here hx rfl (hb hby at_66) rfl (l' := #[.val (.int p1), .val (.int p2), .val (.int p3), .val (.int p4), .val (.long p5), .second, .val (.long ((p1 &&& (1048575 : Int32)).toInt64)), .second, .val (.long x2), .second, .val (.long x4), .second, .val (.long (x5 + x4)), .second, .unset, .unset, .unset, .unset, .unset, .unset, .unset, .unset, .unset, .unset, .unset]) rfl ?_
    refine XS.iloadN X0.here hx rfl (hb hby at_68) rfl ?_
    refine XS.iconst X0.here hx rfl (hb hby at_69) ?_
    refine XS.iand X0.here hx rfl (hb hby at_70) rfl ?_
    refine XS.ifNo X0.here hx rfl (hb hby at_71) rfl ((if0 _ _).trans (feq (cc2 : ¬ ((p4 &&& (1 : Int32)) = (0 : Int32)))).1) ?_
    refine XS.iconst X0.here hx rfl (hb hby at_74) ?_
    refine XS.goto X0.here hx rfl (pc0 := 75) (pc' := 79) rfl (hb hby at_75) (by decide) (by decide) ?_
    refine XS.istore X0.here hx rfl (hb hby at_79) rfl (l' := #[.val (.int p1), .val (.int p2), .val (.int p3), .val (.int p4), .val (.long p5), .second, .val (.long ((p1 &&& (1048575 : Int32)).toInt64)), .second, .val (.long x2), .second, .val (.long x4), .second, .val (.long (x5 + x4)), .second, .val (.int (1 : Int32)), .unset, .unset, .unset, .unset, .unset, .unset, .unset, .unset, .unset, .unset]) rfl ?_
    refine XS.iload X0.here hx rfl (hb hby at_81) rfl ?_
    show Steps p.tables e below (s₁.setTop (mkF m 83 #[.val (.int p1), .val (.int p2), .val (.int p3), .val (.int p4), .val (.long p5), .second, .val (.long ((p1 &&& (1048575 : Int32)).toInt64)), .second, .val (.long x2), .second, .val (.long x4), .second, .val (.long (x5 + x4)), .second, .val (.int (1 : Int32)), .unset, .unset, .unset, .unset, .unset, .unset, .unset, .unset, .unset, .unset] [(.int (1 : Int32))])) _
    refine XS.ifNo X0.here hx rfl (hb hby at_83) rfl ((if0 _ _).trans (feq ((by decide : ¬ ((1 : Int32) = (0 : Int32))) : ¬ ((1 : Int32) = (0 : Int32)))).1) ?_
    refine XS.lload X0.here hx rfl (hb hby at_86) rfl ?_
    refine XS.lneg X0.here hx rfl (hb hby at_88) rfl ?_
    refine XS.lstore X0.here hx rfl (hb hby at_89) rfl (l' := #[.val (.int p1), .val (.int p2), .val (.int p3), .val (.int p4), .val (.long p5), .second, .val (.long ((p1 &&& (1048575 : Int32)).toInt64)), .second, .val (.long x2), .second, .val (.long x4), .second, .val (.long (-(x5 + x4))), .second, .val (.int (1 : Int32)), .unset, .unset, .unset, .unset, .unset, .unset, .unset, .unset, .unset, .unset]) rfl ?_
    refine st6 _ ?_
    refine XS.dup X6.here hx rfl (hb hby at_94) rfl rfl ?_
    refine XS.lload X6.here hx rfl (hb hby at_95) rfl ?_
    refine XS.lload X6.here hx rfl (hb hby at_97) rfl ?_
    refine XS.l2i X6.here hx rfl (hb hby at_99) rfl ?_
    refine st7 _ ?_
    refine st9 _ ?_
    show Steps p.tables e below (T9.setTop (mkF m 106 #[.val (.int p1), .val (.int p2), .val (.int p3), .val (.int p4), .val (.long p5), .second, .val (.long ((p1 &&& (1048575 : Int32)).toInt64)), .second, .val (.long x2), .second, .val (.long x4), .second, .val (.long (-(x5 + x4))), .second, .val (.int (1 : Int32)), .unset, .unset, .unset, .unset, .unset, .unset, .unset, .unset, .unset, .unset] [(.double (FP.ddiv (FP.l2d (-(x5 + x4))) (FP.i2d (x2.toInt32))))])) _
    rw [← ex10]
    refine XS.dstore X9.here hx rfl (hb hby at_106) rfl (l' := #[.val (.int p1), .val (.int p2), .val (.int p3), .val (.int p4), .val (.long p5), .second, .val (.long ((p1 &&& (1048575 : Int32)).toInt64)), .second, .val (.long x2), .second, .val (.long x4), .second, .val (.long (-(x5 + x4))), .second, .val (.int (1 : Int32)), .val (.double x10), .second, .unset, .unset, .unset, .unset, .unset, .unset, .unset, .unset]) rfl ?_
    refine XS.iload X9.here hx rfl (hb hby at_108) rfl ?_
    refine XS.ifNo X9.here hx rfl (hb hby at_110) rfl ((if0 _ _).trans (feq ((by decide : ¬ ((1 : Int32) = (0 : Int32))) : ¬ ((1 : Int32) = (0 : Int32)))).1) ?_
    refine XS.dload X9.here hx rfl (hb hby at_113) rfl ?_
    refine XS.dnegS X9.here hx rfl (hb hby at_115) rfl rfl ?_
    refine XS.goto X9.here hx rfl (pc0 := 116) (pc' := 121) rfl (hb hby at_116) (by decide) (by decide) ?_
    refine XS.dstore X9.here hx rfl (hb hby at_121) rfl (l' := #[.val (.int p1), .val (.int p2), .val (.int p3), .val (.int p4), .val (.long p5), .second, .val (.long ((p1 &&& (1048575 : Int32)).toInt64)), .second, .val (.long x2), .second, .val (.long x4), .second, .val (.long (-(x5 + x4))), .second, .val (.int (1 : Int32)), .val (.double x10), .second, .val (.double (FP.dneg x10)), .second, .unset, .unset, .unset, .unset, .unset, .unset]) rfl ?_
    refine XS.lload X9.here hx rfl (hb hby at_123) rfl ?_
    refine XS.l2dS X9.here hx rfl (hb hby at_125) rfl rfl ?_
    show Steps p.tables e below (T9.setTop (mkF m 126 #[.val (.int p1), .val (.int p2), .val (.int p3), .val (.int p4), .val (.long p5), .second, .val (.long ((p1 &&& (1048575 : Int32)).toInt64)), .second, .val (.long x2), .second, .val (.long x4), .second, .val (.long (-(x5 + x4))), .second, .val (.int (1 : Int32)), .val (.double x10), .second, .val (.double (FP.dneg x10)), .second, .unset, .unset, .unset, .unset, .unset, .unset] [(.double (FP.l2d ((p1 &&& (1048575 : Int32)).toInt64)))])) _
    rw [← ex11]
    refine XS.dstore X9.here hx rfl (hb hby at_126) rfl (l' := #[.val (.int p1), .val (.int p2), .val (.int p3), .val (.int p4), .val (.long p5), .second, .val (.long ((p1 &&& (1048575 : Int32)).toInt64)), .second, .val (.long x2), .second, .val (.long x4), .second, .val (.long (-(x5 + x4))), .second, .val (.int (1 : Int32)), .val (.double x10), .second, .val (.double (FP.dneg x10)), .second, .val (.double x11), .second, .unset, .unset, .unset, .unset]) rfl ?_
    refine XS.dload X9.here hx rfl (hb hby at_128) rfl ?_
    refine X9.ldc2DoubleC hx hown (mvT hZ (w_25 hw)) (g := (mkF m 130 #[.val (.int p1), .val (.int p2), .val (.int p3), .val (.int p4), .val (.long p5), .second, .val (.long ((p1 &&& (1048575 : Int32)).toInt64)), .second, .val (.long x2), .second, .val (.long x4), .second, .val (.long (-(x5 + x4))), .second, .val (.int (1 : Int32)), .val (.double x10), .second, .val (.double (FP.dneg x10)), .second, .val (.double x11), .second, .unset, .unset, .unset, .unset] [(.double x11)])) rfl (hb hby at_130) _ ?_
    refine XS.daddS X9.here hx rfl (hb hby at_133) rfl (by rw [ex11]; exact (own_nnaddh _)) rfl ?_
    show Steps p.tables e below (T9.setTop (mkF m 134 #[.val (.int p1), .val (.int p2), .val (.int p3), .val (.int p4), .val (.long p5), .second, .val (.long ((p1 &&& (1048575 : Int32)).toInt64)), .second, .val (.long x2), .second, .val (.long x4), .second, .val (.long (-(x5 + x4))), .second, .val (.int (1 : Int32)), .val (.double x10), .second, .val (.double (FP.dneg x10)), .second, .val (.double x11), .second, .unset, .unset, .unset, .unset] [(.double (FP.dadd x11 (4602678819172646912 : UInt64)))])) _
    rw [← ex12]
    refine XS.dstore X9.here hx rfl (hb hby at_134) rfl (l' := #[.val (.int p1), .val (.int p2), .val (.int p3), .val (.int p4), .val (.long p5), .second, .val (.long ((p1 &&& (1048575 : Int32)).toInt64)), .second, .val (.long x2), .second, .val (.long x4), .second, .val (.long (-(x5 + x4))), .second, .val (.int (1 : Int32)), .val (.double x10), .second, .val (.double (FP.dneg x10)), .second, .val (.double x11), .second, .val (.double x12), .second, .unset, .unset]) rfl ?_
    refine XS.lload X9.here hx rfl (hb hby at_136) rfl ?_
    refine XS.lconst X9.here hx rfl (hb hby at_138) ?_
    refine XS.lcmp X9.here hx rfl (hb hby at_139) rfl ?_
    refine XS.ifYes X9.here hx rfl (pc0 := 140) (pc' := 157) rfl (hb hby at_140) rfl ((if0 _ _).trans (feq ((by rw [ex4, ex2]; exact (fun q => cc3 ((lw_eq _ _).mp q))) : ¬ ((lcmpW x4 (0 : Int64)) = (0 : Int32)))).2) (by decide) (by decide) ?_
    refine XS.dload X9.here hx rfl (hb hby at_157) rfl ?_
    refine XS.dload X9.here hx rfl (hb hby at_159) rfl ?_
    refine XS.dcmpS X9.here hx rfl (hb hby at_161) rfl rfl ?_
    show Steps p.tables e below (T9.setTop (mkF m 162 #[.val (.int p1), .val (.int p2), .val (.int p3), .val (.int p4), .val (.long p5), .second, .val (.long ((p1 &&& (1048575 : Int32)).toInt64)), .second, .val (.long x2), .second, .val (.long x4), .second, .val (.long (-(x5 + x4))), .second, .val (.int (1 : Int32)), .val (.double x10), .second, .val (.double (FP.dneg x10)), .second, .val (.double x11), .second, .val (.double x12), .second, .unset, .unset] [(.int (cmpValue (FP.dcmp x11 (FP.dneg x10)) .g))])) _
    rw [← ex13]
    refine XS.ifNo X9.here hx rfl (hb hby at_162) rfl ((if0 _ _).trans (tlt ((by rw [ex13, ex11, ex10, ex5, ex4, ex2]; exact cd14) : x13 < (0 : Int32))).2.1) ?_
    refine XS.dload X9.here hx rfl (hb hby at_165) rfl ?_
    refine XS.dload X9.here hx rfl (hb hby at_167) rfl ?_
    refine XS.dconst1 X9.here hx rfl (hb hby at_169) rfl ?_
    refine XS.daddS X9.here hx rfl (hb hby at_170) rfl (by rw [ex11]; exact (own_nnadd1 _)) rfl ?_
    show Steps p.tables e below (T9.setTop (mkF m 171 #[.val (.int p1), .val (.int p2), .val (.int p3), .val (.int p4), .val (.long p5), .second, .val (.long ((p1 &&& (1048575 : Int32)).toInt64)), .second, .val (.long x2), .second, .val (.long x4), .second, .val (.long (-(x5 + x4))), .second, .val (.int (1 : Int32)), .val (.double x10), .second, .val (.double (FP.dneg x10)), .second, .val (.double x11), .second, .val (.double x12), .second, .unset, .unset] [(.double (FP.dadd x11 (4607182418800017408 : UInt64))), (.double (FP.dneg x10))])) _
    rw [← ex15]
    refine XS.dcmpS X9.here hx rfl (hb hby at_171) rfl rfl ?_
    show Steps p.tables e below (T9.setTop (mkF m 172 #[.val (.int p1), .val (.int p2), .val (.int p3), .val (.int p4), .val (.long p5), .second, .val (.long ((p1 &&& (1048575 : Int32)).toInt64)), .second, .val (.long x2), .second, .val (.long x4), .second, .val (.long (-(x5 + x4))), .second, .val (.int (1 : Int32)), .val (.double x10), .second, .val (.double (FP.dneg x10)), .second, .val (.double x11), .second, .val (.double x12), .second, .unset, .unset] [(.int (cmpValue (FP.dcmp (FP.dneg x10) x15) .g))])) _
    rw [← ex16]
    refine XS.ifYes X9.here hx rfl (pc0 := 172) (pc' := 177) rfl (hb hby at_172) rfl ((if0 _ _).trans (tlt ((by rw [ex16, ex15, ex11, ex10, ex5, ex4, ex2]; exact cd17) : x16 < (0 : Int32))).1) (by decide) (by decide) ?_
    refine X9.ldc2Long hx hown (mvT hZ (w_26 hw)) (g := (mkF m 177 #[.val (.int p1), .val (.int p2), .val (.int p3), .val (.int p4), .val (.long p5), .second, .val (.long ((p1 &&& (1048575 : Int32)).toInt64)), .second, .val (.long x2), .second, .val (.long x4), .second, .val (.long (-(x5 + x4))), .second, .val (.int (1 : Int32)), .val (.double x10), .second, .val (.double (FP.dneg x10)), .second, .val (.double x11), .second, .val (.double x12), .second, .unset, .unset] [])) rfl (hb hby at_177) _ ?_
    refine XS.lload X9.here hx rfl (hb hby at_180) rfl ?_
    refine XS.lmul X9.here hx rfl (hb hby at_182) rfl ?_
    refine XS.lstore X9.here hx rfl (hb hby at_183) rfl (l' := #[.val (.int p1), .val (.int p2), .val (.int p3), .val (.int p4), .val (.long p5), .second, .val (.long ((p1 &&& (1048575 : Int32)).toInt64)), .second, .val (.long x2), .second, .val (.long x4), .second, .val (.long (-(x5 + x4))), .second, .val (.int (1 : Int32)), .val (.double x10), .second, .val (.double (FP.dneg x10)), .second, .val (.double x11), .second, .val (.double x12), .second, .val (.long ((2 : Int64) * x4)), .second]) rfl ?_
    refine XS.lload X9.here hx rfl (hb hby at_185) rfl ?_
    refine XS.lload X9.here hx rfl (hb hby at_187) rfl ?_
    refine XS.lcmp X9.here hx rfl (hb hby at_189) rfl ?_
    refine XS.ifNo X9.here hx rfl (hb hby at_190) rfl ((if0 _ _).trans (tlt ((by rw [ex4, ex2]; exact ((lw_lt _ _).mpr cc4)) : (lcmpW ((2 : Int64) * x4) x2) < (0 : Int32))).2.1) ?_
    refine XS.dload X9.here hx rfl (hb hby at_193) rfl ?_
    refine XS.dload X9.here hx rfl (hb hby at_195) rfl ?_
    show Steps p.tables e below (T9.setTop (mkF m 197 #[.val (.int p1), .val (.int p2), .val (.int p3), .val (.int p4), .val (.long p5), .second, .val (.long ((p1 &&& (1048575 : Int32)).toInt64)), .second, .val (.long x2), .second, .val (.long x4), .second, .val (.long (-(x5 + x4))), .second, .val (.int (1 : Int32)), .val (.double x10), .second, .val (.double (FP.dneg x10)), .second, .val (.double x11), .second, .val (.double x12), .second, .val (.long ((2 : Int64) * x4)), .second] [(.double x12), (.double (FP.dneg x10))])) _
    refine XS.dcmpS X9.here hx rfl (hb hby at_197) rfl rfl ?_
    show Steps p.tables e below (T9.setTop (mkF m 198 #[.val (.int p1), .val (.int p2), .val (.int p3), .val (.int p4), .val (.long p5), .second, .val (.long ((p1 &&& (1048575 : Int32)).toInt64)), .second, .val (.long x2), .second, .val (.long x4), .second, .val (.long (-(x5 + x4))), .second, .val (.int (1 : Int32)), .val (.double x10), .second, .val (.double (FP.dneg x10)), .second, .val (.double x11), .second, .val (.double x12), .second, .val (.long ((2 : Int64) * x4)), .second] [(.int (cmpValue (FP.dcmp (FP.dneg x10) x12) .g))])) _
    rw [← ex18]
    refine XS.ifNo X9.here hx rfl (hb hby at_198) rfl ((if0 _ _).trans (tlt ((by rw [ex18, ex12, ex11, ex10, ex5, ex4, ex2]; exact cd19) : x18 < (0 : Int32))).2.1) ?_
    refine XS.iconst X9.here hx rfl (hb hby at_201) ?_
    refine XS.goto X9.here hx rfl (pc0 := 202) (pc' := 206) rfl (hb hby at_202) (by decide) (by decide) ?_
    exact retN X9 hx (t := .boolean) hret (by simp) (hb hby at_206) hr
theorem rm0_7 (l : Launch) (Z : State) (a0 : Array Value) (hw : ∀ d ∈ tables_1, d.before a0 Z = true) (ws : List Jvm.Cond) (p1 : Int32) (p2 : Int32) (p3 : Int32) (p4 : Int32) (p5 : Int64) (h0 : Heap) (n0 : Nat) (Z0 : n0 ≤ h0.size) (Od0 : Old Z n0 h0) (cc1 : ¬ (((p4 >>> ((1 : Int32) &&& 31)) &&& (3 : Int32)) = (0 : Int32))) (cc2 : ¬ ((p4 &&& (1 : Int32)) = (0 : Int32))) (cc3 : ¬ ((((p3 &&& (2147483647 : Int32)).toInt64) - (((p3 &&& (2147483647 : Int32)).toInt64) / (((p2 &&& (1048575 : Int32)).toInt64) + (1 : Int64))) * (((p2 &&& (1048575 : Int32)).toInt64) + (1 : Int64))) = (0 : Int64))) (cc4 : ¬ (((2 : Int64) * (((p3 &&& (2147483647 : Int32)).toInt64) - (((p3 &&& (2147483647 : Int32)).toInt64) / (((p2 &&& (1048575 : Int32)).toInt64) + (1 : Int64))) * (((p2 &&& (1048575 : Int32)).toInt64) + (1 : Int64)))) < (((p2 &&& (1048575 : Int32)).toInt64) + (1 : Int64)))) (cc5 : (((p2 &&& (1048575 : Int32)).toInt64) + (1 : Int64)) < ((2 : Int64) * (((p3 &&& (2147483647 : Int32)).toInt64) - (((p3 &&& (2147483647 : Int32)).toInt64) / (((p2 &&& (1048575 : Int32)).toInt64) + (1 : Int64))) * (((p2 &&& (1048575 : Int32)).toInt64) + (1 : Int64))))) :
    OwnMet l Z x code maxLocals ret ws room_1 #[(.int p1), (.int p2), (.int p3), (.int p4), (.long p5)] h0 (Q0 n0) := by
  refine own_body (plainFor_of_name pn_2) (ef0 p1 p2 p3 p4 p5) ?_
  intro p e s m below meth c s₁ hx hby hml hown hnm hret hZ X0 e0
  have N0 := Fr.nil n0
  obtain ⟨x1, ex1⟩ : ∃ z, z = ((p4 >>> ((1 : Int32) &&& 31)) &&& (3 : Int32)) := ⟨_, rfl⟩
  obtain ⟨x2, ex2⟩ : ∃ z, z = (((p2 &&& (1048575 : Int32)).toInt64) + (1 : Int64)) := ⟨_, rfl⟩
  have cd3 : ¬ ((((p2 &&& (1048575 : Int32)).toInt64) + (1 : Int64)) = (0 : Int64)) := (own_N_ne p2)
  obtain ⟨x4, ex4⟩ : ∃ z, z = (((p3 &&& (2147483647 : Int32)).toInt64) - (((p3 &&& (2147483647 : Int32)).toInt64) / x2) * x2) := ⟨_, rfl⟩
  obtain ⟨x5, ex5⟩ : ∃ z, z = (((p1 &&& (1048575 : Int32)).toInt64) * x2) := ⟨_, rfl⟩
  obtain ⟨T6, h6, X6, e6, E6, A6, D6, -, st6⟩ := newO X0 hx hZ hown (w_0 hw) (w_1 hw) (w_2 hw) e0 (g := (mkF m 91 #[.val (.int p1), .val (.int p2), .val (.int p3), .val (.int p4), .val (.long p5), .second, .val (.long ((p1 &&& (1048575 : Int32)).toInt64)), .second, .val (.long x2), .second, .val (.long x4), .second, .val (.long (-(x5 + x4))), .second, .val (.int (1 : Int32)), .unset, .unset, .unset, .unset, .unset, .unset, .unset, .unset, .unset, .unset] [])) rfl (hb hby at_91) (by decide) (by decide)
  obtain ⟨b6, g6⟩ : ∃ z, z = h0.size := ⟨_, rfl⟩
  rw [← g6] at A6 D6 st6
  have s0 := E6.1
  have Fn6_termCount : Fld Z h6 b6 "com/example/senret/senret/IndexStatistics" "termCount" "J" (.long (0 : Int64)) := D6 (Or.inr (w_15 hw)) (ty := .long) (by decide)
  have Fn6_sentenceCount : Fld Z h6 b6 "com/example/senret/senret/IndexStatistics" "sentenceCount" "I" (.int (0 : Int32)) := D6 (Or.inr (w_17 hw)) (ty := .int) (by decide)
  have g_b6 : n0 ≤ b6 := Nat.le_trans Z0 (Nat.le_of_eq g6.symm)
  have z1 := Nat.le_trans Z0 s0
  obtain ⟨_, T7, L7, X7, hQ7, st7⟩ := own_special X6 hx hZ hown (y := y_1) (a := b6) (w_3 hw) (w_4 hw) (w_2 hw) (w_5 hw) (rm4 l Z a0 hw [] b6 (-(x5 + x4)) (x2.toInt32) h6 n0 z1 Fn6_termCount A6 g_b6 Fn6_sentenceCount) e6 (Ls := #[.val (.int p1), .val (.int p2), .val (.int p3), .val (.int p4), .val (.long p5), .second, .val (.long ((p1 &&& (1048575 : Int32)).toInt64)), .second, .val (.long x2), .second, .val (.long x4), .second, .val (.long (-(x5 + x4))), .second, .val (.int (1 : Int32)), .unset, .unset, .unset, .unset, .unset, .unset, .unset, .unset, .unset, .unset]) (by rw [hml]; rfl) (argsL := [(.long (-(x5 + x4))), (.int (x2.toInt32))]) (rest := [(.ref b6)]) (lenOf pd_1 rfl) (hb hby at_100) (W := 1)
  obtain ⟨rfl, Nq7, K7, o7_0, o7_1, o7_2⟩ := hQ7
  have N7 := Fr.app N0 Nq7
  have s1 := K7.1
  have cd8 : ¬ (((((p2 &&& (1048575 : Int32)).toInt64) + (1 : Int64)).toInt32) = (0 : Int32)) := (own_NI_ne p2)
  have z2 := Nat.le_trans Z0 (Nat.le_trans s0 s1)
  obtain ⟨_, T9, L9, X9, hQ9, st9⟩ := own_virtual X7 hx hZ hown (y := y_2) (z := y_2) o7_0 (w_18 hw) (w_19 hw) (notFace_of_selects (args := #[]) (mvT hZ (w_21 hw))) (w_21 hw) (w_20 hw) (w_2 hw) (w_22 hw) (rm5 l Z a0 hw [] b6 (x2.toInt32) (-(x5 + x4)) T7.heap n0 z2 o7_1 (by rw [ex2]; exact cd8) o7_2) rfl (Ls := #[.val (.int p1), .val (.int p2), .val (.int p3), .val (.int p4), .val (.long p5), .second, .val (.long ((p1 &&& (1048575 : Int32)).toInt64)), .second, .val (.long x2), .second, .val (.long x4), .second, .val (.long (-(x5 + x4))), .second, .val (.int (1 : Int32)), .unset, .unset, .unset, .unset, .unset, .unset, .unset, .unset, .unset, .unset]) (by rw [hml]; rfl) (argsL := []) (rest := []) (lenOf pd_2 rfl) (hb hby at_103) (W := 0)
  obtain ⟨rfl, Nq9, e9⟩ := hQ9
  have N9 := Fr.app N7 Nq9
  obtain ⟨x10, ex10⟩ : ∃ z, z = (FP.ddiv (FP.l2d (-(x5 + x4))) (FP.i2d (x2.toInt32))) := ⟨_, rfl⟩
  obtain ⟨x11, ex11⟩ : ∃ z, z = (FP.l2d ((p1 &&& (1048575 : Int32)).toInt64)) := ⟨_, rfl⟩
  obtain ⟨x12, ex12⟩ : ∃ z, z = (FP.dadd x11 (4602678819172646912 : UInt64)) := ⟨_, rfl⟩
  obtain ⟨x13, ex13⟩ : ∃ z, z = (cmpValue (FP.dcmp x11 (FP.dneg x10)) .g) := ⟨_, rfl⟩
  have cd14 : (cmpValue (FP.dcmp (FP.l2d ((p1 &&& (1048575 : Int32)).toInt64)) (FP.dneg (FP.ddiv (FP.l2d (-((((p1 &&& (1048575 : Int32)).toInt64) * (((p2 &&& (1048575 : Int32)).toInt64) + (1 : Int64))) + (((p3 &&& (2147483647 : Int32)).toInt64) - (((p3 &&& (2147483647 : Int32)).toInt64) / (((p2 &&& (1048575 : Int32)).toInt64) + (1 : Int64))) * (((p2 &&& (1048575 : Int32)).toInt64) + (1 : Int64)))))) (FP.i2d ((((p2 &&& (1048575 : Int32)).toInt64) + (1 : Int64)).toInt32))))) .g) < (0 : Int32) := (by rw [own_m_22 p1 p2 p3 cc3 cc4 cc5 .g] <;> decide)
  obtain ⟨x15, ex15⟩ : ∃ z, z = (FP.dadd x11 (4607182418800017408 : UInt64)) := ⟨_, rfl⟩
  obtain ⟨x16, ex16⟩ : ∃ z, z = (cmpValue (FP.dcmp (FP.dneg x10) x15) .g) := ⟨_, rfl⟩
  have cd17 : (cmpValue (FP.dcmp (FP.dneg (FP.ddiv (FP.l2d (-((((p1 &&& (1048575 : Int32)).toInt64) * (((p2 &&& (1048575 : Int32)).toInt64) + (1 : Int64))) + (((p3 &&& (2147483647 : Int32)).toInt64) - (((p3 &&& (2147483647 : Int32)).toInt64) / (((p2 &&& (1048575 : Int32)).toInt64) + (1 : Int64))) * (((p2 &&& (1048575 : Int32)).toInt64) + (1 : Int64)))))) (FP.i2d ((((p2 &&& (1048575 : Int32)).toInt64) + (1 : Int64)).toInt32)))) (FP.dadd (FP.l2d ((p1 &&& (1048575 : Int32)).toInt64)) (4607182418800017408 : UInt64))) .g) < (0 : Int32) := (by rw [own_m_23 p1 p2 p3 cc3 cc4 cc5 .g] <;> decide)
  obtain ⟨x18, ex18⟩ : ∃ z, z = (cmpValue (FP.dcmp (FP.dneg x10) x12) .l) := ⟨_, rfl⟩
  have cd19 : (0 : Int32) < (cmpValue (FP.dcmp (FP.dneg (FP.ddiv (FP.l2d (-((((p1 &&& (1048575 : Int32)).toInt64) * (((p2 &&& (1048575 : Int32)).toInt64) + (1 : Int64))) + (((p3 &&& (2147483647 : Int32)).toInt64) - (((p3 &&& (2147483647 : Int32)).toInt64) / (((p2 &&& (1048575 : Int32)).toInt64) + (1 : Int64))) * (((p2 &&& (1048575 : Int32)).toInt64) + (1 : Int64)))))) (FP.i2d ((((p2 &&& (1048575 : Int32)).toInt64) + (1 : Int64)).toInt32)))) (FP.dadd (FP.l2d ((p1 &&& (1048575 : Int32)).toInt64)) (4602678819172646912 : UInt64))) .l) := (by rw [own_m_24 p1 p2 p3 cc3 cc4 cc5 .l] <;> decide)
  refine ⟨T9, _, _, _, (some (.int (1 : Int32))), X9, nofun, by decide, by decide, ?_, fun fs hr => ?_⟩
  · show Q0 n0 _ T9.heap _
    rw [e9]
    subst ex18
    subst ex16
    subst ex15
    subst ex13
    subst ex12
    subst ex11
    subst ex10
    subst ex5
    subst ex4
    subst ex2
    subst ex1
    exact ⟨rfl, N9⟩
  · show Steps p.tables e below (s₁.setTop (mkF m 0 #[.val (.int p1), .val (.int p2), .val (.int p3), .val (.int p4), .val (.long p5), .second, .unset, .unset, .unset, .unset, .unset, .unset, .unset, .unset, .unset, .unset, .unset, .unset, .unset, .unset, .unset, .unset, .unset, .unset, .unset] [])) _
    refine XS.iloadN X0.here hx rfl (hb hby at_0) rfl ?_
    refine XS.iconst X0.here hx rfl (hb hby at_1) ?_
    refine XS.ishr X0.here hx rfl (hb hby at_2) rfl ?_
    refine XS.iconst X0.here hx rfl (hb hby at_3) ?_
    refine XS.iand X0.here hx rfl (hb hby at_4) rfl ?_
    show Steps p.tables e below (s₁.setTop (mkF m 5 #[.val (.int p1), .val (.int p2), .val (.int p3), .val (.int p4), .val (.long p5), .second, .unset, .unset, .unset, .unset, .unset, .unset, .unset, .unset, .unset, .unset, .unset, .unset, .unset, .unset, .unset, .unset, .unset, .unset, .unset] [(.int ((p4 >>> ((1 : Int32) &&& 31)) &&& (3 : Int32)))])) _
    rw [← ex1]
    refine XS.ifYes X0.here hx rfl (pc0 := 5) (pc' := 32) rfl (hb hby at_5) rfl ((if0 _ _).trans (feq ((by rw [ex1]; exact cc1) : ¬ (x1 = (0 : Int32)))).2) (by decide) (by decide) ?_
    refine XS.iloadN X0.here hx rfl (hb hby at_32) rfl ?_
    refine X0.ldcInt hx hown (mvT hZ (w_23 hw)) (g := (mkF m 33 #[.val (.int p1), .val (.int p2), .val (.int p3), .val (.int p4), .val (.long p5), .second, .unset, .unset, .unset, .unset, .unset, .unset, .unset, .unset, .unset, .unset, .unset, .unset, .unset, .unset, .unset, .unset, .unset, .unset, .unset] [(.int p1)])) rfl (hb hby at_33) _ ?_
    refine XS.iand X0.here hx rfl (hb hby at_35) rfl ?_
    refine XS.i2l X0.here hx rfl (hb hby at_36) rfl ?_
    refine XS.lstore X0.here hx rfl (hb hby at_37) rfl (l' := #[.val (.int p1), .val (.int p2), .val (.int p3), .val (.int p4), .val (.long p5), .second, .val (.long ((p1 &&& (1048575 : Int32)).toInt64)), .second, .unset, .unset, .unset, .unset, .unset, .unset, .unset, .unset, .unset, .unset, .unset, .unset, .unset, .unset, .unset, .unset, .unset]) rfl ?_
    refine XS.iloadN X0.here hx rfl (hb hby at_39) rfl ?_
    refine X0.ldcInt hx hown (mvT hZ (w_23 hw)) (g := (mkF m 40 #[.val (.int p1), .val (.int p2), .val (.int p3), .val (.int p4), .val (.long p5), .second, .val (.long ((p1 &&& (1048575 : Int32)).toInt64)), .second, .unset, .unset, .unset, .unset, .unset, .unset, .unset, .unset, .unset, .unset, .unset, .unset, .unset, .unset, .unset, .unset, .unset] [(.int p2)])) rfl (hb hby at_40) _ ?_
    refine XS.iand X0.here hx rfl (hb hby at_42) rfl ?_
    refine XS.i2l X0.here hx rfl (hb hby at_43) rfl ?_
    refine XS.lconst X0.here hx rfl (hb hby at_44) ?_
    show Steps p.tables e below (s₁.setTop (mkF m 45 #[.val (.int p1), .val (.int p2), .val (.int p3), .val (.int p4), .val (.long p5), .second, .val (.long ((p1 &&& (1048575 : Int32)).toInt64)), .second, .unset, .unset, .unset, .unset, .unset, .unset, .unset, .unset, .unset, .unset, .unset, .unset, .unset, .unset, .unset, .unset, .unset] [(.long (1 : Int64)), (.long ((p2 &&& (1048575 : Int32)).toInt64))])) _
    refine XS.ladd X0.here hx rfl (hb hby at_45) rfl ?_
    show Steps p.tables e below (s₁.setTop (mkF m 46 #[.val (.int p1), .val (.int p2), .val (.int p3), .val (.int p4), .val (.long p5), .second, .val (.long ((p1 &&& (1048575 : Int32)).toInt64)), .second, .unset, .unset, .unset, .unset, .unset, .unset, .unset, .unset, .unset, .unset, .unset, .unset, .unset, .unset, .unset, .unset, .unset] [(.long (((p2 &&& (1048575 : Int32)).toInt64) + (1 : Int64)))])) _
    rw [← ex2]
    refine XS.lstore X0.here hx rfl (hb hby at_46) rfl (l' := #[.val (.int p1), .val (.int p2), .val (.int p3), .val (.int p4), .val (.long p5), .second, .val (.long ((p1 &&& (1048575 : Int32)).toInt64)), .second, .val (.long x2), .second, .unset, .unset, .unset, .unset, .unset, .unset, .unset, .unset, .unset, .unset, .unset, .unset, .unset, .unset, .unset]) rfl ?_
    refine XS.iloadN X0.here hx rfl (hb hby at_48) rfl ?_
    refine X0.ldcInt hx hown (mvT hZ (w_24 hw)) (g := (mkF m 49 #[.val (.int p1), .val (.int p2), .val (.int p3), .val (.int p4), .val (.long p5), .second, .val (.long ((p1 &&& (1048575 : Int32)).toInt64)), .second, .val (.long x2), .second, .unset, .unset, .unset, .unset, .unset, .unset, .unset, .unset, .unset, .unset, .unset, .unset, .unset, .unset, .unset] [(.int p3)])) rfl (hb hby at_49) _ ?_
    refine XS.iand X0.here hx rfl (hb hby at_51) rfl ?_
    refine XS.i2l X0.here hx rfl (hb hby at_52) rfl ?_
    refine XS.lload X0.here hx rfl (hb hby at_53) rfl ?_
    refine XS.lrem X0.here hx rfl (hb hby at_55) rfl (by rw [ex2]; exact cd3) ?_
    show Steps p.tables e below (s₁.setTop (mkF m 56 #[.val (.int p1), .val (.int p2), .val (.int p3), .val (.int p4), .val (.long p5), .second, .val (.long ((p1 &&& (1048575 : Int32)).toInt64)), .second, .val (.long x2), .second, .unset, .unset, .unset, .unset, .unset, .unset, .unset, .unset, .unset, .unset, .unset, .unset, .unset, .unset, .unset] [(.long (((p3 &&& (2147483647 : Int32)).toInt64) - (((p3 &&& (2147483647 : Int32)).toInt64) / x2) * x2))])) _
    rw [← ex4]
    refine XS.lstore X0.here hx rfl (hb hby at_56) rfl (l' := #[.val (.int p1), .val (.int p2), .val (.int p3), .val (.int p4), .val (.long p5), .second, .val (.long ((p1 &&& (1048575 : Int32)).toInt64)), .second, .val (.long x2), .second, .val (.long x4), .second, .unset, .unset, .unset, .unset, .unset, .unset, .unset, .unset, .unset, .unset, .unset, .unset, .unset]) rfl ?_
    refine XS.lload X0.here hx rfl (hb hby at_58) rfl ?_
    refine XS.lload X0.here hx rfl (hb hby at_60) rfl ?_
    refine XS.lmul X0.here hx rfl (hb hby at_62) rfl ?_
    show Steps p.tables e below (s₁.setTop (mkF m 63 #[.val (.int p1), .val (.int p2), .val (.int p3), .val (.int p4), .val (.long p5), .second, .val (.long ((p1 &&& (1048575 : Int32)).toInt64)), .second, .val (.long x2), .second, .val (.long x4), .second, .unset, .unset, .unset, .unset, .unset, .unset, .unset, .unset, .unset, .unset, .unset, .unset, .unset] [(.long (((p1 &&& (1048575 : Int32)).toInt64) * x2))])) _
    rw [← ex5]
    refine XS.lload X0.here hx rfl (hb hby at_63) rfl ?_
    refine XS.ladd X0.here hx rfl (hb hby at_65) rfl ?_
    refine XS.lstore X0.here hx rfl (hb hby at_66) rfl (l' := #[.val (.int p1), .val (.int p2), .val (.int p3), .val (.int p4), .val (.long p5), .second, .val (.long ((p1 &&& (1048575 : Int32)).toInt64)), .second, .val (.long x2), .second, .val (.long x4), .second, .val (.long (x5 + x4)), .second, .unset, .unset, .unset, .unset, .unset, .unset, .unset, .unset, .unset, .unset, .unset]) rfl ?_
    refine XS.iloadN X0.here hx rfl (hb hby at_68) rfl ?_
    refine XS.iconst X0.here hx rfl (hb hby at_69) ?_
    refine XS.iand X0.here hx rfl (hb hby at_70) rfl ?_
    refine XS.ifNo X0.here hx rfl (hb hby at_71) rfl ((if0 _ _).trans (feq (cc2 : ¬ ((p4 &&& (1 : Int32)) = (0 : Int32)))).1) ?_
    refine XS.iconst X0.here hx rfl (hb hby at_74) ?_
    refine XS.goto X0.here hx rfl (pc0 := 75) (pc' := 79) rfl (hb hby at_75) (by decide) (by decide) ?_
    refine XS.istore X0.here hx rfl (hb hby at_79) rfl (l' := #[.val (.int p1), .val (.int p2), .val (.int p3), .val (.int p4), .val (.long p5), .second, .val (.long ((p1 &&& (1048575 : Int32)).toInt64)), .second, .val (.long x2), .second, .val (.long x4), .second, .val (.long (x5 + x4)), .second, .val (.int (1 : Int32)), .unset, .unset, .unset, .unset, .unset, .unset, .unset, .unset, .unset, .unset]) rfl ?_
    refine XS.iload X0.here hx rfl (hb hby at_81) rfl ?_
    show Steps p.tables e below (s₁.setTop (mkF m 83 #[.val (.int p1), .val (.int p2), .val (.int p3), .val (.int p4), .val (.long p5), .second, .val (.long ((p1 &&& (1048575 : Int32)).toInt64)), .second, .val (.long x2), .second, .val (.long x4), .second, .val (.long (x5 + x4)), .second, .val (.int (1 : Int32)), .unset, .unset, .unset, .unset, .unset, .unset, .unset, .unset, .unset, .unset] [(.int (1 : Int32))])) _
    refine XS.ifNo X0.here hx rfl (hb hby at_83) rfl ((if0 _ _).trans (feq ((by decide : ¬ ((1 : Int32) = (0 : Int32))) : ¬ ((1 : Int32) = (0 : Int32)))).1) ?_
    refine XS.lload X0.here hx rfl (hb hby at_86) rfl ?_
    refine XS.lneg X0.here hx rfl (hb hby at_88) rfl ?_
    refine XS.lstore X0.here hx rfl (hb hby at_89) rfl (l' := #[.val (.int p1), .val (.int p2), .val (.int p3), .val (.int p4), .val (.long p5), .second, .val (.long ((p1 &&& (1048575 : Int32)).toInt64)), .second, .val (.long x2), .second, .val (.long x4), .second, .val (.long (-(x5 + x4))), .second, .val (.int (1 : Int32)), .unset, .unset, .unset, .unset, .unset, .unset, .unset, .unset, .unset, .unset]) rfl ?_
    refine st6 _ ?_
    refine XS.dup X6.here hx rfl (hb hby at_94) rfl rfl ?_
    refine XS.lload X6.here hx rfl (hb hby at_95) rfl ?_
    refine XS.lload X6.here hx rfl (hb hby at_97) rfl ?_
    refine XS.l2i X6.here hx rfl (hb hby at_99) rfl ?_
    refine st7 _ ?_
    refine st9 _ ?_
    show Steps p.tables e below (T9.setTop (mkF m 106 #[.val (.int p1), .val (.int p2), .val (.int p3), .val (.int p4), .val (.long p5), .second, .val (.long ((p1 &&& (1048575 : Int32)).toInt64)), .second, .val (.long x2), .second, .val (.long x4), .second, .val (.long (-(x5 + x4))), .second, .val (.int (1 : Int32)), .unset, .unset, .unset, .unset, .unset, .unset, .unset, .unset, .unset, .unset] [(.double (FP.ddiv (FP.l2d (-(x5 + x4))) (FP.i2d (x2.toInt32))))])) _
    rw [← ex10]
    refine XS.dstore X9.here hx rfl (hb hby at_106) rfl (l' := #[.val (.int p1), .val (.int p2), .val (.int p3), .val (.int p4), .val (.long p5), .second, .val (.long ((p1 &&& (1048575 : Int32)).toInt64)), .second, .val (.long x2), .second, .val (.long x4), .second, .val (.long (-(x5 + x4))), .second, .val (.int (1 : Int32)), .val (.double x10), .second, .unset, .unset, .unset, .unset, .unset, .unset, .unset, .unset]) rfl ?_
    refine XS.iload X9.here hx rfl (hb hby at_108) rfl ?_
    refine XS.ifNo X9.here hx rfl (hb hby at_110) rfl ((if0 _ _).trans (feq ((by decide : ¬ ((1 : Int32) = (0 : Int32))) : ¬ ((1 : Int32) = (0 : Int32)))).1) ?_
    refine XS.dload X9.here hx rfl (hb hby at_113) rfl ?_
    refine XS.dnegS X9.here hx rfl (hb hby at_115) rfl rfl ?_
    refine XS.goto X9.here hx rfl (pc0 := 116) (pc' := 121) rfl (hb hby at_116) (by decide) (by decide) ?_
    refine XS.dstore X9.here hx rfl (hb hby at_121) rfl (l' := #[.val (.int p1), .val (.int p2), .val (.int p3), .val (.int p4), .val (.long p5), .second, .val (.long ((p1 &&& (1048575 : Int32)).toInt64)), .second, .val (.long x2), .second, .val (.long x4), .second, .val (.long (-(x5 + x4))), .second, .val (.int (1 : Int32)), .val (.double x10), .second, .val (.double (FP.dneg x10)), .second, .unset, .unset, .unset, .unset, .unset, .unset]) rfl ?_
    refine XS.lload X9.here hx rfl (hb hby at_123) rfl ?_
    refine XS.l2dS X9.here hx rfl (hb hby at_125) rfl rfl ?_
    show Steps p.tables e below (T9.setTop (mkF m 126 #[.val (.int p1), .val (.int p2), .val (.int p3), .val (.int p4), .val (.long p5), .second, .val (.long ((p1 &&& (1048575 : Int32)).toInt64)), .second, .val (.long x2), .second, .val (.long x4), .second, .val (.long (-(x5 + x4))), .second, .val (.int (1 : Int32)), .val (.double x10), .second, .val (.double (FP.dneg x10)), .second, .unset, .unset, .unset, .unset, .unset, .unset] [(.double (FP.l2d ((p1 &&& (1048575 : Int32)).toInt64)))])) _
    rw [← ex11]
    refine XS.dstore X9.here hx rfl (hb hby at_126) rfl (l' := #[.val (.int p1), .val (.int p2), .val (.int p3), .val (.int p4), .val (.long p5), .second, .val (.long ((p1 &&& (1048575 : Int32)).toInt64)), .second, .val (.long x2), .second, .val (.long x4), .second, .val (.long (-(x5 + x4))), .second, .val (.int (1 : Int32)), .val (.double x10), .second, .val (.double (FP.dneg x10)), .second, .val (.double x11), .second, .unset, .unset, .unset, .unset]) rfl ?_
    refine XS.dload X9.here hx rfl (hb hby at_128) rfl ?_
    refine X9.ldc2DoubleC hx hown (mvT hZ (w_25 hw)) (g := (mkF m 130 #[.val (.int p1), .val (.int p2), .val (.int p3), .val (.int p4), .val (.long p5), .second, .val (.long ((p1 &&& (1048575 : Int32)).toInt64)), .second, .val (.long x2), .second, .val (.long x4), .second, .val (.long (-(x5 + x4))), .second, .val (.int (1 : Int32)), .val (.double x10), .second, .val (.double (FP.dneg x10)), .second, .val (.double x11), .second, .unset, .unset, .unset, .unset] [(.double x11)])) rfl (hb hby at_130) _ ?_
    refine XS.daddS X9.here hx rfl (hb hby at_133) rfl (by rw [ex11]; exact (own_nnaddh _)) rfl ?_
    show Steps p.tables e below (T9.setTop (mkF m 134 #[.val (.int p1), .val (.int p2), .val (.int p3), .val (.int p4), .val (.long p5), .second, .val (.long ((p1 &&& (1048575 : Int32)).toInt64)), .second, .val (.long x2), .second, .val (.long x4), .second, .val (.long (-(x5 + x4))), .second, .val (.int (1 : Int32)), .val (.double x10), .second, .val (.double (FP.dneg x10)), .second, .val (.double x11), .second, .unset, .unset, .unset, .unset] [(.double (FP.dadd x11 (4602678819172646912 : UInt64)))])) _
    rw [← ex12]
    refine XS.dstore X9.here hx rfl (hb hby at_134) rfl (l' := #[.val (.int p1), .val (.int p2), .val (.int p3), .val (.int p4), .val (.long p5), .second, .val (.long ((p1 &&& (1048575 : Int32)).toInt64)), .second, .val (.long x2), .second, .val (.long x4), .second, .val (.long (-(x5 + x4))), .second, .val (.int (1 : Int32)), .val (.double x10), .second, .val (.double (FP.dneg x10)), .second, .val (.double x11), .second, .val (.double x12), .second, .unset, .unset]) rfl ?_
    refine XS.lload X9.here hx rfl (hb hby at_136) rfl ?_
    refine XS.lconst X9.here hx rfl (hb hby at_138) ?_
    refine XS.lcmp X9.here hx rfl (hb hby at_139) rfl ?_
    refine XS.ifYes X9.here hx rfl (pc0 := 140) (pc' := 157) rfl (hb hby at_140) rfl ((if0 _ _).trans (feq ((by rw [ex4, ex2]; exact (fun q => cc3 ((lw_eq _ _).mp q))) : ¬ ((lcmpW x4 (0 : Int64)) = (0 : Int32)))).2) (by decide) (by decide) ?_
    refine XS.dload X9.here hx rfl (hb hby at_157) rfl ?_
    refine XS.dload X9.here hx rfl (hb hby at_159) rfl ?_
    refine XS.dcmpS X9.here hx rfl (hb hby at_161) rfl rfl ?_
    show Steps p.tables e below (T9.setTop (mkF m 162 #[.val (.int p1), .val (.int p2), .val (.int p3), .val (.int p4), .val (.long p5), .second, .val (.long ((p1 &&& (1048575 : Int32)).toInt64)), .second, .val (.long x2), .second, .val (.long x4), .second, .val (.long (-(x5 + x4))), .second, .val (.int (1 : Int32)), .val (.double x10), .second, .val (.double (FP.dneg x10)), .second, .val (.double x11), .second, .val (.double x12), .second, .unset, .unset] [(.int (cmpValue (FP.dcmp x11 (FP.dneg x10)) .g))])) _
    rw [← ex13]
    refine XS.ifNo X9.here hx rfl (hb hby at_162) rfl ((if0 _ _).trans (tlt ((by rw [ex13, ex11, ex10, ex5, ex4, ex2]; exact cd14) : x13 < (0 : Int32))).2.1) ?_
    refine XS.dload X9.here hx rfl (hb hby at_165) rfl ?_
    refine XS.dload X9.here hx rfl (hb hby at_167) rfl ?_
    refine XS.dconst1 X9.here hx rfl (hb hby at_169) rfl ?_
    refine XS.daddS X9.here hx rfl (hb hby at_170) rfl (by rw [ex11]; exact (own_nnadd1 _)) rfl ?_
    show Steps p.tables e below (T9.setTop (mkF m 171 #[.val (.int p1), .val (.int p2), .val (.int p3), .val (.int p4), .val (.long p5), .second, .val (.long ((p1 &&& (1048575 : Int32)).toInt64)), .second, .val (.long x2), .second, .val (.long x4), .second, .val (.long (-(x5 + x4))), .second, .val (.int (1 : Int32)), .val (.double x10), .second, .val (.double (FP.dneg x10)), .second, .val (.double x11), .second, .val (.double x12), .second, .unset, .unset] [(.double (FP.dadd x11 (4607182418800017408 : UInt64))), (.double (FP.dneg x10))])) _
    rw [← ex15]
    refine XS.dcmpS X9.here hx rfl (hb hby at_171) rfl rfl ?_
    show Steps p.tables e below (T9.setTop (mkF m 172 #[.val (.int p1), .val (.int p2), .val (.int p3), .val (.int p4), .val (.long p5), .second, .val (.long ((p1 &&& (1048575 : Int32)).toInt64)), .second, .val (.long x2), .second, .val (.long x4), .second, .val (.long (-(x5 + x4))), .second, .val (.int (1 : Int32)), .val (.double x10), .second, .val (.double (FP.dneg x10)), .second, .val (.double x11), .second, .val (.double x12), .second, .unset, .unset] [(.int (cmpValue (FP.dcmp (FP.dneg x10) x15) .g))])) _
    rw [← ex16]
    refine XS.ifYes X9.here hx rfl (pc0 := 172) (pc' := 177) rfl (hb hby at_172) rfl ((if0 _ _).trans (tlt ((by rw [ex16, ex15, ex11, ex10, ex5, ex4, ex2]; exact cd17) : x16 < (0 : Int32))).1) (by decide) (by decide) ?_
    refine X9.ldc2Long hx hown (mvT hZ (w_26 hw)) (g := (mkF m 177 #[.val (.int p1), .val (.int p2), .val (.int p3), .val (.int p4), .val (.long p5), .second, .val (.long ((p1 &&& (1048575 : Int32)).toInt64)), .second, .val (.long x2), .second, .val (.long x4), .second, .val (.long (-(x5 + x4))), .second, .val (.int (1 : Int32)), .val (.double x10), .second, .val (.double (FP.dneg x10)), .second, .val (.double x11), .second, .val (.double x12), .second, .unset, .unset] [])) rfl (hb hby at_177) _ ?_
    refine XS.lload X9.here hx rfl (hb hby at_180) rfl ?_
    refine XS.lmul X9.here hx rfl (hb hby at_182) rfl ?_
    refine XS.lstore X9.here hx rfl (hb hby at_183) rfl (l' := #[.val (.int p1), .val (.int p2), .val (.int p3), .val (.int p4), .val (.long p5), .second, .val (.long ((p1 &&& (1048575 : Int32)).toInt64)), .second, .val (.long x2), .second, .val (.long x4), .second, .val (.long (-(x5 + x4))), .second, .val (.int (1 : Int32)), .val (.double x10), .second, .val (.double (FP.dneg x10)), .second, .val (.double x11), .second, .val (.double x12), .second, .val (.long ((2 : Int64) * x4)), .second]) rfl ?_
    refine XS.lload X9.here hx rfl (hb hby at_185) rfl ?_
    refine XS.lload X9.here hx rfl (hb hby at_187) rfl ?_
    refine XS.lcmp X9.here hx rfl (hb hby at_189) rfl ?_
    refine XS.ifYes X9.here hx rfl (pc0 := 190) (pc' := 207) rfl (hb hby at_190) rfl ((if0 _ _).trans (flt ((by rw [ex4, ex2]; exact (fun q => cc4 ((lw_lt _ _).mp q))) : ¬ ((lcmpW ((2 : Int64) * x4) x2) < (0 : Int32)))).2.1) (by decide) (by decide) ?_
    refine XS.lload X9.here hx rfl (hb hby at_207) rfl ?_
    refine XS.lload X9.here hx rfl (hb hby at_209) rfl ?_
    show Steps p.tables e below (T9.setTop (mkF m 211 #[.val (.int p1), .val (.int p2), .val (.int p3), .val (.int p4), .val (.long p5), .second, .val (.long ((p1 &&& (1048575 : Int32)).toInt64)), .second, .val (.long x2), .second, .val (.long x4), .second, .val (.long (-(x5 + x4))), .second, .val (.int (1 : Int32)), .val (.double x10), .second, .val (.double (FP.dneg x10)), .second, .val (.double x11), .second, .val (.double x12), .second, .val (.long ((2 : Int64) * x4)), .second] [(.long x2), (.long ((2 : Int64) * x4))])) _
    refine XS.lcmp X9.here hx rfl (hb hby at_211) rfl ?_
    refine XS.ifNo X9.here hx rfl (hb hby at_212) rfl ((if0 _ _).trans (tlt ((by rw [ex4, ex2]; exact ((lw_gt _ _).mpr cc5)) : (0 : Int32) < (lcmpW ((2 : Int64) * x4) x2))).2.2.2) ?_
    refine XS.dload X9.here hx rfl (hb hby at_215) rfl ?_
    refine XS.dload X9.here hx rfl (hb hby at_217) rfl ?_
    refine XS.dcmpS X9.here hx rfl (hb hby at_219) rfl rfl ?_
    show Steps p.tables e below (T9.setTop (mkF m 220 #[.val (.int p1), .val (.int p2), .val (.int p3), .val (.int p4), .val (.long p5), .second, .val (.long ((p1 &&& (1048575 : Int32)).toInt64)), .second, .val (.long x2), .second, .val (.long x4), .second, .val (.long (-(x5 + x4))), .second, .val (.int (1 : Int32)), .val (.double x10), .second, .val (.double (FP.dneg x10)), .second, .val (.double x11), .second, .val (.double x12), .second, .val (.long ((2 : Int64) * x4)), .second] [(.int (cmpValue (FP.dcmp (FP.dneg x10) x12) .l))])) _
    rw [← ex18]
    refine XS.ifNo X9.here hx rfl (hb hby at_220) rfl ((if0 _ _).trans (tlt ((by rw [ex18, ex12, ex11, ex10, ex5, ex4, ex2]; exact cd19) : (0 : Int32) < x18)).2.2.2) ?_
    refine XS.iconst X9.here hx rfl (hb hby at_223) ?_
    refine XS.goto X9.here hx rfl (pc0 := 224) (pc' := 228) rfl (hb hby at_224) (by decide) (by decide) ?_
    exact retN X9 hx (t := .boolean) hret (by simp) (hb hby at_228) hr
theorem rm0_8 (l : Launch) (Z : State) (a0 : Array Value) (hw : ∀ d ∈ tables_1, d.before a0 Z = true) (ws : List Jvm.Cond) (p1 : Int32) (p2 : Int32) (p3 : Int32) (p4 : Int32) (p5 : Int64) (h0 : Heap) (n0 : Nat) (Z0 : n0 ≤ h0.size) (Od0 : Old Z n0 h0) (cc1 : ¬ (((p4 >>> ((1 : Int32) &&& 31)) &&& (3 : Int32)) = (0 : Int32))) (cc2 : ¬ ((p4 &&& (1 : Int32)) = (0 : Int32))) (cc3 : ¬ ((((p3 &&& (2147483647 : Int32)).toInt64) - (((p3 &&& (2147483647 : Int32)).toInt64) / (((p2 &&& (1048575 : Int32)).toInt64) + (1 : Int64))) * (((p2 &&& (1048575 : Int32)).toInt64) + (1 : Int64))) = (0 : Int64))) (cc4 : ¬ (((2 : Int64) * (((p3 &&& (2147483647 : Int32)).toInt64) - (((p3 &&& (2147483647 : Int32)).toInt64) / (((p2 &&& (1048575 : Int32)).toInt64) + (1 : Int64))) * (((p2 &&& (1048575 : Int32)).toInt64) + (1 : Int64)))) < (((p2 &&& (1048575 : Int32)).toInt64) + (1 : Int64)))) (cc5 : ¬ ((((p2 &&& (1048575 : Int32)).toInt64) + (1 : Int64)) < ((2 : Int64) * (((p3 &&& (2147483647 : Int32)).toInt64) - (((p3 &&& (2147483647 : Int32)).toInt64) / (((p2 &&& (1048575 : Int32)).toInt64) + (1 : Int64))) * (((p2 &&& (1048575 : Int32)).toInt64) + (1 : Int64)))))) :
    OwnMet l Z x code maxLocals ret ws room_1 #[(.int p1), (.int p2), (.int p3), (.int p4), (.long p5)] h0 (Q0 n0) := by
  refine own_body (plainFor_of_name pn_2) (ef0 p1 p2 p3 p4 p5) ?_
  intro p e s m below meth c s₁ hx hby hml hown hnm hret hZ X0 e0
  have N0 := Fr.nil n0
  obtain ⟨x1, ex1⟩ : ∃ z, z = ((p4 >>> ((1 : Int32) &&& 31)) &&& (3 : Int32)) := ⟨_, rfl⟩
  obtain ⟨x2, ex2⟩ : ∃ z, z = (((p2 &&& (1048575 : Int32)).toInt64) + (1 : Int64)) := ⟨_, rfl⟩
  have cd3 : ¬ ((((p2 &&& (1048575 : Int32)).toInt64) + (1 : Int64)) = (0 : Int64)) := (own_N_ne p2)
  obtain ⟨x4, ex4⟩ : ∃ z, z = (((p3 &&& (2147483647 : Int32)).toInt64) - (((p3 &&& (2147483647 : Int32)).toInt64) / x2) * x2) := ⟨_, rfl⟩
  obtain ⟨x5, ex5⟩ : ∃ z, z = (((p1 &&& (1048575 : Int32)).toInt64) * x2) := ⟨_, rfl⟩
  obtain ⟨T6, h6, X6, e6, E6, A6, D6, -, st6⟩ := newO X0 hx hZ hown (w_0 hw) (w_1 hw) (w_2 hw) e0 (g := (mkF m 91 #[.val (.int p1), .val (.int p2), .val (.int p3), .val (.int p4), .val (.long p5), .second, .val (.long ((p1 &&& (1048575 : Int32)).toInt64)), .second, .val (.long x2), .second, .val (.long x4), .second, .val (.long (-(x5 + x4))), .second, .val (.int (1 : Int32)), .unset, .unset, .unset, .unset, .unset, .unset, .unset, .unset, .unset, .unset] [])) rfl (hb hby at_91) (by decide) (by decide)
  obtain ⟨b6, g6⟩ : ∃ z, z = h0.size := ⟨_, rfl⟩
  rw [← g6] at A6 D6 st6
  have s0 := E6.1
  have Fn6_termCount : Fld Z h6 b6 "com/example/senret/senret/IndexStatistics" "termCount" "J" (.long (0 : Int64)) := D6 (Or.inr (w_15 hw)) (ty := .long) (by decide)
  have Fn6_sentenceCount : Fld Z h6 b6 "com/example/senret/senret/IndexStatistics" "sentenceCount" "I" (.int (0 : Int32)) := D6 (Or.inr (w_17 hw)) (ty := .int) (by decide)
  have g_b6 : n0 ≤ b6 := Nat.le_trans Z0 (Nat.le_of_eq g6.symm)
  have z1 := Nat.le_trans Z0 s0
  obtain ⟨_, T7, L7, X7, hQ7, st7⟩ := own_special X6 hx hZ hown (y := y_1) (a := b6) (w_3 hw) (w_4 hw) (w_2 hw) (w_5 hw) (rm4 l Z a0 hw [] b6 (-(x5 + x4)) (x2.toInt32) h6 n0 z1 Fn6_termCount A6 g_b6 Fn6_sentenceCount) e6 (Ls := #[.val (.int p1), .val (.int p2), .val (.int p3), .val (.int p4), .val (.long p5), .second, .val (.long ((p1 &&& (1048575 : Int32)).toInt64)), .second, .val (.long x2), .second, .val (.long x4), .second, .val (.long (-(x5 + x4))), .second, .val (.int (1 : Int32)), .unset, .unset, .unset, .unset, .unset, .unset, .unset, .unset, .unset, .unset]) (by rw [hml]; rfl) (argsL := [(.long (-(x5 + x4))), (.int (x2.toInt32))]) (rest := [(.ref b6)]) (lenOf pd_1 rfl) (hb hby at_100) (W := 1)
  obtain ⟨rfl, Nq7, K7, o7_0, o7_1, o7_2⟩ := hQ7
  have N7 := Fr.app N0 Nq7
  have s1 := K7.1
  have cd8 : ¬ (((((p2 &&& (1048575 : Int32)).toInt64) + (1 : Int64)).toInt32) = (0 : Int32)) := (own_NI_ne p2)
  have z2 := Nat.le_trans Z0 (Nat.le_trans s0 s1)
  obtain ⟨_, T9, L9, X9, hQ9, st9⟩ := own_virtual X7 hx hZ hown (y := y_2) (z := y_2) o7_0 (w_18 hw) (w_19 hw) (notFace_of_selects (args := #[]) (mvT hZ (w_21 hw))) (w_21 hw) (w_20 hw) (w_2 hw) (w_22 hw) (rm5 l Z a0 hw [] b6 (x2.toInt32) (-(x5 + x4)) T7.heap n0 z2 o7_1 (by rw [ex2]; exact cd8) o7_2) rfl (Ls := #[.val (.int p1), .val (.int p2), .val (.int p3), .val (.int p4), .val (.long p5), .second, .val (.long ((p1 &&& (1048575 : Int32)).toInt64)), .second, .val (.long x2), .second, .val (.long x4), .second, .val (.long (-(x5 + x4))), .second, .val (.int (1 : Int32)), .unset, .unset, .unset, .unset, .unset, .unset, .unset, .unset, .unset, .unset]) (by rw [hml]; rfl) (argsL := []) (rest := []) (lenOf pd_2 rfl) (hb hby at_103) (W := 0)
  obtain ⟨rfl, Nq9, e9⟩ := hQ9
  have N9 := Fr.app N7 Nq9
  obtain ⟨x10, ex10⟩ : ∃ z, z = (FP.ddiv (FP.l2d (-(x5 + x4))) (FP.i2d (x2.toInt32))) := ⟨_, rfl⟩
  obtain ⟨x11, ex11⟩ : ∃ z, z = (FP.l2d ((p1 &&& (1048575 : Int32)).toInt64)) := ⟨_, rfl⟩
  obtain ⟨x12, ex12⟩ : ∃ z, z = (FP.dadd x11 (4602678819172646912 : UInt64)) := ⟨_, rfl⟩
  obtain ⟨x13, ex13⟩ : ∃ z, z = (cmpValue (FP.dcmp x11 (FP.dneg x10)) .g) := ⟨_, rfl⟩
  have cd14 : (cmpValue (FP.dcmp (FP.l2d ((p1 &&& (1048575 : Int32)).toInt64)) (FP.dneg (FP.ddiv (FP.l2d (-((((p1 &&& (1048575 : Int32)).toInt64) * (((p2 &&& (1048575 : Int32)).toInt64) + (1 : Int64))) + (((p3 &&& (2147483647 : Int32)).toInt64) - (((p3 &&& (2147483647 : Int32)).toInt64) / (((p2 &&& (1048575 : Int32)).toInt64) + (1 : Int64))) * (((p2 &&& (1048575 : Int32)).toInt64) + (1 : Int64)))))) (FP.i2d ((((p2 &&& (1048575 : Int32)).toInt64) + (1 : Int64)).toInt32))))) .g) < (0 : Int32) := (by rw [own_m_25 p1 p2 p3 cc3 cc4 cc5 .g] <;> decide)
  obtain ⟨x15, ex15⟩ : ∃ z, z = (FP.dadd x11 (4607182418800017408 : UInt64)) := ⟨_, rfl⟩
  obtain ⟨x16, ex16⟩ : ∃ z, z = (cmpValue (FP.dcmp (FP.dneg x10) x15) .g) := ⟨_, rfl⟩
  have cd17 : (cmpValue (FP.dcmp (FP.dneg (FP.ddiv (FP.l2d (-((((p1 &&& (1048575 : Int32)).toInt64) * (((p2 &&& (1048575 : Int32)).toInt64) + (1 : Int64))) + (((p3 &&& (2147483647 : Int32)).toInt64) - (((p3 &&& (2147483647 : Int32)).toInt64) / (((p2 &&& (1048575 : Int32)).toInt64) + (1 : Int64))) * (((p2 &&& (1048575 : Int32)).toInt64) + (1 : Int64)))))) (FP.i2d ((((p2 &&& (1048575 : Int32)).toInt64) + (1 : Int64)).toInt32)))) (FP.dadd (FP.l2d ((p1 &&& (1048575 : Int32)).toInt64)) (4607182418800017408 : UInt64))) .g) < (0 : Int32) := (by rw [own_m_26 p1 p2 p3 cc3 cc4 cc5 .g] <;> decide)
  obtain ⟨x18, ex18⟩ : ∃ z, z = (cmpValue (FP.dcmp (FP.dneg x10) x12) .l) := ⟨_, rfl⟩
  have cd19 : (cmpValue (FP.dcmp (FP.dneg (FP.ddiv (FP.l2d (-((((p1 &&& (1048575 : Int32)).toInt64) * (((p2 &&& (1048575 : Int32)).toInt64) + (1 : Int64))) + (((p3 &&& (2147483647 : Int32)).toInt64) - (((p3 &&& (2147483647 : Int32)).toInt64) / (((p2 &&& (1048575 : Int32)).toInt64) + (1 : Int64))) * (((p2 &&& (1048575 : Int32)).toInt64) + (1 : Int64)))))) (FP.i2d ((((p2 &&& (1048575 : Int32)).toInt64) + (1 : Int64)).toInt32)))) (FP.dadd (FP.l2d ((p1 &&& (1048575 : Int32)).toInt64)) (4602678819172646912 : UInt64))) .l) = (0 : Int32) := (by rw [own_m_27 p1 p2 p3 cc3 cc4 cc5 .l] <;> decide)
  refine ⟨T9, _, _, _, (some (.int (1 : Int32))), X9, nofun, by decide, by decide, ?_, fun fs hr => ?_⟩
  · show Q0 n0 _ T9.heap _
    rw [e9]
    subst ex18
    subst ex16
    subst ex15
    subst ex13
    subst ex12
    subst ex11
    subst ex10
    subst ex5
    subst ex4
    subst ex2
    subst ex1
    exact ⟨rfl, N9⟩
  · show Steps p.tables e below (s₁.setTop (mkF m 0 #[.val (.int p1), .val (.int p2), .val (.int p3), .val (.int p4), .val (.long p5), .second, .unset, .unset, .unset, .unset, .unset, .unset, .unset, .unset, .unset, .unset, .unset, .unset, .unset, .unset, .unset, .unset, .unset, .unset, .unset] [])) _
    refine XS.iloadN X0.here hx rfl (hb hby at_0) rfl ?_
    refine XS.iconst X0.here hx rfl (hb hby at_1) ?_
    refine XS.ishr X0.here hx rfl (hb hby at_2) rfl ?_
    refine XS.iconst X0.here hx rfl (hb hby at_3) ?_
    refine XS.iand X0.here hx rfl (hb hby at_4) rfl ?_
    show Steps p.tables e below (s₁.setTop (mkF m 5 #[.val (.int p1), .val (.int p2), .val (.int p3), .val (.int p4), .val (.long p5), .second, .unset, .unset, .unset, .unset, .unset, .unset, .unset, .unset, .unset, .unset, .unset, .unset, .unset, .unset, .unset, .unset, .unset, .unset, .unset] [(.int ((p4 >>> ((1 : Int32) &&& 31)) &&& (3 : Int32)))])) _
    rw [← ex1]
    refine XS.ifYes X0.here hx rfl (pc0 := 5) (pc' := 32) rfl (hb hby at_5) rfl ((if0 _ _).trans (feq ((by rw [ex1]; exact cc1) : ¬ (x1 = (0 : Int32)))).2) (by decide) (by decide) ?_
    refine XS.iloadN X0.here hx rfl (hb hby at_32) rfl ?_
    refine X0.ldcInt hx hown (mvT hZ (w_23 hw)) (g := (mkF m 33 #[.val (.int p1), .val (.int p2), .val (.int p3), .val (.int p4), .val (.long p5), .second, .unset, .unset, .unset, .unset, .unset, .unset, .unset, .unset, .unset, .unset, .unset, .unset, .unset, .unset, .unset, .unset, .unset, .unset, .unset] [(.int p1)])) rfl (hb hby at_33) _ ?_
    refine XS.iand X0.here hx rfl (hb hby at_35) rfl ?_
    refine XS.i2l X0.here hx rfl (hb hby at_36) rfl ?_
    refine XS.lstore X0.here hx rfl (hb hby at_37) rfl (l' := #[.val (.int p1), .val (.int p2), .val (.int p3), .val (.int p4), .val (.long p5), .second, .val (.long ((p1 &&& (1048575 : Int32)).toInt64)), .second, .unset, .unset, .unset, .unset, .unset, .unset, .unset, .unset, .unset, .unset, .unset, .unset, .unset, .unset, .unset, .unset, .unset]) rfl ?_
    refine XS.iloadN X0.here hx rfl (hb hby at_39) rfl ?_
    refine X0.ldcInt hx hown (mvT hZ (w_23 hw)) (g := (mkF m 40 #[.val (.int p1), .val (.int p2), .val (.int p3), .val (.int p4), .val (.long p5), .second, .val (.long ((p1 &&& (1048575 : Int32)).toInt64)), .second, .unset, .unset, .unset, .unset, .unset, .unset, .unset, .unset, .unset, .unset, .unset, .unset, .unset, .unset, .unset, .unset, .unset] [(.int p2)])) rfl (hb hby at_40) _ ?_
    refine XS.iand X0.here hx rfl (hb hby at_42) rfl ?_
    refine XS.i2l X0.here hx rfl (hb hby at_43) rfl ?_
    refine XS.lconst X0.here hx rfl (hb hby at_44) ?_
    show Steps p.tables e below (s₁.setTop (mkF m 45 #[.val (.int p1), .val (.int p2), .val (.int p3), .val (.int p4), .val (.long p5), .second, .val (.long ((p1 &&& (1048575 : Int32)).toInt64)), .second, .unset, .unset, .unset, .unset, .unset, .unset, .unset, .unset, .unset, .unset, .unset, .unset, .unset, .unset, .unset, .unset, .unset] [(.long (1 : Int64)), (.long ((p2 &&& (1048575 : Int32)).toInt64))])) _
    refine XS.ladd X0.here hx rfl (hb hby at_45) rfl ?_
    show Steps p.tables e below (s₁.setTop (mkF m 46 #[.val (.int p1), .val (.int p2), .val (.int p3), .val (.int p4), .val (.long p5), .second, .val (.long ((p1 &&& (1048575 : Int32)).toInt64)), .second, .unset, .unset, .unset, .unset, .unset, .unset, .unset, .unset, .unset, .unset, .unset, .unset, .unset, .unset, .unset, .unset, .unset] [(.long (((p2 &&& (1048575 : Int32)).toInt64) + (1 : Int64)))])) _
    rw [← ex2]
    refine XS.lstore X0.here hx rfl (hb hby at_46) rfl (l' := #[.val (.int p1), .val (.int p2), .val (.int p3), .val (.int p4), .val (.long p5), .second, .val (.long ((p1 &&& (1048575 : Int32)).toInt64)), .second, .val (.long x2), .second, .unset, .unset, .unset, .unset, .unset, .unset, .unset, .unset, .unset, .unset, .unset, .unset, .unset, .unset, .unset]) rfl ?_
    refine XS.iloadN X0.here hx rfl (hb hby at_48) rfl ?_
    refine X0.ldcInt hx hown (mvT hZ (w_24 hw)) (g := (mkF m 49 #[.val (.int p1), .val (.int p2), .val (.int p3), .val (.int p4), .val (.long p5), .second, .val (.long ((p1 &&& (1048575 : Int32)).toInt64)), .second, .val (.long x2), .second, .unset, .unset, .unset, .unset, .unset, .unset, .unset, .unset, .unset, .unset, .unset, .unset, .unset, .unset, .unset] [(.int p3)])) rfl (hb hby at_49) _ ?_
    refine XS.iand X0.here hx rfl (hb hby at_51) rfl ?_
    refine XS.i2l X0.here hx rfl (hb hby at_52) rfl ?_
    refine XS.lload X0.here hx rfl (hb hby at_53) rfl ?_
    refine XS.lrem X0.here hx rfl (hb hby at_55) rfl (by rw [ex2]; exact cd3) ?_
    show Steps p.tables e below (s₁.setTop (mkF m 56 #[.val (.int p1), .val (.int p2), .val (.int p3), .val (.int p4), .val (.long p5), .second, .val (.long ((p1 &&& (1048575 : Int32)).toInt64)), .second, .val (.long x2), .second, .unset, .unset, .unset, .unset, .unset, .unset, .unset, .unset, .unset, .unset, .unset, .unset, .unset, .unset, .unset] [(.long (((p3 &&& (2147483647 : Int32)).toInt64) - (((p3 &&& (2147483647 : Int32)).toInt64) / x2) * x2))])) _
    rw [← ex4]
    refine XS.lstore X0.here hx rfl (hb hby at_56) rfl (l' := #[.val (.int p1), .val (.int p2), .val (.int p3), .val (.int p4), .val (.long p5), .second, .val (.long ((p1 &&& (1048575 : Int32)).toInt64)), .second, .val (.long x2), .second, .val (.long x4), .second, .unset, .unset, .unset, .unset, .unset, .unset, .unset, .unset, .unset, .unset, .unset, .unset, .unset]) rfl ?_
    refine XS.lload X0.here hx rfl (hb hby at_58) rfl ?_
    refine XS.lload X0.here hx rfl (hb hby at_60) rfl ?_
    refine XS.lmul X0.here hx rfl (hb hby at_62) rfl ?_
    show Steps p.tables e below (s₁.setTop (mkF m 63 #[.val (.int p1), .val (.int p2), .val (.int p3), .val (.int p4), .val (.long p5), .second, .val (.long ((p1 &&& (1048575 : Int32)).toInt64)), .second, .val (.long x2), .second, .val (.long x4), .second, .unset, .unset, .unset, .unset, .unset, .unset, .unset, .unset, .unset, .unset, .unset, .unset, .unset] [(.long (((p1 &&& (1048575 : Int32)).toInt64) * x2))])) _
    rw [← ex5]
    refine XS.lload X0.here hx rfl (hb hby at_63) rfl ?_
    refine XS.ladd X0.here hx rfl (hb hby at_65) rfl ?_
    refine XS.lstore X0.here hx rfl (hb hby at_66) rfl (l' := #[.val (.int p1), .val (.int p2), .val (.int p3), .val (.int p4), .val (.long p5), .second, .val (.long ((p1 &&& (1048575 : Int32)).toInt64)), .second, .val (.long x2), .second, .val (.long x4), .second, .val (.long (x5 + x4)), .second, .unset, .unset, .unset, .unset, .unset, .unset, .unset, .unset, .unset, .unset, .unset]) rfl ?_
    refine XS.iloadN X0.here hx rfl (hb hby at_68) rfl ?_
    refine XS.iconst X0.here hx rfl (hb hby at_69) ?_
    refine XS.iand X0.here hx rfl (hb hby at_70) rfl ?_
    refine XS.ifNo X0.here hx rfl (hb hby at_71) rfl ((if0 _ _).trans (feq (cc2 : ¬ ((p4 &&& (1 : Int32)) = (0 : Int32)))).1) ?_
    refine XS.iconst X0.here hx rfl (hb hby at_74) ?_
    refine XS.goto X0.here hx rfl (pc0 := 75) (pc' := 79) rfl (hb hby at_75) (by decide) (by decide) ?_
    refine XS.istore X0.here hx rfl (hb hby at_79) rfl (l' := #[.val (.int p1), .val (.int p2), .val (.int p3), .val (.int p4), .val (.long p5), .second, .val (.long ((p1 &&& (1048575 : Int32)).toInt64)), .second, .val (.long x2), .second, .val (.long x4), .second, .val (.long (x5 + x4)), .second, .val (.int (1 : Int32)), .unset, .unset, .unset, .unset, .unset, .unset, .unset, .unset, .unset, .unset]) rfl ?_
    refine XS.iload X0.here hx rfl (hb hby at_81) rfl ?_
    show Steps p.tables e below (s₁.setTop (mkF m 83 #[.val (.int p1), .val (.int p2), .val (.int p3), .val (.int p4), .val (.long p5), .second, .val (.long ((p1 &&& (1048575 : Int32)).toInt64)), .second, .val (.long x2), .second, .val (.long x4), .second, .val (.long (x5 + x4)), .second, .val (.int (1 : Int32)), .unset, .unset, .unset, .unset, .unset, .unset, .unset, .unset, .unset, .unset] [(.int (1 : Int32))])) _
    refine XS.ifNo X0.here hx rfl (hb hby at_83) rfl ((if0 _ _).trans (feq ((by decide : ¬ ((1 : Int32) = (0 : Int32))) : ¬ ((1 : Int32) = (0 : Int32)))).1) ?_
    refine XS.lload X0.here hx rfl (hb hby at_86) rfl ?_
    refine XS.lneg X0.here hx rfl (hb hby at_88) rfl ?_
    refine XS.lstore X0.here hx rfl (hb hby at_89) rfl (l' := #[.val (.int p1), .val (.int p2), .val (.int p3), .val (.int p4), .val (.long p5), .second, .val (.long ((p1 &&& (1048575 : Int32)).toInt64)), .second, .val (.long x2), .second, .val (.long x4), .second, .val (.long (-(x5 + x4))), .second, .val (.int (1 : Int32)), .unset, .unset, .unset, .unset, .unset, .unset, .unset, .unset, .unset, .unset]) rfl ?_
    refine st6 _ ?_
    refine XS.dup X6.here hx rfl (hb hby at_94) rfl rfl ?_
    refine XS.lload X6.here hx rfl (hb hby at_95) rfl ?_
    refine XS.lload X6.here hx rfl (hb hby at_97) rfl ?_
    refine XS.l2i X6.here hx rfl (hb hby at_99) rfl ?_
    refine st7 _ ?_
    refine st9 _ ?_
    show Steps p.tables e below (T9.setTop (mkF m 106 #[.val (.int p1), .val (.int p2), .val (.int p3), .val (.int p4), .val (.long p5), .second, .val (.long ((p1 &&& (1048575 : Int32)).toInt64)), .second, .val (.long x2), .second, .val (.long x4), .second, .val (.long (-(x5 + x4))), .second, .val (.int (1 : Int32)), .unset, .unset, .unset, .unset, .unset, .unset, .unset, .unset, .unset, .unset] [(.double (FP.ddiv (FP.l2d (-(x5 + x4))) (FP.i2d (x2.toInt32))))])) _
    rw [← ex10]
    refine XS.dstore X9.here hx rfl (hb hby at_106) rfl (l' := #[.val (.int p1), .val (.int p2), .val (.int p3), .val (.int p4), .val (.long p5), .second, .val (.long ((p1 &&& (1048575 : Int32)).toInt64)), .second, .val (.long x2), .second, .val (.long x4), .second, .val (.long (-(x5 + x4))), .second, .val (.int (1 : Int32)), .val (.double x10), .second, .unset, .unset, .unset, .unset, .unset, .unset, .unset, .unset]) rfl ?_
    refine XS.iload X9.here hx rfl (hb hby at_108) rfl ?_
    refine XS.ifNo X9.here hx rfl (hb hby at_110) rfl ((if0 _ _).trans (feq ((by decide : ¬ ((1 : Int32) = (0 : Int32))) : ¬ ((1 : Int32) = (0 : Int32)))).1) ?_
    refine XS.dload X9.here hx rfl (hb hby at_113) rfl ?_
    refine XS.dnegS X9.here hx rfl (hb hby at_115) rfl rfl ?_
    refine XS.goto X9.here hx rfl (pc0 := 116) (pc' := 121) rfl (hb hby at_116) (by decide) (by decide) ?_
    refine XS.dstore X9.here hx rfl (hb hby at_121) rfl (l' := #[.val (.int p1), .val (.int p2), .val (.int p3), .val (.int p4), .val (.long p5), .second, .val (.long ((p1 &&& (1048575 : Int32)).toInt64)), .second, .val (.long x2), .second, .val (.long x4), .second, .val (.long (-(x5 + x4))), .second, .val (.int (1 : Int32)), .val (.double x10), .second, .val (.double (FP.dneg x10)), .second, .unset, .unset, .unset, .unset, .unset, .unset]) rfl ?_
    refine XS.lload X9.here hx rfl (hb hby at_123) rfl ?_
    refine XS.l2dS X9.here hx rfl (hb hby at_125) rfl rfl ?_
    show Steps p.tables e below (T9.setTop (mkF m 126 #[.val (.int p1), .val (.int p2), .val (.int p3), .val (.int p4), .val (.long p5), .second, .val (.long ((p1 &&& (1048575 : Int32)).toInt64)), .second, .val (.long x2), .second, .val (.long x4), .second, .val (.long (-(x5 + x4))), .second, .val (.int (1 : Int32)), .val (.double x10), .second, .val (.double (FP.dneg x10)), .second, .unset, .unset, .unset, .unset, .unset, .unset] [(.double (FP.l2d ((p1 &&& (1048575 : Int32)).toInt64)))])) _
    rw [← ex11]
    refine XS.dstore X9.here hx rfl (hb hby at_126) rfl (l' := #[.val (.int p1), .val (.int p2), .val (.int p3), .val (.int p4), .val (.long p5), .second, .val (.long ((p1 &&& (1048575 : Int32)).toInt64)), .second, .val (.long x2), .second, .val (.long x4), .second, .val (.long (-(x5 + x4))), .second, .val (.int (1 : Int32)), .val (.double x10), .second, .val (.double (FP.dneg x10)), .second, .val (.double x11), .second, .unset, .unset, .unset, .unset]) rfl ?_
    refine XS.dload X9.here hx rfl (hb hby at_128) rfl ?_
    refine X9.ldc2DoubleC hx hown (mvT hZ (w_25 hw)) (g := (mkF m 130 #[.val (.int p1), .val (.int p2), .val (.int p3), .val (.int p4), .val (.long p5), .second, .val (.long ((p1 &&& (1048575 : Int32)).toInt64)), .second, .val (.long x2), .second, .val (.long x4), .second, .val (.long (-(x5 + x4))), .second, .val (.int (1 : Int32)), .val (.double x10), .second, .val (.double (FP.dneg x10)), .second, .val (.double x11), .second, .unset, .unset, .unset, .unset] [(.double x11)])) rfl (hb hby at_130) _ ?_
    refine XS.daddS X9.here hx rfl (hb hby at_133) rfl (by rw [ex11]; exact (own_nnaddh _)) rfl ?_
    show Steps p.tables e below (T9.setTop (mkF m 134 #[.val (.int p1), .val (.int p2), .val (.int p3), .val (.int p4), .val (.long p5), .second, .val (.long ((p1 &&& (1048575 : Int32)).toInt64)), .second, .val (.long x2), .second, .val (.long x4), .second, .val (.long (-(x5 + x4))), .second, .val (.int (1 : Int32)), .val (.double x10), .second, .val (.double (FP.dneg x10)), .second, .val (.double x11), .second, .unset, .unset, .unset, .unset] [(.double (FP.dadd x11 (4602678819172646912 : UInt64)))])) _
    rw [← ex12]
    refine XS.dstore X9.here hx rfl (hb hby at_134) rfl (l' := #[.val (.int p1), .val (.int p2), .val (.int p3), .val (.int p4), .val (.long p5), .second, .val (.long ((p1 &&& (1048575 : Int32)).toInt64)), .second, .val (.long x2), .second, .val (.long x4), .second, .val (.long (-(x5 + x4))), .second, .val (.int (1 : Int32)), .val (.double x10), .second, .val (.double (FP.dneg x10)), .second, .val (.double x11), .second, .val (.double x12), .second, .unset, .unset]) rfl ?_
    refine XS.lload X9.here hx rfl (hb hby at_136) rfl ?_
    refine XS.lconst X9.here hx rfl (hb hby at_138) ?_
    refine XS.lcmp X9.here hx rfl (hb hby at_139) rfl ?_
    refine XS.ifYes X9.here hx rfl (pc0 := 140) (pc' := 157) rfl (hb hby at_140) rfl ((if0 _ _).trans (feq ((by rw [ex4, ex2]; exact (fun q => cc3 ((lw_eq _ _).mp q))) : ¬ ((lcmpW x4 (0 : Int64)) = (0 : Int32)))).2) (by decide) (by decide) ?_
    refine XS.dload X9.here hx rfl (hb hby at_157) rfl ?_
    refine XS.dload X9.here hx rfl (hb hby at_159) rfl ?_
    refine XS.dcmpS X9.here hx rfl (hb hby at_161) rfl rfl ?_
    show Steps p.tables e below (T9.setTop (mkF m 162 #[.val (.int p1), .val (.int p2), .val (.int p3), .val (.int p4), .val (.long p5), .second, .val (.long ((p1 &&& (1048575 : Int32)).toInt64)), .second, .val (.long x2), .second, .val (.long x4), .second, .val (.long (-(x5 + x4))), .second, .val (.int (1 : Int32)), .val (.double x10), .second, .val (.double (FP.dneg x10)), .second, .val (.double x11), .second, .val (.double x12), .second, .unset, .unset] [(.int (cmpValue (FP.dcmp x11 (FP.dneg x10)) .g))])) _
    rw [← ex13]
    refine XS.ifNo X9.here hx rfl (hb hby at_162) rfl ((if0 _ _).trans (tlt ((by rw [ex13, ex11, ex10, ex5, ex4, ex2]; exact cd14) : x13 < (0 : Int32))).2.1) ?_
    refine XS.dload X9.here hx rfl (hb hby at_165) rfl ?_
    refine XS.dload X9.here hx rfl (hb hby at_167) rfl ?_
    refine XS.dconst1 X9.here hx rfl (hb hby at_169) rfl ?_
    refine XS.daddS X9.here hx rfl (hb hby at_170) rfl (by rw [ex11]; exact (own_nnadd1 _)) rfl ?_
    show Steps p.tables e below (T9.setTop (mkF m 171 #[.val (.int p1), .val (.int p2), .val (.int p3), .val (.int p4), .val (.long p5), .second, .val (.long ((p1 &&& (1048575 : Int32)).toInt64)), .second, .val (.long x2), .second, .val (.long x4), .second, .val (.long (-(x5 + x4))), .second, .val (.int (1 : Int32)), .val (.double x10), .second, .val (.double (FP.dneg x10)), .second, .val (.double x11), .second, .val (.double x12), .second, .unset, .unset] [(.double (FP.dadd x11 (4607182418800017408 : UInt64))), (.double (FP.dneg x10))])) _
    rw [← ex15]
    refine XS.dcmpS X9.here hx rfl (hb hby at_171) rfl rfl ?_
    show Steps p.tables e below (T9.setTop (mkF m 172 #[.val (.int p1), .val (.int p2), .val (.int p3), .val (.int p4), .val (.long p5), .second, .val (.long ((p1 &&& (1048575 : Int32)).toInt64)), .second, .val (.long x2), .second, .val (.long x4), .second, .val (.long (-(x5 + x4))), .second, .val (.int (1 : Int32)), .val (.double x10), .second, .val (.double (FP.dneg x10)), .second, .val (.double x11), .second, .val (.double x12), .second, .unset, .unset] [(.int (cmpValue (FP.dcmp (FP.dneg x10) x15) .g))])) _
    rw [← ex16]
    refine XS.ifYes X9.here hx rfl (pc0 := 172) (pc' := 177) rfl (hb hby at_172) rfl ((if0 _ _).trans (tlt ((by rw [ex16, ex15, ex11, ex10, ex5, ex4, ex2]; exact cd17) : x16 < (0 : Int32))).1) (by decide) (by decide) ?_
    refine X9.ldc2Long hx hown (mvT hZ (w_26 hw)) (g := (mkF m 177 #[.val (.int p1), .val (.int p2), .val (.int p3), .val (.int p4), .val (.long p5), .second, .val (.long ((p1 &&& (1048575 : Int32)).toInt64)), .second, .val (.long x2), .second, .val (.long x4), .second, .val (.long (-(x5 + x4))), .second, .val (.int (1 : Int32)), .val (.double x10), .second, .val (.double (FP.dneg x10)), .second, .val (.double x11), .second, .val (.double x12), .second, .unset, .unset] [])) rfl (hb hby at_177) _ ?_
    refine XS.lload X9.here hx rfl (hb hby at_180) rfl ?_
    refine XS.lmul X9.here hx rfl (hb hby at_182) rfl ?_
    refine XS.lstore X9.here hx rfl (hb hby at_183) rfl (l' := #[.val (.int p1), .val (.int p2), .val (.int p3), .val (.int p4), .val (.long p5), .second, .val (.long ((p1 &&& (1048575 : Int32)).toInt64)), .second, .val (.long x2), .second, .val (.long x4), .second, .val (.long (-(x5 + x4))), .second, .val (.int (1 : Int32)), .val (.double x10), .second, .val (.double (FP.dneg x10)), .second, .val (.double x11), .second, .val (.double x12), .second, .val (.long ((2 : Int64) * x4)), .second]) rfl ?_
    refine XS.lload X9.here hx rfl (hb hby at_185) rfl ?_
    refine XS.lload X9.here hx rfl (hb hby at_187) rfl ?_
    refine XS.lcmp X9.here hx rfl (hb hby at_189) rfl ?_
    refine XS.ifYes X9.here hx rfl (pc0 := 190) (pc' := 207) rfl (hb hby at_190) rfl ((if0 _ _).trans (flt ((by rw [ex4, ex2]; exact (fun q => cc4 ((lw_lt _ _).mp q))) : ¬ ((lcmpW ((2 : Int64) * x4) x2) < (0 : Int32)))).2.1) (by decide) (by decide) ?_
    refine XS.lload X9.here hx rfl (hb hby at_207) rfl ?_
    refine XS.lload X9.here hx rfl (hb hby at_209) rfl ?_
    show Steps p.tables e below (T9.setTop (mkF m 211 #[.val (.int p1), .val (.int p2), .val (.int p3), .val (.int p4), .val (.long p5), .second, .val (.long ((p1 &&& (1048575 : Int32)).toInt64)), .second, .val (.long x2), .second, .val (.long x4), .second, .val (.long (-(x5 + x4))), .second, .val (.int (1 : Int32)), .val (.double x10), .second, .val (.double (FP.dneg x10)), .second, .val (.double x11), .second, .val (.double x12), .second, .val (.long ((2 : Int64) * x4)), .second] [(.long x2), (.long ((2 : Int64) * x4))])) _
    refine XS.lcmp X9.here hx rfl (hb hby at_211) rfl ?_
    refine XS.ifYes X9.here hx rfl (pc0 := 212) (pc' := 229) rfl (hb hby at_212) rfl ((if0 _ _).trans (flt ((by rw [ex4, ex2]; exact (fun q => cc5 ((lw_gt _ _).mp q))) : ¬ ((0 : Int32) < (lcmpW ((2 : Int64) * x4) x2)))).2.2.2) (by decide) (by decide) ?_
    refine XS.dload X9.here hx rfl (hb hby at_229) rfl ?_
    refine XS.dload X9.here hx rfl (hb hby at_231) rfl ?_
    refine XS.dcmpS X9.here hx rfl (hb hby at_233) rfl rfl ?_
    show Steps p.tables e below (T9.setTop (mkF m 234 #[.val (.int p1), .val (.int p2), .val (.int p3), .val (.int p4), .val (.long p5), .second, .val (.long ((p1 &&& (1048575 : Int32)).toInt64)), .second, .val (.long x2), .second, .val (.long x4), .second, .val (.long (-(x5 + x4))), .second, .val (.int (1 : Int32)), .val (.double x10), .second, .val (.double (FP.dneg x10)), .second, .val (.double x11), .second, .val (.double x12), .second, .val (.long ((2 : Int64) * x4)), .second] [(.int (cmpValue (FP.dcmp (FP.dneg x10) x12) .l))])) _
    rw [← ex18]
    refine XS.ifNo X9.here hx rfl (hb hby at_234) rfl ((if0 _ _).trans (teq ((by rw [ex18, ex12, ex11, ex10, ex5, ex4, ex2]; exact cd19) : x18 = (0 : Int32))).2) ?_
    refine XS.iconst X9.here hx rfl (hb hby at_237) ?_
    refine XS.goto X9.here hx rfl (pc0 := 238) (pc' := 242) rfl (hb hby at_238) (by decide) (by decide) ?_
    exact retN X9 hx (t := .boolean) hret (by simp) (hb hby at_242) hr
theorem rm0 (l : Launch) (Z : State) (a0 : Array Value) (hw : ∀ d ∈ tables_1, d.before a0 Z = true) (ws : List Jvm.Cond) (p1 : Int32) (p2 : Int32) (p3 : Int32) (p4 : Int32) (p5 : Int64) (h0 : Heap) (n0 : Nat) (Z0 : n0 ≤ h0.size) (Od0 : Old Z n0 h0) :
    OwnMet l Z x code maxLocals ret ws room_1 #[(.int p1), (.int p2), (.int p3), (.int p4), (.long p5)] h0 (Q0 n0) := by
  by_cases cc1 : ((p4 >>> ((1 : Int32) &&& 31)) &&& (3 : Int32)) = (0 : Int32)
  · exact rm0_0 l Z a0 hw ws p1 p2 p3 p4 p5 h0 n0 Z0 Od0 cc1
  · by_cases cc2 : (p4 &&& (1 : Int32)) = (0 : Int32)
    · by_cases cc3 : (((p3 &&& (2147483647 : Int32)).toInt64) - (((p3 &&& (2147483647 : Int32)).toInt64) / (((p2 &&& (1048575 : Int32)).toInt64) + (1 : Int64))) * (((p2 &&& (1048575 : Int32)).toInt64) + (1 : Int64))) = (0 : Int64)
      · exact rm0_1 l Z a0 hw ws p1 p2 p3 p4 p5 h0 n0 Z0 Od0 cc1 cc2 cc3
      · by_cases cc4 : ((2 : Int64) * (((p3 &&& (2147483647 : Int32)).toInt64) - (((p3 &&& (2147483647 : Int32)).toInt64) / (((p2 &&& (1048575 : Int32)).toInt64) + (1 : Int64))) * (((p2 &&& (1048575 : Int32)).toInt64) + (1 : Int64)))) < (((p2 &&& (1048575 : Int32)).toInt64) + (1 : Int64))
        · exact rm0_2 l Z a0 hw ws p1 p2 p3 p4 p5 h0 n0 Z0 Od0 cc1 cc2 cc3 cc4
        · by_cases cc5 : (((p2 &&& (1048575 : Int32)).toInt64) + (1 : Int64)) < ((2 : Int64) * (((p3 &&& (2147483647 : Int32)).toInt64) - (((p3 &&& (2147483647 : Int32)).toInt64) / (((p2 &&& (1048575 : Int32)).toInt64) + (1 : Int64))) * (((p2 &&& (1048575 : Int32)).toInt64) + (1 : Int64))))
          · exact rm0_3 l Z a0 hw ws p1 p2 p3 p4 p5 h0 n0 Z0 Od0 cc1 cc2 cc3 cc4 cc5
          · exact rm0_4 l Z a0 hw ws p1 p2 p3 p4 p5 h0 n0 Z0 Od0 cc1 cc2 cc3 cc4 cc5
    · by_cases cc3 : (((p3 &&& (2147483647 : Int32)).toInt64) - (((p3 &&& (2147483647 : Int32)).toInt64) / (((p2 &&& (1048575 : Int32)).toInt64) + (1 : Int64))) * (((p2 &&& (1048575 : Int32)).toInt64) + (1 : Int64))) = (0 : Int64)
      · exact rm0_5 l Z a0 hw ws p1 p2 p3 p4 p5 h0 n0 Z0 Od0 cc1 cc2 cc3
      · by_cases cc4 : ((2 : Int64) * (((p3 &&& (2147483647 : Int32)).toInt64) - (((p3 &&& (2147483647 : Int32)).toInt64) / (((p2 &&& (1048575 : Int32)).toInt64) + (1 : Int64))) * (((p2 &&& (1048575 : Int32)).toInt64) + (1 : Int64)))) < (((p2 &&& (1048575 : Int32)).toInt64) + (1 : Int64))
        · exact rm0_6 l Z a0 hw ws p1 p2 p3 p4 p5 h0 n0 Z0 Od0 cc1 cc2 cc3 cc4
        · by_cases cc5 : (((p2 &&& (1048575 : Int32)).toInt64) + (1 : Int64)) < ((2 : Int64) * (((p3 &&& (2147483647 : Int32)).toInt64) - (((p3 &&& (2147483647 : Int32)).toInt64) / (((p2 &&& (1048575 : Int32)).toInt64) + (1 : Int64))) * (((p2 &&& (1048575 : Int32)).toInt64) + (1 : Int64))))
          · exact rm0_7 l Z a0 hw ws p1 p2 p3 p4 p5 h0 n0 Z0 Od0 cc1 cc2 cc3 cc4 cc5
          · exact rm0_8 l Z a0 hw ws p1 p2 p3 p4 p5 h0 n0 Z0 Od0 cc1 cc2 cc3 cc4 cc5
theorem comes_1 {Post : Tables → Env → Array Value → State → Outcome → State → Prop} (hpost : ∀ tb e args s v u, (limb_1_1.after args s (.returned v) u = true ∧ limb_1_2.after args s (.returned v) u = true ∧ True) → FrameEnd s (.returned v) u (Jvm.fieldLocs frame_1_writes args s ++ Jvm.arrayLocs frame_1_arrays args s ++ Jvm.staticLocs frame_1_statics s) 16 128 → Post tb e args s (.returned v) u) :
    ArmFor flags0 classFile x code maxLocals ret World_1 tables_1 room_1 Calls_1 rest_1 Pre_1 Post := by
  intro l hfl _ _ p e ha hc hk s m args below hf hA hF happ hP
  obtain ⟨hcalls, hrest, hpre⟩ := hP
  obtain ⟨-, -, -, hnamed, -, -, -, hat⟩ := (Spec.applies_iff hf).mp happ
  obtain ⟨hg, hn⟩ := and_e (Cond.before_iff.mp (show (Jvm.Cond.and given_1 narrow_1).before args s = true from hpre))
  obtain ⟨hg0, hr0⟩ := and_e hg
  obtain ⟨hg1, hr1⟩ := and_e hr0
  obtain ⟨hg2, hr2⟩ := and_e hr1
  obtain ⟨hg3, hr3⟩ := and_e hr2
  obtain ⟨hg4, hr4⟩ := and_e hr3
  obtain ⟨w0, w1, w2, w3, w4, rfl⟩ : ∃ w0 w1 w2 w3 w4 : Value, args = #[w0, w1, w2, w3, w4] := by
    have hs : args.size = 5 := by simpa [Cond.value, given_1] using hg0
    obtain ⟨L⟩ := args
    match L, hs with
    | [w0, w1, w2, w3, w4], _ => exact ⟨w0, w1, w2, w3, w4, rfl⟩
  have hw := fun d (hd : d ∈ tables_1) => atoms_spec (ws := Jvm.Cond.code x code maxLocals ret :: tables_1) hat d (List.mem_cons_of_mem _ hd)
  have hfit : Fit s := fun {y c} hc i hi => by
    obtain ⟨ha, rfl⟩ := Array.getElem?_eq_some_iff.mp hc
    have q := List.all_eq_true.mp ((Array.all_eq_true_iff_forall_mem.mp hF) _ (Array.getElem_mem ha)) i (List.mem_range.mpr hi)
    simpa [Array.getElem?_eq_getElem hi] using q
  obtain ⟨p1, ei0⟩ := is_v hg1
  obtain rfl : w0 = (.int p1) := Option.some.inj ei0
  obtain ⟨p2, ei1⟩ := is_v hg2
  obtain rfl : w1 = (.int p2) := Option.some.inj ei1
  obtain ⟨p3, ei2⟩ := is_v hg3
  obtain rfl : w2 = (.int p3) := Option.some.inj ei2
  obtain ⟨p4, ei3⟩ := is_v hg4
  obtain rfl : w3 = (.int p4) := Option.some.inj ei3
  obtain ⟨p5, ei4⟩ := isL_v hr4
  obtain rfl : w4 = (.long p5) := Option.some.inj ei4
  obtain ⟨n, o, h1, h2, h3, _, L, rfl, ⟨rfl, N⟩, hq⟩ := rm0 l s _ hw tables_1 p1 p2 p3 p4 p5 s.heap s.heap.size (Nat.le_refl _) (Old.start s) p e ha hc hk s m _ below hf ((Spec.applies_iff_loose hf).mp happ).1 ⟨rfl, State.Warmed39.refl s, rfl⟩ trivial
  refine ⟨n, _, h1, h2, h3, hpost _ _ _ _ _ _ ⟨Cond.after_iff.mpr rfl, Cond.after_iff.mpr (eq_i res_at (Term.int_eval (1)) rfl), trivial⟩ ⟨hq.1, hq.2.1, (hq.2.2.sift fun y hy => Or.inr (N y hy)).mono (by decide) (by decide)⟩⟩
theorem main_1_1 : Claimed_1_1 := comes_1 fun _ _ _ _ _ _ h hF => ⟨h.1, hF⟩
theorem main_1_2 : Claimed_1_2 := comes_1 fun _ _ _ _ _ _ h hF => ⟨h.2.1, hF⟩
end Jvm.Pilot.@@N@@
namespace Jvm.Pilot.@@N@@
open Jvm Jvm.ClassFile Sem Op Lib Jvm.Free Jvm.Stand Jvm.Pilot.@@N@@.Jvm.D
/-! MADE BY PROGRAM (witnessworld.py) out of the Statement's table words and the real class files: 10 classes; the members and pool entries that the words name. The judged class is class 1, her method 1. -/
namespace start1
open Jvm.ClassFile
def u (s : String) : CpInfo := .utf8 (stringToUtf16 s)
/-- a pool by its gaps: so many unusable entries, then the entry; so many at the end -/
def gap : Nat → List CpInfo → List CpInfo
  | 0, r => r
  | n + 1, r => .unusable :: gap n r
def poolList (es : List (Nat × CpInfo)) (last : Nat) : List CpInfo := es.foldr (fun e r => gap e.1 (e.2 :: r)) (gap last [])
def pool (es : List (Nat × CpInfo)) (last : Nat) : Array CpInfo := ⟨poolList es last⟩
def fileOf (pool : Array CpInfo) (this : Nat) (attrs : Array Attribute := #[]) (ms : Array MethodInfo := #[]) (fl : Nat := 33) (sup : Nat := 0) (ifs : Array Nat := #[]) (fds : Array FieldInfo := #[]) : ClassFile where
  minorVersion := 0
  majorVersion := 65
  constantPool := pool
  accessFlags := fl
  thisClass := this
  superClass := sup
  interfaces := ifs
  fields := fds
  methods := ms
  attributes := attrs
def plain (name : String) (sup : Option ClassId) : Class where
  name := name
  kind := .ordinary
  loader := none
  accessFlags := 33
  super := sup
  interfaces := #[]
  cf := none
  fields := #[]
  methods := #[]
  instanceTypes := #[]
  staticTypes := #[]
  resolved := #[]
  callSites := []
  init := .initialized
  statics := none
  mirror := none

def pool0 : Array CpInfo := pool [(5, u "<init>"), (0, u "()V"), (1, .class_ 10), (1, u "java/lang/Object")] 113

def k0c0 : Code := { maxStack := 0, maxLocals := 1, code := object_method_1_code, exceptionTable := #[], attributes := #[] }
def k0m0 : Method := { name := "<init>", desc := "()V", sig := { parameters := [], returnType := none }, accessFlags := 1, code := some k0c0 }
/-- java/lang/Object -/
def k0 : Class := { plain "java/lang/Object" none with
  accessFlags := 33
  interfaces := #[]
  cf := some (fileOf pool0 8 #[] #[{ accessFlags := 1, nameIndex := 5, descriptorIndex := 6, attributes := #[] }] 33 0 #[] #[])
  fields := #[]
  methods := #[k0m0]
  instanceTypes := #[]
  staticTypes := #[]
  resolved := Array.replicate 124 none
  statics := none }

def pool1 : Array CpInfo := pool [(2, .class_ 4), (1, u "java/lang/Object"), (0, u "<init>"), (0, u "()V"), (0, .class_ 8), (0, u "com/example/senret/senret/IndexStatistics"), (0, .methodref 7 10), (0, .nameAndType 5 11), (0, u "(JI)V"), (0, .methodref 7 13), (0, .nameAndType 14 15), (0, u "meanLength"), (0, u "()D"), (0, .integer 1048575), (0, .integer 2147483647), (0, .double 4602678819172646912), (1, .long 2), (1, .class_ 23), (0, u "com/example/senret/senret/IndexStatisticsMeanLengthPinLaw"), (2, u "law"), (0, u "(IIIIJ)Z")] 3

def k1m0 : Method := { name := "<init>", desc := "()V", sig := { parameters := [], returnType := none }, accessFlags := 1, code := none }
def k1c1 : Code := { maxStack := 6, maxLocals := 25, code := code, exceptionTable := #[], attributes := #[] }
def k1m1 : Method := { name := "law", desc := "(IIIIJ)Z", sig := { parameters := [.int, .int, .int, .int, .long], returnType := some .boolean }, accessFlags := 9, code := some k1c1 }
/-- com/example/senret/senret/IndexStatisticsMeanLengthPinLaw -/
def k1 : Class := { plain "com/example/senret/senret/IndexStatisticsMeanLengthPinLaw" (some 0) with
  accessFlags := 49
  interfaces := #[]
  cf := some (fileOf pool1 22 #[] #[{ accessFlags := 1, nameIndex := 5, descriptorIndex := 6, attributes := #[] }, { accessFlags := 9, nameIndex := 26, descriptorIndex := 27, attributes := #[] }] 49 2 #[] #[])
  fields := #[]
  methods := #[k1m0, k1m1]
  instanceTypes := #[]
  staticTypes := #[]
  resolved := Array.replicate 31 none
  statics := none }

def pool2 : Array CpInfo := pool [(1, .methodref 2 3), (0, .class_ 4), (0, .nameAndType 5 6), (0, u "java/lang/Object"), (0, u "<init>"), (0, u "()V"), (0, .class_ 8), (0, u "java/lang/Record")] 13

def k2c0 : Code := { maxStack := 1, maxLocals := 1, code := jdk_30_method_1_code, exceptionTable := #[], attributes := #[] }
def k2m0 : Method := { name := "<init>", desc := "()V", sig := { parameters := [], returnType := none }, accessFlags := 4, code := some k2c0 }
/-- java/lang/Record -/
def k2 : Class := { plain "java/lang/Record" (some 0) with
  accessFlags := 1057
  interfaces := #[]
  cf := some (fileOf pool2 7 #[] #[{ accessFlags := 4, nameIndex := 5, descriptorIndex := 6, attributes := #[] }] 1057 2 #[] #[])
  fields := #[]
  methods := #[k2m0]
  instanceTypes := #[]
  staticTypes := #[]
  resolved := Array.replicate 22 none
  statics := none }

def pool3 : Array CpInfo := pool [(1, .methodref 2 3), (0, .class_ 4), (0, .nameAndType 5 6), (0, u "java/lang/Record"), (0, u "<init>"), (0, u "()V"), (0, .fieldref 8 9), (0, .class_ 10), (0, .nameAndType 11 12), (0, u "com/example/senret/senret/IndexStatistics"), (0, u "termCount"), (0, u "J"), (0, .fieldref 8 14), (0, .nameAndType 15 16), (0, u "sentenceCount"), (0, u "I"), (12, u "(JI)V"), (3, u "meanLength"), (0, u "()D")] 26

def k3c0 : Code := { maxStack := 3, maxLocals := 4, code := prog_5_method_1_code, exceptionTable := #[], attributes := #[] }
def k3m0 : Method := { name := "<init>", desc := "(JI)V", sig := { parameters := [.long, .int], returnType := none }, accessFlags := 0, code := some k3c0 }
def k3c1 : Code := { maxStack := 4, maxLocals := 1, code := prog_5_method_2_code, exceptionTable := #[], attributes := #[] }
def k3m1 : Method := { name := "meanLength", desc := "()D", sig := { parameters := [], returnType := some .double }, accessFlags := 0, code := some k3c1 }
/-- com/example/senret/senret/IndexStatistics -/
def k3 : Class := { plain "com/example/senret/senret/IndexStatistics" (some 2) with
  accessFlags := 48
  interfaces := #[]
  cf := some (fileOf pool3 8 #[] #[{ accessFlags := 0, nameIndex := 5, descriptorIndex := 29, attributes := #[] }, { accessFlags := 0, nameIndex := 33, descriptorIndex := 34, attributes := #[] }] 48 2 #[] #[{ accessFlags := 18, nameIndex := 11, descriptorIndex := 12, attributes := #[] }, { accessFlags := 18, nameIndex := 15, descriptorIndex := 16, attributes := #[] }])
  fields := #[{ name := "termCount", type := .long, accessFlags := 18, slot := 0, constantValue := 0 }, { name := "sentenceCount", type := .int, accessFlags := 18, slot := 1, constantValue := 0 }]
  methods := #[k3m0, k3m1]
  instanceTypes := #[.long, .int]
  staticTypes := #[]
  resolved := Array.replicate 61 none
  statics := none }

def pool4 : Array CpInfo := pool [(1, u "java/lang/Cloneable"), (0, .class_ 1), (0, u "java/lang/Object"), (0, .class_ 3)] 3

/-- java/lang/Cloneable -/
def k4 : Class := { plain "java/lang/Cloneable" (some 0) with
  accessFlags := 1537
  interfaces := #[]
  cf := some (fileOf pool4 2 #[] #[] 1537 4 #[] #[])
  fields := #[]
  methods := #[]
  instanceTypes := #[]
  staticTypes := #[]
  resolved := Array.replicate 8 none
  statics := none }

def pool5 : Array CpInfo := pool [(1, u "java/io/Serializable"), (0, .class_ 1), (0, u "java/lang/Object"), (0, .class_ 3)] 3

/-- java/io/Serializable -/
def k5 : Class := { plain "java/io/Serializable" (some 0) with
  accessFlags := 1537
  interfaces := #[]
  cf := some (fileOf pool5 2 #[] #[] 1537 4 #[] #[])
  fields := #[]
  methods := #[]
  instanceTypes := #[]
  staticTypes := #[]
  resolved := Array.replicate 8 none
  statics := none }

/-- the primitive byte -/
def k6 : Class := { plain "byte" none with kind := .primitive 'B', accessFlags := 0x411 }
/-- [B -/
def k7 : Class := { plain "[B" (some 0) with kind := .array 6 .byte, interfaces := #[4, 5], accessFlags := 1041 }

/-- the primitive int -/
def k8 : Class := { plain "int" none with kind := .primitive 'I', accessFlags := 0x411 }
/-- [I -/
def k9 : Class := { plain "[I" (some 0) with kind := .array 8 .int, interfaces := #[4, 5], accessFlags := 1041 }

def heap : Heap := #[]
def classes : Array Class := #[k0, k1, k2, k3, k4, k5, k6, k7, k8, k9]
def interned : List (Array UInt16 × Addr) := []
def slotsUsed : Nat := 0
def theMethod : MethodId := ⟨1, 1⟩
def args0 : Array Value := #[.int 5, .int 6, .int 7, .int 8, .long 9]
def aboutOver (below : List Frame) : State where
  vm := { classes := classes, interned := interned.toArray }
  heap := heap
  slotsUsed := slotsUsed
  threads := #[{ frames := .invoking theMethod args0 :: below }]
def below0 : List Frame := [.native { method := ⟨0, 0⟩, args := #[] }]
def about1 : State := aboutOver below0
def p0 : Program := .bare "" "" ""
def e0 : Env := launch0.env 0 0 0
theorem w_frames : about1.frames = Frame.invoking theMethod args0 :: below0 := rfl
set_option maxRecDepth 65536 in
theorem w_args : argsFit about1.vm theMethod args0 = true := by decide +kernel
set_option maxRecDepth 65536 in
theorem w_heap : heapFits about1 = true := by decide +kernel
set_option maxRecDepth 65536 in
theorem w_runnable : about1.curStatus? = some .runnable := by decide +kernel
set_option maxRecDepth 65536 in
theorem w_alone : about1.alone = true := by decide +kernel
set_option maxRecDepth 65536 in
theorem w_named : about1.methodNamed? x = some theMethod := by decide +kernel
set_option maxRecDepth 65536 in
theorem w_hears : about1.hears theMethod below0 = true := by decide +kernel
set_option maxRecDepth 65536 in
theorem w_ripe : about1.ripe theMethod args0 below0 = true := by decide +kernel
theorem w_running : about1.status = .running := rfl
set_option maxRecDepth 65536 in
theorem w_room : about1.hasRoom e0.platform room_1 = true :=
  launch0.hasRoom_least _ room_1 (by decide +kernel) (by decide +kernel) (by decide +kernel) (by decide +kernel) (by decide +kernel) (by decide +kernel)
theorem allAtoms_all (ts : List Jvm.Cond) (a : Array Jvm.Value) (st : Jvm.State) : (allAtoms ts).before a st = ts.all (fun c => c.before a st) := by
  induction ts with
  | nil => rfl
  | cons c t ih =>
    show (Jvm.Cond.and c (allAtoms t)).before a st = _
    rw [Jvm.Cond.before_and, ih, List.all_cons]
def words1 : List Jvm.Cond := Jvm.Cond.code x code maxLocals ret :: tables_1
/-- a 'code' word, met by the world's own term for the bytes: nothing is compared byte by byte -/
theorem code_word {y : MethodName} {bytes : ByteArray} {mx : Nat} {rt : Option FieldType} {a : Array Value} {s : State} {m : MethodId} {meth : Method} {c : Code} (h1 : s.methodNamed? y = some m) (h2 : s.vm.method? m = some meth) (h3 : meth.code = some c) (h4 : c.code = bytes)
    (h5 : (c.maxLocals == mx && c.exceptionTable.isEmpty && decide (c.maxStack ≤ mostOperands) && decide (meth.sig.returnType = rt) && !meth.locks && decide (parseMethodDescriptor y.desc = some meth.sig)) = true) : (Jvm.Cond.code y bytes mx rt).before a s = true := by
  simp only [Bool.and_eq_true, beq_iff_eq, Bool.not_eq_true', decide_eq_true_eq] at h5
  obtain ⟨⟨⟨⟨⟨g1, g2⟩, g3⟩, g4⟩, g5⟩, g6⟩ := h5
  simp [Cond.before, Cond.holds, Cond.value, h1, h2, h3, h4, g1, g2, g3, g4, g5, g6]
def isCode : Jvm.Cond → Bool
  | .code _ _ _ _ => true
  | _ => false
theorem all_split {L : List Jvm.Cond} {P : Jvm.Cond → Bool} (h1 : L.all (fun c => isCode c || P c) = true) (h2 : ∀ c ∈ L.filter isCode, P c = true) : L.all P = true := by
  refine List.all_eq_true.mpr fun c hc => ?_
  have h := List.all_eq_true.mp h1 c hc
  rcases Bool.eq_false_or_eq_true (isCode c) with hi | hi
  · exact h2 c (List.mem_filter.mpr ⟨hc, hi⟩)
  · simpa [hi] using h
set_option maxRecDepth 65536 in
theorem w_c0 : (Jvm.Cond.code x code maxLocals ret).before args0 about1 = true := code_word (m := ⟨1, 1⟩) (meth := k1m1) (c := k1c1) (by decide +kernel) rfl rfl rfl (by decide +kernel)
set_option maxRecDepth 65536 in
theorem w_c1 : (Jvm.Cond.code ({ cls := "com/example/senret/senret/IndexStatistics", name := "<init>", desc := "(JI)V" } : Jvm.MethodName) prog_5_method_1_code (4 : Nat) (Option.none : Option Jvm.ClassFile.FieldType)).before args0 about1 = true := code_word (m := ⟨3, 0⟩) (meth := k3m0) (c := k3c0) (by decide +kernel) rfl rfl rfl (by decide +kernel)
set_option maxRecDepth 65536 in
theorem w_c2 : (Jvm.Cond.code ({ cls := "java/lang/Record", name := "<init>", desc := "()V" } : Jvm.MethodName) jdk_30_method_1_code (1 : Nat) (Option.none : Option Jvm.ClassFile.FieldType)).before args0 about1 = true := code_word (m := ⟨2, 0⟩) (meth := k2m0) (c := k2c0) (by decide +kernel) rfl rfl rfl (by decide +kernel)
set_option maxRecDepth 65536 in
theorem w_c3 : (Jvm.Cond.code ({ cls := "java/lang/Object", name := "<init>", desc := "()V" } : Jvm.MethodName) object_method_1_code (1 : Nat) (Option.none : Option Jvm.ClassFile.FieldType)).before args0 about1 = true := code_word (m := ⟨0, 0⟩) (meth := k0m0) (c := k0c0) (by decide +kernel) rfl rfl rfl (by decide +kernel)
set_option maxRecDepth 65536 in
theorem w_c4 : (Jvm.Cond.code ({ cls := "com/example/senret/senret/IndexStatistics", name := "meanLength", desc := "()D" } : Jvm.MethodName) prog_5_method_2_code (1 : Nat) (Option.some Jvm.ClassFile.FieldType.double)).before args0 about1 = true := code_word (m := ⟨3, 1⟩) (meth := k3m1) (c := k3c1) (by decide +kernel) rfl rfl rfl (by decide +kernel)
def codes1 : List Jvm.Cond := [Jvm.Cond.code x code maxLocals ret, Jvm.Cond.code ({ cls := "com/example/senret/senret/IndexStatistics", name := "<init>", desc := "(JI)V" } : Jvm.MethodName) prog_5_method_1_code (4 : Nat) (Option.none : Option Jvm.ClassFile.FieldType), Jvm.Cond.code ({ cls := "java/lang/Record", name := "<init>", desc := "()V" } : Jvm.MethodName) jdk_30_method_1_code (1 : Nat) (Option.none : Option Jvm.ClassFile.FieldType), Jvm.Cond.code ({ cls := "java/lang/Object", name := "<init>", desc := "()V" } : Jvm.MethodName) object_method_1_code (1 : Nat) (Option.none : Option Jvm.ClassFile.FieldType), Jvm.Cond.code ({ cls := "com/example/senret/senret/IndexStatistics", name := "meanLength", desc := "()D" } : Jvm.MethodName) prog_5_method_2_code (1 : Nat) (Option.some Jvm.ClassFile.FieldType.double)]
set_option maxRecDepth 65536 in
theorem codes_eq : words1.filter isCode = codes1 := rfl
theorem w_codes : ∀ c ∈ words1.filter isCode, c.before args0 about1 = true := by
  rw [codes_eq]
  intro c hc
  simp only [codes1, List.mem_cons, List.not_mem_nil, or_false] at hc
  rcases hc with rfl | rfl | rfl | rfl | rfl
  · exact w_c0
  · exact w_c1
  · exact w_c2
  · exact w_c3
  · exact w_c4
set_option maxRecDepth 65536 in
theorem w_t1 : (words1.take 24).all (fun c => isCode c || c.before args0 about1) = true := by decide +kernel
set_option maxRecDepth 65536 in
theorem w_t2 : (words1.drop 24).all (fun c => isCode c || c.before args0 about1) = true := by decide +kernel
theorem w_tables : (allAtoms (Jvm.Cond.code x code maxLocals ret :: tables_1)).before args0 about1 = true := by
  rw [allAtoms_all]
  show words1.all (fun c => c.before args0 about1) = true
  refine all_split ?_ w_codes
  rw [← List.take_append_drop 24 words1, List.all_append, w_t1, w_t2]
  rfl
set_option maxRecDepth 65536 in
theorem w_case : (Jvm.Cond.and given_1 narrow_1).before args0 about1 = true := by decide +kernel
theorem w_applies : (headSpec (Jvm.Cond.code x code maxLocals ret :: tables_1) room_1).applies x e0.platform about1 = true :=
  (Spec.applies_iff w_frames).mpr ⟨w_running, w_runnable, w_alone, w_named, w_hears, w_ripe, w_room, w_tables⟩
theorem atStart : AtStart classFile x code maxLocals ret World_1 tables_1 room_1 Calls_1 rest_1 Pre_1 launch0 p0 e0 about1 theMethod args0 below0 :=
  ⟨lists_1, trivial, launch0.admits_env _ _ _, launch0.least_env, fairChoices_fair.cas, fairChoices_fair.clock, w_frames, w_args, w_heap, w_applies, trivial, trivial, w_case⟩
end start1
theorem witness_1 : WitnessClaimed_1 := ⟨start1.p0, start1.e0, start1.about1, start1.theMethod, start1.args0, start1.below0, start1.atStart⟩
end Jvm.Pilot.@@N@@
